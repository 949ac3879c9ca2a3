import PyProof.Rows.All
import Wide.All
import OpenK.AllK
import Wide.FinOn
import PySem.Challenge.RW_ww0034_01
open PySem PySem.W PyProof.Rows
set_option Elab.async false

section
open PySem PySem.W PyProof.Rows

namespace Mine
set_option maxRecDepth 100000 in
set_option maxHeartbeats 8000000 in
open_top hd for PySem.Challenge.rw_ww0034_01
end Mine
end

section
open PySem PySem.W PySem.Calls PySem.Spec PyProof.Rows
set_option maxRecDepth 100000
set_option maxHeartbeats 4000000
namespace Mine
abbrev pr : Program := PySem.Challenge.rw_ww0034_01.row.prog
abbrev TT (mg mb : Str → Option Value) (h : Heap) : Prop := TopRead hd.view_39 (looseW hd.view_39 []) mg mb h
abbrev NoE : Value → Shared → Prop := fun _ _ => False

/-- a square of signs: the outer list at a, its rows at r i, their signs c i j -/
structure Gd (h : Heap) (a : Addr) (r : Nat → Addr) (c : Nat → Nat → Bool) : Prop where
  rows : h.IsList a ((List.range 11).map fun i => Value.ref (r i)).toArray
  cells : ∀ i, i < 11 → h.IsList (r i) ((List.range 11).map fun j => Value.bool (c i j)).toArray

theorem Gd.keeps {h h' : Heap} {a : Addr} {r : Nat → Addr} {c : Nat → Nat → Bool} (G : Gd h a r c) (k : ∀ b o, h.get? b = some o → h'.get? b = some o) : Gd h' a r c :=
  ⟨G.rows.at fun o e => k _ o e, fun i hi => (G.cells i hi).at fun o e => k _ o e⟩

/-- a range object, a range's iterator -/
abbrev rng (a b : Int) (t u v : Tok) : Obj := { cls := .type "range", dict := none, data := .fields #[.int a t, .int b u, .int 1 v], slots := #[] }
abbrev rit (k l : Int) : Obj := { cls := .type "range_iterator", dict := none, data := .fields #[rawInt k, rawInt l, rawInt 1], slots := #[] }

section
variable {w : World} {A : Around} {E : Value → Shared → Prop} {s : Shared}

theorem code_base {K : Frag} {p : Program} {loose : List Str} {mg mb : Str → Option Value} {R : Result → Shared → Prop} {name qual : Str} {params : Arguments} {body : List Stmt} {scope : Scope} {dV kV doc pm cdv ct oc : Value} {an od : Option Addr} {osl : Array (Option Value)} {f : Addr} {args : Args} (binds : List (Str × Value))
    (X₀ : K.In s.heap) (T : TopRead p loose mg mb s.heap)
    (ho : K.lookup f = some ⟨oc, od, .func (fnOf name qual params body scope dV kV doc pm an cdv ct), osl⟩) (hcd : codeIn K cdv qual = true) (hroom : A.depth < recursionLimit)
    (hbind : BindsTo s (fnOf name qual params body scope dV kV doc pm an cdv ct) args binds) (hloc : ∀ y ∈ binds, scope.names.lookup y.1 = some .local)
    (h : ∀ L h₁ tk, Fr s.heap L h₁ (kstB (fun _ => none) binds) → News s.heap L h₁ [] →
      wpAny (model pr w) (A.deeper (envOf qual scope L f cdv)) (execs body (envOf qual scope L f cdv))
        (fun fl s' => R (.ok (.ret (match fl with | .ret v => v | _ => .none))) s') NoE { s with heap := h₁, toks := tk })
    (hm : ∀ y, binds.reverse.lookup y = kstB (fun _ => none) binds y)
    (hco : scope.isCoroutine = false) (hgen : scope.isGenerator = false) (hk : scope.kind = .function)
    (hcell : ∀ x ∈ scope.names, x.2 ≠ .cell) : codeAny (model pr w) A (.call (.ref f) args) R s := by
  refine codeAny_call_def (fd := fnOf name qual params body scope dV kV doc pm an cdv ct) (body := body) (binds := binds) hroom (X₀ _ _ ho) rfl T.nolimit (codeRec_of X₀ hcd) rfl hbind hcell hloc (fun h₁ hns hk₁ => ?_) hco hgen hk
  rw [funext hm] at hns
  exact wpAny_noRaise (h s.heap.objs.size h₁ _ ⟨hns, hk₁, Nat.le_refl _⟩ News.nil)

theorem lookup_two {x y : Str} {v u : Value} (hxy : x ≠ y) : ∀ z, ([(x, v), (y, u)] : List (Str × Value)).reverse.lookup z = kstB (fun _ => none) [(x, v), (y, u)] z := by
  intro z
  show ([(y, u), (x, v)] : List (Str × Value)).lookup z = if z = x then some v else if z = y then some u else none
  simp only [List.lookup_cons, List.lookup_nil]
  by_cases h1 : z = x
  · subst h1
    rw [if_pos rfl]
    have : (z == y) = false := by simpa using hxy
    rw [this]; simp
  · rw [if_neg h1]
    by_cases h2 : z = y
    · subst h2; simp
    · rw [if_neg h2]
      have e1 : (z == y) = false := by simpa using h2
      have e2 : (z == x) = false := by simpa using h1
      rw [e1, e2]

theorem lookup_one {x : Str} {v : Value} : ∀ z, ([(x, v)] : List (Str × Value)).reverse.lookup z = kstB (fun _ => none) [(x, v)] z := by
  intro z
  show ([(x, v)] : List (Str × Value)).lookup z = if z = x then some v else none
  simp only [List.lookup_cons, List.lookup_nil]
  by_cases h1 : z = x
  · subst h1; simp
  · rw [if_neg h1]
    have e2 : (z == x) = false := by simpa using h1
    rw [e2]

theorem next_end {it : Addr} {x left step : Int} {Q : Option Value → Shared → Prop} (hh : A.handled = none) (hit : IsRangeIter s.heap it x left step) (hleft : left ≤ 0)
    (hQ : ∀ o o', o.isFreed = false → o'.isFreed = false → Q none { s with heap := (s.heap.push o).push o' }) : wpAny (model pr w) A (pyNext (.ref it)) Q E s := by
  have hT : s.TypeIs (.ref it) "range_iterator" := ⟨_, hit, rfl⟩
  unfold pyNext
  refine wpAny_bind (wpAny_attempt (wpAny_callSpecial?_slot (name := Str.ofString "__next__") hT PySem.F.slot_range_iterator_next
    (wpAny_call_entry PySem.F.slot_range_iterator_next hT PySem.F.entry_range_iterator_next ?_ (PySem.F.args_range_iterator_next_1 _))))
  show wpAny _ _ (field (.ref it) 0 >>= _) _ _ s
  refine wpAny_bind (wpAny_field hit rfl (x := rawInt x) rfl ?_)
  show wpAny _ _ (field (.ref it) 1 >>= _) _ _ s
  refine wpAny_bind (wpAny_field hit rfl (x := rawInt left) rfl ?_)
  show wpAny _ _ (field (.ref it) 2 >>= _) _ _ s
  refine wpAny_bind (wpAny_field hit rfl (x := rawInt step) rfl ?_)
  show wpAny _ _ (if left ≤ 0 then _ else _) _ _ s
  rw [if_pos hleft]
  refine wpAny_bind (wpAny_rule ?_)
  refine wpAny_bind ?_
  show wpAny _ _ (newExc (.type "StopIteration") [] >>= _) _ _ _
  refine wpAny_bind ?_
  simp only [newExc, newTuple]
  refine wpAny_bind (wpAny_newObj_type ?_ (by size_fits))
  refine wpAny_bind (m := firstArgMember _ _) (wpAny_of_eq (a := Value.none) (by first | rfl | (simp only [firstArgMember]; rfl)) ?_)
  refine wpAny_newObj_type ?_ (by size_fits)
  simp only [raiseNew]
  refine wpAny_bind (wpAny_handled ?_)
  first | rw [show A.in1.handled = none from hh] | rw [hh]
  refine wpAny_bind (wpAny_pure (wpAny_throw ?_))
  refine wpAny_bind (wpAny_isInstance (T := "StopIteration") (b := true) ⟨_, Heap.get?_push_size _ rfl, rfl⟩ isSubtype_stop ?_)
  exact wpAny_pure (hQ _ _ rfl rfl)

end

section
variable {w : World} {A : Around} {E : Value → Shared → Prop} {s : Shared} {h₀ : Heap} {L : Addr} {m : Str → Option Value} {news : List (Addr × Obj)}

theorem newsPush (N : News h₀ L s.heap news) (o : Obj) : News h₀ L (s.heap.push o) news := fun p hp => ⟨Heap.get?_push_of_some _ (N p hp).1, (N p hp).2⟩
theorem newsPush' {h : Heap} (N : News h₀ L h news) (o : Obj) : News h₀ L (h.push o) news := fun p hp => ⟨Heap.get?_push_of_some _ (N p hp).1, (N p hp).2⟩
theorem newsLt {h : Heap} (N : News h₀ L h news) : ∀ p ∈ news, p.1 < h.objs.size := fun p hp => Heap.lt_size (N p hp).1

/-- range(n), its object onto the ledger -/
theorem range_led {Q : Value → Shared → Prop} {n : Int} {t : Tok} (F : Fr h₀ L s.heap m) (N : News h₀ L s.heap news)
    (h : ∀ R h' tk t₁ u₁ v₁, Fr h₀ L h' m → News h₀ L h' ((R, rng 0 n t₁ u₁ v₁) :: news) → (∀ p ∈ news, p.1 < R) → Q (.ref R) { s with heap := h', toks := tk }) :
    wpAny (model pr w) A (call (.type "range") [.int n t]) Q E s :=
  call_range_1 (h _ _ _ _ _ _ (F.push _) (N.push F _) (newsLt N))
theorem range_led2 {Q : Value → Shared → Prop} {a n : Int} {t u : Tok} (F : Fr h₀ L s.heap m) (N : News h₀ L s.heap news)
    (h : ∀ R h' tk t₁ u₁ v₁, Fr h₀ L h' m → News h₀ L h' ((R, rng a n t₁ u₁ v₁) :: news) → (∀ p ∈ news, p.1 < R) → Q (.ref R) { s with heap := h', toks := tk }) :
    wpAny (model pr w) A (call (.type "range") [.int a t, .int n u]) Q E s :=
  call_range_2 (h _ _ _ _ _ _ (F.push _) (N.push F _) (newsLt N))

/-- iter of a range object of the ledger -/
theorem iter_led {Q : Value → Shared → Prop} {R : Addr} {a b n : Int} {t₁ u₁ v₁ : Tok} (F : Fr h₀ L s.heap m) (N : News h₀ L s.heap news) (hm : (R, rng a b t₁ u₁ v₁) ∈ news)
    (hsmall : Builtin.Range.small a b 1 = true) (hn : Builtin.Range.rangeSize a b 1 = n)
    (h : ∀ I h', Fr h₀ L h' m → News h₀ L h' ((I, rit a n) :: news) → (∀ p ∈ news, p.1 < I) → Q (.ref I) { s with heap := h' }) :
    wpAny (model pr w) A (pyIter (.ref R)) Q E s := by
  refine wpAny_pyIter_range (N _ hm).1 hsmall ?_
  rw [hn]
  exact h _ _ (F.push _) (N.push F _) (newsLt N)

theorem self_led {Q : Value → Shared → Prop} {I : Addr} {k l : Int} (N : News h₀ L s.heap news) (hm : (I, rit k l) ∈ news) (h : Q (.ref I) s) : wpAny (model pr w) A (pyIter (.ref I)) Q E s :=
  wpAny_pyIter_rangeiter (N _ hm).1 h

theorem frChange {h' : Heap} {h : Heap} {I : Addr} {o : Obj} (F : Fr h₀ L h m) (N : News h₀ L h news) (hm : (I, o) ∈ news) (hs : Heap.SameBut I h h') : Fr h₀ L h' m :=
  F.change hs (N _ hm).2.1 (N _ hm).2.2

theorem call_iter {Q : Value → Shared → Prop} {v : Value} (h : wpAny (model pr w) A.in1 (pyIter v) Q E s) (ha : argsOk "iter" ⟨[v], []⟩) (he : entryFor table "iter" = some Builtin.«iter») : wpAny (model pr w) A (call (.builtin "iter") [v]) Q E s := by
  refine call_function_entry (by decide +kernel) (by decide +kernel) he ha ?_
  unfold Builtin.«iter»
  refine wpAny_bind (m := someArgs "iter" 1 2 _) (wpAny_of_eq (a := [v]) (by first | rfl | kernel_rfl!) ?_)
  dsimp only
  exact wpAny_bind (wpAny_mono h (fun v s' q => wpAny_pure ⟨_, rfl, q⟩) fun _ _ q => q)


theorem nextArgs1 (a : Value) : argsOk "iter" ⟨[a], []⟩ := by unfold argsOk; kernel_rfl
theorem iterEntry : entryFor table "iter" = some Builtin.«iter» := entryFor_of_fast (by kernel_rfl)

theorem iter_call_led {Q : Value → Shared → Prop} {R : Addr} {a b n : Int} {t₁ u₁ v₁ : Tok} (F : Fr h₀ L s.heap m) (N : News h₀ L s.heap news) (hm : (R, rng a b t₁ u₁ v₁) ∈ news)
    (hsmall : Builtin.Range.small a b 1 = true) (hn : Builtin.Range.rangeSize a b 1 = n)
    (h : ∀ I h', Fr h₀ L h' m → News h₀ L h' ((I, rit a n) :: news) → (∀ p ∈ news, p.1 < I) → Q (.ref I) { s with heap := h' }) :
    wpAny (model pr w) A (call (.builtin "iter") [.ref R]) Q E s :=
  call_iter (iter_led F N hm hsmall hn h) (nextArgs1 _) iterEntry

theorem upd_led {h h' : Heap} {I : Addr} {o o' : Obj} {g : Obj → List (Addr × Obj)} (N : News h₀ L h news) (U : UpdF I o news g) (hs : Heap.SameBut I h h') (ho : h'.get? I = some o') : News h₀ L h' (g o') := by
  obtain ⟨pre, post, hl, hg, a, b⟩ := U.split
  rw [hl] at N
  rw [hg o']
  exact N.setIn a b hs ho
theorem updMem {I : Addr} {o : Obj} {g : Obj → List (Addr × Obj)} (U : UpdF I o news g) : (I, o) ∈ news := by
  obtain ⟨pre, post, hl, hg, a, b⟩ := U.split
  rw [hl]; exact List.mem_append_right _ (.head _)
theorem updSame {I : Addr} {o : Obj} {g : Obj → List (Addr × Obj)} (U : UpdF I o news g) : g o = news := by
  obtain ⟨pre, post, hl, hg, a, b⟩ := U.split
  rw [hl, hg]

theorem next_item_led {Q : Option Value → Shared → Prop} {I : Addr} {k l : Int} {g : Obj → List (Addr × Obj)} (F : Fr h₀ L s.heap m) (N : News h₀ L s.heap news) (U : UpdF I (rit k l) news g) (hl : 0 < l)
    (h : ∀ h' t tk, Fr h₀ L h' m → News h₀ L h' (g (rit (k + 1) (l - 1))) → Q (some (.int k t)) { s with heap := h', toks := tk }) : wpAny (model pr w) A (pyNext (.ref I)) Q E s := by
  have hm := updMem U
  exact wpAny_pyNext_range_item (N _ hm).1 hl fun h' hit hs => h h' _ _ (frChange F N hm hs) (upd_led N U hs hit)
theorem next_end_led {Q : Option Value → Shared → Prop} {I : Addr} {k l : Int} (hh : A.handled = none) (F : Fr h₀ L s.heap m) (N : News h₀ L s.heap news) (hm : (I, rit k l) ∈ news) (hl : l ≤ 0)
    (h : ∀ h', Fr h₀ L h' m → News h₀ L h' news → Q none { s with heap := h' }) : wpAny (model pr w) A (pyNext (.ref I)) Q E s :=
  next_end hh (N _ hm).1 hl fun o o' _ _ => h _ ((F.push o).push o') (newsPush' (newsPush' N o) o')

theorem nextEntry : entryFor table "next" = some Builtin.«next» := entryFor_of_fast (by kernel_rfl)
theorem nextArgs2 (a b : Value) : argsOk "next" ⟨[a, b], []⟩ := by unfold argsOk; kernel_rfl

/-- next(it, d) of a range's iterator: it goes on by one, or stands at its end -/
theorem next_call_led {Q : Value → Shared → Prop} {I : Addr} {k n : Int} {d : Value} {g : Obj → List (Addr × Obj)} (hh : A.handled = none) (F : Fr h₀ L s.heap m) (N : News h₀ L s.heap news) (U : UpdF I (rit k (n - k)) news g)
    (h : ∀ v h' tk k', (k < n → k' = k + 1) → (n ≤ k → k' = k) → Fr h₀ L h' m → News h₀ L h' (g (rit k' (n - k'))) → Q v { s with heap := h', toks := tk }) :
    wpAny (model pr w) A (call (.builtin "next") [.ref I, d]) Q E s := by
  have hm := updMem U
  have hT : s.TypeIs (.ref I) "range_iterator" := ⟨_, (N _ hm).1, rfl⟩
  refine call_function_entry (by decide +kernel) (by decide +kernel) nextEntry (nextArgs2 _ _) ?_
  unfold Builtin.«next»
  refine wpAny_bind (m := someArgs "next" 1 2 _) (wpAny_of_eq (a := [Value.ref I, d]) (by first | rfl | kernel_rfl!) ?_)
  dsimp only
  refine wpAny_bind (wpAny_specialOf (name := Str.ofString "__next__") hT PySem.F.slot_range_iterator_next.lookup ?_)
  refine wpAny_ite_split (fun hab => absurd hab (by decide)) (fun _ => ?_)
  by_cases hl : k < n
  · refine wpAny_bind (next_item_led F N U (by omega) fun h' t tk F' N' => ?_)
    have e : n - k - 1 = n - (k + 1) := by omega
    rw [e] at N'
    exact wpAny_pure ⟨_, rfl, h _ h' tk (k + 1) (fun _ => rfl) (fun hq => by omega) F' N'⟩
  · refine wpAny_bind (next_end_led hh F N hm (by omega) fun h' F' N' => ?_)
    refine wpAny_pure ⟨_, rfl, h _ h' _ k (fun hq => absurd hq hl) (fun _ => rfl) F' ?_⟩
    rw [updSame U]; exact N'

/-- a loop, behind its head -/
def LoopR (w : World) (A : Around) (env : Env) (x : Str) (px : Pos) (body : List Stmt) (Q : Flow → Shared → Prop) (it : Value) (s : Shared) : Prop :=
  codeAny (model pr w) A (.forLoop (.Name x px) it body [] env) (fun r s' => match r with | .ok f => Q f s' | .error _ => False) s

theorem For_R {env : Env} {x : Str} {px pos : Pos} {iter : Expr} {body : List Stmt} {Q : Flow → Shared → Prop}
    (h : wpAny (model pr w) A (eval iter env) (fun xv s₁ => wpAny (model pr w) A (pyIter xv) (fun it s₂ => LoopR w A env x px body Q it s₂) NoE s₁) NoE s)
    (hs : ∀ x, foldedSetIterable iter env x = pure x := by intro _; rfl) :
    wpAny (model pr w) A (exec (.For (.Name x px) iter body [] pos) env) Q NoE s := by
  refine wpAny_For (wpAny_mono h (fun xv s₁ h₁ => wpAny_mono h₁ (fun it s₂ h₂ => ?_) fun _ _ e => e) fun _ _ e => e) hs
  exact codeAny_mono h₂ fun r s' q => by cases r with
    | ok f => exact q
    | error e => exact q.elim

/-- what a turn leaves -/
def GdTurn {σ : Type} (h₀ : Heap) (L I : Addr) (n : Int) (ps : Int → σ → List (Str × Value)) (Led : Int → σ → List (Addr × Obj)) (P : Int → σ → Prop) (k : Int) (s : Shared) (f : Flow) (s₃ : Shared) : Prop :=
  (f = .next ∨ f = .cont) ∧ ∃ k' c' h' tk' m', k < k' ∧ k' ≤ n ∧ s₃ = { s with heap := h', toks := tk' } ∧ Fr h₀ L h' m' ∧ News h₀ L h' ((I, rit k' (n - k')) :: Led k' c') ∧ (∀ p ∈ ps k' c', m' p.1 = some p.2) ∧ P k' c'

theorem gdTurn {σ : Type} {I : Addr} {n k k' : Int} {c' : σ} {ps : Int → σ → List (Str × Value)} {Led : Int → σ → List (Addr × Obj)} {P : Int → σ → Prop} {f : Flow} {h' : Heap} {tk' : Nat} {m' : Str → Option Value}
    (F : Fr h₀ L h' m') (N : News h₀ L h' ((I, rit k' (n - k')) :: Led k' c')) (hf : f = .next ∨ f = .cont) (h1 : k < k') (h2 : k' ≤ n) (hps : ∀ p ∈ ps k' c', m' p.1 = some p.2) (hP : P k' c') :
    GdTurn h₀ L I n ps Led P k s f { s with heap := h', toks := tk' } := ⟨hf, k', c', h', tk', m', h1, h2, rfl, F, N, hps, hP⟩

theorem frB {h : Heap} {ps : List (Str × Value)} (hp : ∀ p ∈ ps, m p.1 = some p.2) (F : Fr h₀ L h m) : Fr h₀ L h (kstB m ps) := by
  have : kstB m ps = m := funext fun z => kstB_eq hp fun _ => rfl
  rw [this]; exact F
theorem frB' {h : Heap} {x : Str} {v : Value} {ps : List (Str × Value)} (hp : ∀ p ∈ ps, m p.1 = some p.2) (F : Fr h₀ L h (fun y => if y = x then some v else m y)) : Fr h₀ L h (fun y => if y = x then some v else kstB m ps y) := by
  have : kstB m ps = m := funext fun z => kstB_eq hp fun _ => rfl
  rw [this]; exact F

theorem loop_rit {σ : Type} {env : Env} {x : Str} {px : Pos} {body : List Stmt} {Q : Flow → Shared → Prop} {I : Addr} {k₀ l₀ n : Int}
    (ps : Int → σ → List (Str × Value)) (Led : Int → σ → List (Addr × Obj)) (P : Int → σ → Prop) (c₀ : σ)
    (hh : A.handled = none) (hx : env.kindOf x = some .local) (hp : (env.scope.kind == .class || (env.scope.kind == .module && env.locals != env.globals)) = false)
    (F : Fr h₀ env.locals s.heap m) (N : News h₀ env.locals s.heap ((I, rit k₀ l₀) :: Led k₀ c₀)) (hl : l₀ = n - k₀) (hk : k₀ ≤ n) (hoff : ∀ k c, ∀ p ∈ Led k c, p.1 ≠ I)
    (hps : ∀ p ∈ ps k₀ c₀, m p.1 = some p.2) (hP : P k₀ c₀)
    (turn : ∀ k c (u : Str → Option Value) h tk t, k₀ ≤ k → k < n → P k c → Fr h₀ env.locals h (fun y => if y = x then some (.int k t) else kstB u (ps k c) y) → News h₀ env.locals h ((I, rit (k + 1) (n - (k + 1))) :: Led k c) →
      wpAny (model pr w) A (execs body env) (GdTurn h₀ env.locals I n ps Led P k s) NoE { s with heap := h, toks := tk })
    (done : ∀ c (u : Str → Option Value) h tk, P n c → Fr h₀ env.locals h (kstB u (ps n c)) → News h₀ env.locals h ((I, rit n 0) :: Led n c) → Q .next { s with heap := h, toks := tk }) :
    LoopR w A env x px body Q (.ref I) s := by
  unfold LoopR
  subst hl
  refine codeAny_forLoop (fun j s' => ∃ k c h tk m', j = (n - k).toNat + 1 ∧ k₀ ≤ k ∧ k ≤ n ∧ s' = { s with heap := h, toks := tk } ∧ Fr h₀ env.locals h m' ∧ News h₀ env.locals h ((I, rit k (n - k)) :: Led k c) ∧ (∀ p ∈ ps k c, m' p.1 = some p.2) ∧ P k c) ?_ _
    ⟨k₀, c₀, s.heap, s.toks, m, rfl, Int.le_refl _, hk, rfl, F, N, hps, hP⟩
  rintro j s' ⟨k, c, h, tk, m', rfl, hk0, hkn, rfl, F', N', hps', hP'⟩
  by_cases hlt : k < n
  · refine next_item_led (g := fun o => (I, o) :: Led k c) F' N' (.head (hoff k c)) (by omega) fun h' t tk' F₁ N₁ => ?_
    refine wpAny_assign_Name (wpAny_storeName_local hx F₁.ns (fun h₂ hn₂ hs₂ => ?_) hp)
    have e : n - k - 1 = n - (k + 1) := by omega
    rw [e] at N₁
    refine wpAny_mono (turn k c m' h₂ _ t hk0 hlt hP' (frB' hps' (F₁.set hn₂ hs₂)) (N₁.set hs₂)) (fun f s₃ q => ?_) fun _ _ q => q.elim
    obtain ⟨hf, k', c', h₃, tk₃, m₃, hkk, hkn', rfl, F₃, N₃, hps₃, hP₃⟩ := q
    have fin : ∃ m, m < (n - k).toNat + 1 ∧ ∃ k c h tk m', m = (n - k).toNat + 1 ∧ k₀ ≤ k ∧ k ≤ n ∧ ({ s with heap := h₃, toks := tk₃ } : Shared) = { s with heap := h, toks := tk } ∧ Fr h₀ env.locals h m' ∧ News h₀ env.locals h ((I, rit k (n - k)) :: Led k c) ∧ (∀ p ∈ ps k c, m' p.1 = some p.2) ∧ P k c :=
      ⟨(n - k').toNat + 1, by omega, k', c', h₃, tk₃, m₃, rfl, by omega, hkn', rfl, F₃, N₃, hps₃, hP₃⟩
    rcases hf with rfl | rfl <;> exact fin
  · have e : k = n := by omega
    subst e
    refine next_end_led hh F' N' (.head _) (by omega) fun h' F₁ N₁ => ?_
    refine wpAny_execs_nil ?_
    have e : k - k = 0 := by omega
    rw [e] at N₁
    exact done c m' h' _ hP' (frB hps' F₁) N₁

/-- a row of the square, a sign of a row, by an open place -/
theorem item_row {Q : Value → Shared → Prop} {value slice : Expr} {a : Addr} {r : Nat → Addr} {c : Nat → Nat → Bool} {k : Int} {u : Tok} (F : Fr h₀ L s.heap m) (G : Gd h₀ a r c) (h0 : 0 ≤ k) (h1 : k < 11)
    (h : Q (.ref (r k.toNat)) s)
    (hs : subscripted slice false (.ref a) (.int k u) = operate [.ref a, .int k u] (getItem (.ref a) (.int k u)) := by with_unfolding_all rfl) :
    wpAny (model pr w) A (subscriptTail value slice (.ref a) (.int k u)) Q E s := by
  have hl := (G.keeps F.keep).rows
  refine tail_any hl.typeIs slot_list_getitem.lookup (wpAny_getItem_list hl h0 (by omega) ?_ h) hs
  have : k.toNat < 11 := by omega
  simp [this]
theorem item_cell {Q : Value → Shared → Prop} {value slice : Expr} {a : Addr} {r : Nat → Addr} {c : Nat → Nat → Bool} {i : Nat} {k : Int} {u : Tok} (F : Fr h₀ L s.heap m) (G : Gd h₀ a r c) (hi : i < 11) (h0 : 0 ≤ k) (h1 : k < 11)
    (h : Q (.bool (c i k.toNat)) s)
    (hs : subscripted slice false (.ref (r i)) (.int k u) = operate [.ref (r i), .int k u] (getItem (.ref (r i)) (.int k u)) := by with_unfolding_all rfl) :
    wpAny (model pr w) A (subscriptTail value slice (.ref (r i)) (.int k u)) Q E s := by
  have hl := (G.keeps F.keep).cells i hi
  refine tail_any hl.typeIs slot_list_getitem.lookup (wpAny_getItem_list hl h0 (by omega) ?_ h) hs
  have : k.toNat < 11 := by omega
  simp [this]

end
end Mine
end

section
open PySem PySem.W PySem.Calls PySem.Spec PyProof.Rows
set_option maxRecDepth 100000
set_option maxHeartbeats 4000000
namespace Mine
section
variable {w : World} {A : Around} {env : Env} {s : Shared}
/-- a test that is worth b, whatever its ways: it makes but tokens -/
def Tst (w : World) (A : Around) (env : Env) (s : Shared) (e : Expr) (b : Bool) : Prop :=
  ∀ tk (Q : Bool → Shared → Prop), (∀ tk', Q b { s with toks := tk' }) → wpAny (model pr w) A (isTrue e env (eval e env)) Q NoE { s with toks := tk }
def TstA (w : World) (A : Around) (env : Env) (s : Shared) (op : BoolOp) (es : List Expr) (b : Bool) : Prop :=
  ∀ tk (Q : Bool → Shared → Prop), (∀ tk', Q b { s with toks := tk' }) → wpAny (model pr w) A (allTrue op es env) Q NoE { s with toks := tk }
theorem tst_not {e : Expr} {pos : Pos} {b : Bool} (h : Tst w A env s e b) : Tst w A env s (.UnaryOp .Not e pos) (!b) :=
  fun tk _ hq => wpAny_isTrue_Not (h tk _ fun tk' => hq tk')
theorem tst_op {op : BoolOp} {es : List Expr} {pos : Pos} {b : Bool} (h : TstA w A env s op es b) : Tst w A env s (.BoolOp op es pos) b :=
  fun tk _ hq => wpAny_isTrue_BoolOp (h tk _ hq)
theorem tst_and_nil : TstA w A env s .And [] true := fun _ _ hq => wpAny_allTrue_And_nil (hq _)
theorem tst_or_nil : TstA w A env s .Or [] false := fun _ _ hq => wpAny_allTrue_Or_nil (hq _)
theorem tst_and {e : Expr} {es : List Expr} {b c : Bool} (h1 : Tst w A env s e b) (h2 : TstA w A env s .And es c) : TstA w A env s .And (e :: es) (b && c) :=
  fun tk Q hq => wpAny_allTrue_And_cons (h1 tk _ fun tk' => by
    cases b with
    | true => simp only [if_true]; exact h2 tk' Q hq
    | false => simp only [Bool.false_eq_true, if_false]; exact hq tk')
theorem tst_or {e : Expr} {es : List Expr} {b c : Bool} (h1 : Tst w A env s e b) (h2 : TstA w A env s .Or es c) : TstA w A env s .Or (e :: es) (b || c) :=
  fun tk Q hq => by
    show wpAny (model pr w) A (do match BoolOp.Or, ← isTrue e env (eval e env) with | .And, false => pure false | .Or, true => pure true | _, _ => allTrue .Or es env) Q NoE _
    refine wpAny_bind (h1 tk _ fun tk' => ?_)
    cases b with
    | true => exact wpAny_pure (hq tk')
    | false => exact h2 tk' Q hq
theorem if_tst {test : Expr} {body orelse : List Stmt} {pos : Pos} {b : Bool} {Q : Flow → Shared → Prop} (T : Tst w A env s test b)
    (ht : ∀ tk, b = true → wpAny (model pr w) A (execs body env) Q NoE { s with toks := tk }) (hf : ∀ tk, b = false → wpAny (model pr w) A (execs orelse env) Q NoE { s with toks := tk }) :
    wpAny (model pr w) A (exec (.If test body orelse pos) env) Q NoE s := by
  refine wpAny_If (T s.toks _ fun tk => ?_)
  cases b with
  | true => simp only [if_true]; exact ht tk rfl
  | false => simp only [Bool.false_eq_true, if_false]; exact hf tk rfl
end
end Mine
end

section
open PySem PySem.W PySem.Calls PySem.Spec PyProof.Rows
set_option maxRecDepth 100000
set_option maxHeartbeats 4000000
namespace Mine
theorem slot_map_init : Slot "map" "__init__" "object.__init__" :=
  .of (owner := "object") (n := "__init__") (by rw [typeLookup_type, builtinLookup_eq_fast]; kernel_rfl) (by decide +kernel) (by decide +kernel) (by decide +kernel)
    (by first | exact .inl (by decide +kernel) | exact .inr (by decide +kernel)) (by rw [isSubtype_type]; kernel_rfl)
theorem slot_map_next : Slot "map" "__next__" "map.__next__" :=
  .of (owner := "map") (n := "__next__") (by rw [typeLookup_type, builtinLookup_eq_fast]; kernel_rfl) (by decide +kernel) (by decide +kernel) (by decide +kernel)
    (by first | exact .inl (by decide +kernel) | exact .inr (by decide +kernel)) (by rw [isSubtype_type]; kernel_rfl)
theorem slot_map_iter : Slot "map" "__iter__" "map.__iter__" :=
  .of (owner := "map") (n := "__iter__") (by rw [typeLookup_type, builtinLookup_eq_fast]; kernel_rfl) (by decide +kernel) (by decide +kernel) (by decide +kernel)
    (by first | exact .inl (by decide +kernel) | exact .inr (by decide +kernel)) (by rw [isSubtype_type]; kernel_rfl)
theorem owner_map : Manifest.owners.lookup (String.ofList ['p', 'a', 'm'].reverse) = some Manifest.sig_map := by kernel_rfl
theorem entry_map_iter : entryFor table "map.__iter__" = some Builtin.«dict_keyiterator.__iter__» :=
  entryFor_alias (id' := "dict_keyiterator.__iter__") (by kernel_rfl) (by first | rfl | decide +kernel | (unfold String.splitOn; simp +decide [String.splitOnAux])) (by decide +kernel) (by kernel_rfl)
theorem args_map_iter_1 (a : Value) : argsOk "map.__iter__" ⟨[a], []⟩ := by
  unfold argsOk; rw [signature?_of (id := "map.__iter__") (n := ['_', '_', 'r', 'e', 't', 'i', '_', '_']) (o := ['p', 'a', 'm']) (by kernel_rfl) owner_map]; kernel_rfl
theorem args_map_next_1 (a : Value) : argsOk "map.__next__" ⟨[a], []⟩ := by
  unfold argsOk; rw [signature?_of (id := "map.__next__") (n := ['_', '_', 't', 'x', 'e', 'n', '_', '_']) (o := ['p', 'a', 'm']) (by kernel_rfl) owner_map]; kernel_rfl
theorem entry_map_next : entryFor table "map.__next__" = some Builtin.«map.__next__» := entryFor_of_tree (by kernel_rfl)
theorem entry_map_new : entryFor table "map.__new__" = some Builtin.«map.__new__» := entryFor_of_tree (by kernel_rfl)
theorem mro_map : mroOf (.type "map") = pure [.type "map", .type "object"] := by rw [mroOf_type]; kernel_rfl
theorem lookup_map_new : typeLookup (.type "map") "__new__" = pure (some (.builtin "map.__new__")) := by rw [typeLookup_type, builtinLookup_eq_fast]; kernel_rfl
theorem called_map : TypeCalled "map" "map.__new__" "object.__init__" :=
  ⟨by decide +kernel, by decide +kernel, ⟨_, _, mro_map⟩, PySem.madeBy_type mro_map lookup_map_new (by decide +kernel), by decide +kernel, by rw [isSubtype_type]; kernel_rfl, slot_map_init⟩
theorem typeCall_map_2 (a b : Value) : checkTypeCall "map" ⟨[a, b], []⟩ = pure () := by kernel_rfl
theorem newCall_map_2 (a b : Value) : checkBuiltinCall "map.__new__" ⟨[.type "map", a, b], []⟩ = pure () := by kernel_rfl
theorem sub_map : isSubtype (.type "map") (.type "map") = pure true := by rw [isSubtype_type]; kernel_rfl

abbrev IsMap (h : Heap) (M TI : Addr) : Prop := h.get? M = some { cls := .type "map", dict := none, data := .fields #[.ref TI, .builtin "sum"], slots := #[] }
abbrev IsOne (h : Heap) (T : Addr) (a : Value) : Prop := h.get? T = some { cls := .type "tuple", data := .seq #[a] }
abbrev mapH1 (h : Heap) (l : Addr) : Heap := h.push { cls := .type "list_iterator", data := .fields #[.ref l, .int 0 0] }
abbrev mapH2 (h : Heap) (l : Addr) : Heap := (mapH1 h l).push { cls := .type "tuple", data := .seq #[.ref h.objs.size] }
abbrev mapH3 (h : Heap) (l : Addr) : Heap := (mapH2 h l).push { cls := .type "map", data := .fields #[.ref (mapH1 h l).objs.size, .builtin "sum"] }

theorem meets_map_new (l : Addr) (xs : Array Value) :
    Meets (Builtin.«map.__new__» ⟨[.type "map", .builtin "sum", .ref l], []⟩) (fun _ R s => s.heap.IsList l xs ∧
      R (.ok (.ret (.ref (mapH2 s.heap l).objs.size))) { s with heap := mapH3 s.heap l }) :=
  .of_wp fun prog w A R s h => by
    obtain ⟨hp, g, d, tk, os⟩ := s; obtain ⟨hl1, h⟩ := h
    have hsub := sub_map
    have hL1 : Heap.IsList (Shared.heap ⟨hp, g, d, tk, os⟩) l xs := hl1
    wp_walk using wpAny_pyIter_list hL1
    exact ⟨_, rfl, h⟩
end Mine
end

section
open PySem PySem.W PySem.Calls PySem.Spec PyProof.Rows
set_option maxRecDepth 100000
set_option maxHeartbeats 4000000
namespace Mine
/-- an int or a bool that is worth x -/
def NumIs (v : Value) (x : Int) : Prop := (∃ t, v = .int x t) ∨ ∃ b : Bool, v = .bool b ∧ x = if b then 1 else 0

section
variable {w : World} {A : Around} {R : Result → Shared → Prop} {I : Addr} {fp wr : List Addr} {n : Nat} {P : Nat → Value → Prop} {St : Nat → Heap → Prop}

theorem sum_loop_num (W : Walks pr w A.in1 I fp wr n P St) (val : Nat → Int) (hval : ∀ i v, P i v → NumIs v (val i)) (hfit : ∀ j, j < n → InLong (val j) ∧ InLong (preSum val (j + 1))) (S : Addr) (hSf : S ∉ fp) :
    ∀ (k i : Nat) (s : Shared) (tA : Tok) (c : Nat), n - i = k → i ≤ n → St i s.heap → s.heap.get? S = some { cls := .type "list", dict := none, data := .seq #[.int (preSum val i) tA] c, slots := #[] } →
    (∀ h' tk t', (∀ b o, b ∉ wr → b ≠ S → s.heap.get? b = some o → h'.get? b = some o) → R (.ok (.ret (.int (preSum val n) t'))) { s with heap := h', toks := tk }) →
    codeAny (model pr w) A (.builtin "sum.loop" ⟨[.ref I, .ref S, rawInt 0, rawInt 0], []⟩) R s := by
  have hSw : S ∉ wr := fun h => hSf (W.sub _ h)
  intro k
  induction k with
  | zero =>
    intro i s tA c hk hi hst hS hR
    have hin : i = n := by omega
    subst hin
    refine codeAny_builtin PySem.F.entry_sum_loop ?_
    rw [Around.under_plainId PySem.F.plain_sum_loop _]
    show wpAny _ A.in1 (seqItems? (.ref S) >>= _) _ _ s
    refine wpAny_bind (wpAny_seqItems hS rfl ?_)
    show wpAny _ A.in1 (tryCatch (pyNext (.ref I)) _ >>= _) _ _ s
    refine wpAny_bind (wpAny_tryCatch (W.done s _ _ hst fun h' tk hk' => ?_))
    exact wpAny_pure (hR h' tk tA fun b o hbw _ e => hk' b o hbw e)
  | succ k ih =>
    intro i s tA c hk hi hst hS hR
    have hlt : i < n := by omega
    refine codeAny_builtin PySem.F.entry_sum_loop ?_
    rw [Around.under_plainId PySem.F.plain_sum_loop _]
    show wpAny _ A.in1 (seqItems? (.ref S) >>= _) _ _ s
    refine wpAny_bind (wpAny_seqItems hS rfl ?_)
    show wpAny _ A.in1 (tryCatch (pyNext (.ref I)) _ >>= _) _ _ s
    refine wpAny_bind (wpAny_tryCatch (W.item i s _ _ hlt hst fun v h' tk hP hst' hk' => ?_))
    have hS' := hk' S _ hSw hS
    obtain ⟨⟨f1, f2⟩, f3, f4⟩ := hfit i hlt
    have step : ∀ x : Int, val i = x → wpAny (model pr w) A.in1 (if ((decide (-(2 ^ 63) ≤ x) && decide (x < 2 ^ 63)) && (decide (-(2 ^ 63) ≤ preSum val i + x) && decide (preSum val i + x < 2 ^ 63))) = true then (do
          let v ← mkInt (preSum val i + x)
          updateSeq S fun _ => #[v]
          again (.builtin "sum.loop" ⟨[.ref I, .ref S, rawInt 0, rawInt 0], []⟩)) else (Sem.unsupported "no" : Sem Fin))
        (fun fin s' => match fin with | .done f => R (.ok f) s' | .again c' => c'.quiet = true ∧ codeAny (model pr w) A c' R s') (fun e s' => R (.error e) s') { s with heap := h', toks := tk } := by
      rintro x rfl
      have hc : ((decide (-(2 ^ 63) ≤ val i) && decide (val i < 2 ^ 63)) && (decide (-(2 ^ 63) ≤ preSum val i + val i) && decide (preSum val i + val i < 2 ^ 63))) = true := by
        simp only [preSum] at f3 f4
        simp only [Bool.and_eq_true, decide_eq_true_eq]
        exact ⟨⟨f1, f2⟩, f3, f4⟩
      rw [if_pos hc]
      refine wpAny_bind (wpAny_mkInt ?_)
      refine wpAny_bind ?_
      refine wpAny_updateSeq hS' rfl (wpAny_pure ⟨plainId_quiet PySem.F.plain_sum_loop _, ih (i + 1) _ tk _ (by omega) hlt (W.frame _ _ _ hst' fun b hb o e => ?_) (Heap.get?_update_self _ hS' rfl) fun h'' tk'' t'' hk'' => ?_⟩)
      · exact (Heap.get?_update_other _ _ (fun h : S = b => hSf (by rw [h]; exact hb))).trans e
      · exact hR h'' tk'' t'' fun b o hbw hbS e => hk'' b o hbw hbS ((Heap.get?_update_other _ _ (Ne.symm hbS)).trans (hk' b o hbw e))
    have good : ∀ x : Int, val i = x → ((decide (-(2 ^ 63) ≤ x) && decide (x < 2 ^ 63)) && (decide (-(2 ^ 63) ≤ preSum val i + x) && decide (preSum val i + x < 2 ^ 63))) = true := by
      rintro x rfl
      simp only [preSum] at f3 f4
      simp only [Bool.and_eq_true, decide_eq_true_eq]
      exact ⟨⟨f1, f2⟩, f3, f4⟩
    rcases hval i v hP with ⟨t, rfl⟩ | ⟨b, rfl, e⟩
    · have g := good _ rfl
      have z := step _ rfl
      rw [if_pos g] at z
      show wpAny _ A.in1 (if (_ : Bool) = true then (mkInt (preSum val i + val i) >>= _) else _) _ _ _
      split
      · exact z
      · rename_i hneg; exact absurd g hneg
    · cases b with
      | true =>
        have e1 : val i = 1 := by simpa using e
        have g := good 1 e1
        have z := step 1 e1
        rw [if_pos g] at z
        show wpAny _ A.in1 (if ((decide (-(2 ^ 63) ≤ (1 : Int)) && decide ((1 : Int) < 2 ^ 63)) && (decide (-(2 ^ 63) ≤ preSum val i + 1) && decide (preSum val i + 1 < 2 ^ 63))) = true then (mkInt (preSum val i + 1) >>= _) else _) _ _ _
        rw [if_pos g]
        exact z
      | false =>
        have e1 : val i = 0 := by simpa using e
        have g := good 0 e1
        have z := step 0 e1
        rw [if_pos g] at z
        show wpAny _ A.in1 (if ((decide (-(2 ^ 63) ≤ (0 : Int)) && decide ((0 : Int) < 2 ^ 63)) && (decide (-(2 ^ 63) ≤ preSum val i + 0) && decide (preSum val i + 0 < 2 ^ 63))) = true then (mkInt (preSum val i + 0) >>= _) else _) _ _ _
        rw [if_pos g]
        exact z
end

section
variable {w : World} {A : Around} {E : Value → Shared → Prop} {s : Shared}
theorem call_sum_num {x : Value} {Q : Value → Shared → Prop}
    (h : wpAny (model pr w) A.in1 (pyIter x) (fun it s₂ => ∃ I fp wr n P St val, it = .ref I ∧ Walks pr w A.in1 I fp wr n P St ∧ St 0 s₂.heap ∧ (∀ b ∈ fp, b < s₂.heap.objs.size) ∧
      (∀ i v, P i v → NumIs v (val i)) ∧ (∀ j, j < n → InLong (val j) ∧ InLong (preSum val (j + 1))) ∧
      ∀ h' tk t', (∀ b o, b ∉ wr → s₂.heap.get? b = some o → h'.get? b = some o) → Q (.int (preSum val n) t') { s₂ with heap := h', toks := tk }) E s) :
    wpAny (model pr w) A (call (.builtin "sum") [x]) Q E s := by
  refine call_function_tree PySem.F.kind_sum PySem.F.plain_sum PySem.F.entry_sum (PySem.F.args_sum1 _) ?_
  unfold Builtin.«sum»
  simp only [List.length_cons, List.length_nil]
  rw [if_neg (by decide)]
  refine wpAny_bind (wpAny_of_eq (show Builtin.Builtins.bindParams "sum" ["start"] 0 { } = pure [none] from rfl) ?_)
  refine wpAny_bind (wpAny_mono h (fun it s₂ h₂ => ?_) fun _ _ e => e)
  obtain ⟨I, fp, wr, n, P, St, val, rfl, W, hst, hfp, hval, hfit, hQ⟩ := h₂
  refine wpAny_bind (wpAny_mkInt ?_)
  refine wpAny_bind (wpAny_pure ?_)
  simp only [List.forIn_cons, List.forIn_nil]
  refine wpAny_bind (wpAny_bind (wpAny_bind (wpAny_isInstance (T := "int") (b := false) (typeIs_int _ _ _) PySem.sub_int_str ?_)))
  simp only [Bool.false_eq_true, if_false]
  refine wpAny_pure (wpAny_bind (wpAny_bind (wpAny_isInstance (T := "int") (b := false) (typeIs_int _ _ _) PySem.sub_int_bytes ?_)))
  simp only [Bool.false_eq_true, if_false]
  refine wpAny_pure (wpAny_bind (wpAny_bind (wpAny_isInstance (T := "int") (b := false) (typeIs_int _ _ _) PySem.sub_int_bytearray ?_)))
  simp only [Bool.false_eq_true, if_false]
  refine wpAny_pure (wpAny_pure ?_)
  refine wpAny_bind (wpAny_newObj_type ?_)
  have hSf : s₂.heap.objs.size ∉ fp := fun hm => Nat.lt_irrefl _ (hfp _ hm)
  refine wpAny_pure ⟨plainId_quiet PySem.F.plain_sum_loop _, sum_loop_num W val hval hfit s₂.heap.objs.size hSf n 0 _ s₂.toks 0 rfl (Nat.zero_le _)
    (W.frame _ _ _ hst fun b _ o e => Heap.get?_push_of_some _ e) (Heap.get?_push_size _ rfl) fun h' tk t' hk => ?_⟩
  exact hQ h' tk t' fun b o hbw e => hk b o hbw (Nat.ne_of_lt (Heap.lt_size e)) (Heap.get?_push_of_some _ e)

def b2i (b : Bool) : Int := if b then 1 else 0
theorem preSum_bits (f : Nat → Bool) : ∀ n, 0 ≤ preSum (fun j => b2i (f j)) n ∧ preSum (fun j => b2i (f j)) n ≤ n
  | 0 => ⟨Int.le_refl _, Int.le_refl _⟩
  | n + 1 => by
    have ⟨h1, h2⟩ := preSum_bits f n
    simp only [preSum]
    unfold b2i at *
    cases f n <;> simp <;> omega

/-- a row's dark signs -/
def dark (f : Nat → Bool) : Int := preSum (fun j => b2i (f j)) 11

theorem sum_row {l : Addr} {f : Nat → Bool} {Q : Value → Shared → Prop} (hh : A.handled = none) (hl : s.heap.IsList l ((List.range 11).map fun j => Value.bool (f j)).toArray)
    (h : ∀ h' tk t, (∀ b o, s.heap.get? b = some o → h'.get? b = some o) → Q (.int (dark f) t) { s with heap := h', toks := tk }) : wpAny (model pr w) A (call (.builtin "sum") [.ref l]) Q E s := by
  refine call_sum_num (wpAny_pyIter_list hl ?_)
  have hlt : l < s.heap.objs.size := by obtain ⟨o, ho, _⟩ := hl; exact Heap.lt_size ho
  refine ⟨s.heap.objs.size, _, _, 11, _, _, fun j => b2i (f j), rfl, Walks.list (A := A.in1) hh s.heap.objs.size l (Nat.ne_of_lt hlt) ((List.range 11).map fun j => Value.bool (f j)).toArray, ⟨⟨_, Heap.get?_push_size _ rfl, rfl, rfl⟩, hl.push _⟩, ?_, ?_, ?_, ?_⟩
  · intro b hb
    show b < (s.heap.push _).objs.size
    rw [Heap.size_push]
    rcases List.mem_cons.mp hb with rfl | hb
    · exact Nat.lt_succ_self _
    · rw [List.mem_singleton.mp hb]; exact Nat.lt_succ_of_lt hlt
  · intro i v hv
    have hi : i < 11 := by
      rcases Nat.lt_or_ge i 11 with h | h
      · exact h
      · simp [h] at hv
    have e : v = .bool (f i) := by simpa [hi] using hv.symm
    exact .inr ⟨f i, e, rfl⟩
  · intro j hj
    have ⟨h1, h2⟩ := preSum_bits f (j + 1)
    refine ⟨?_, ?_⟩
    · show InLong (b2i (f j)); unfold InLong; cases f j <;> decide
    · unfold InLong; omega
  · intro h' tk t' hk
    refine h h' tk t' fun b o e => hk b o ?_ (Heap.get?_push_of_some _ e)
    intro hm
    rw [List.mem_singleton.mp hm] at e
    exact absurd (Heap.lt_size e) (Nat.lt_irrefl _)
end
end Mine
end

section
open PySem PySem.W PySem.Calls PySem.Spec PyProof.Rows
set_option maxRecDepth 100000
set_option maxHeartbeats 4000000
namespace Mine
section
variable {w : World} {A : Around} {E : Value → Shared → Prop} {s : Shared}

theorem call_map_2 {l : Addr} {xs : Array Value} {Q : Value → Shared → Prop} (hl : s.heap.IsList l xs)
    (h : ∀ h', IsMap h' (s.heap.objs.size + 2) (s.heap.objs.size + 1) → IsOne h' (s.heap.objs.size + 1) (.ref s.heap.objs.size) → h'.IsListIter s.heap.objs.size l 0 → h'.objs.size = s.heap.objs.size + 3 →
      (∀ c o, s.heap.get? c = some o → h'.get? c = some o) → Q (.ref (s.heap.objs.size + 2)) { s with heap := h' }) :
    wpAny (model pr w) A (call (.type "map") [.builtin "sum", .ref l]) Q E s := by
  refine callType_new called_map (by decide) (typeCall_map_2 _ _) (newCall_map_2 _ _) (fun obj => PySem.F.args_object_init_3 obj _ _) entry_map_new
    (meets_map_new l xs) ⟨hl, ?_⟩
  have z1 : (mapH1 s.heap l).objs.size = s.heap.objs.size + 1 := Heap.size_push ..
  have z2 : (mapH2 s.heap l).objs.size = s.heap.objs.size + 2 := by rw [Heap.size_push, z1]
  have z3 : (mapH3 s.heap l).objs.size = s.heap.objs.size + 3 := by rw [Heap.size_push, z2]
  have g3 : (mapH3 s.heap l).get? (mapH2 s.heap l).objs.size = some _ := Heap.get?_push_size _ rfl
  have g2 : (mapH3 s.heap l).get? (mapH1 s.heap l).objs.size = some _ := Heap.get?_push_of_some _ (Heap.get?_push_size _ rfl)
  have g1 : (mapH3 s.heap l).get? s.heap.objs.size = some _ := Heap.get?_push_of_some _ (Heap.get?_push_of_some _ (Heap.get?_push_size _ rfl))
  show _ ∧ _
  rw [z1, z2] at g3
  rw [z1] at g2
  rw [z2]
  exact ⟨⟨_, g3, rfl⟩, h _ g3 g2 ⟨_, g1, rfl, rfl⟩ z3 fun c o x => Heap.get?_push_of_some _ (Heap.get?_push_of_some _ (Heap.get?_push_of_some _ x))⟩

theorem map_next_item {M TI I a : Addr} {k : Nat} {xs : Array Value} {x : Value} {Q : Value → Shared → Prop} (hIM : I ≠ M)
    (hM : IsMap s.heap M TI) (hTI : IsOne s.heap TI (.ref I)) (hI : s.heap.IsListIter I a k) (ha : s.heap.IsList a xs) (hx : xs[k]? = some x)
    (hc : ∀ h', h'.IsListIter I a (k + 1) → Heap.SameBut I s.heap h' → wpAny (model pr w) A (call (.builtin "sum") [x]) Q E { s with heap := h' }) :
    wpAny (model pr w) A (Builtin.«map.__next__» ⟨[.ref M], []⟩) (fun fin s' => ∃ v, fin = .done (.ret v) ∧ Q v s') E s := by
  show wpAny _ _ (field (.ref M) 0 >>= _) _ _ _
  refine wpAny_bind (wpAny_field hM rfl (x := .ref TI) rfl ?_)
  refine wpAny_bind (wpAny_seqItems hTI rfl ?_)
  refine wpAny_bind ?_
  simp only [List.forIn_cons, List.forIn_nil]
  refine wpAny_bind (wpAny_bind (wpAny_holding ?_))
  refine wpAny_nextOf_list_item hI ha hx fun h₂ hI₂ hs₂ => wpAny_pure ?_
  refine wpAny_pure ?_
  have hM₂ : IsMap h₂ M TI := hs₂.extBut _ _ (Ne.symm hIM) hM
  refine wpAny_bind (wpAny_field hM₂ rfl (x := .builtin "sum") rfl ?_)
  refine wpAny_bind (wpAny_holding ?_)
  refine wpAny_mono (hc h₂ hI₂ hs₂) (fun v s' q => ?_) fun _ _ e => e
  refine wpAny_bind (wpAny_letGo ?_)
  exact wpAny_pure ⟨_, rfl, q⟩

theorem map_next_end {M TI I a : Addr} {k : Nat} {xs : Array Value} {Q : Option Value → Shared → Prop} (hh : A.handled = none)
    (hM : IsMap s.heap M TI) (hTI : IsOne s.heap TI (.ref I)) (hI : s.heap.IsListIter I a k) (ha : s.heap.IsList a xs) (hx : xs[k]? = none)
    (hQ : ∀ h', Heap.ExtBut I s.heap h' → Q none { s with heap := h' }) :
    wpAny (model pr w) A (pyNext (.ref M)) Q E s := by
  have hT : s.TypeIs (.ref M) "map" := ⟨_, hM, rfl⟩
  unfold pyNext
  refine wpAny_bind (wpAny_attempt (wpAny_callSpecial?_slot (name := Str.ofString "__next__") hT slot_map_next
    (wpAny_call_entry slot_map_next hT entry_map_next ?_ (args_map_next_1 _))))
  show wpAny _ _ (field (.ref M) 0 >>= _) _ _ _
  refine wpAny_bind (wpAny_field hM rfl (x := .ref TI) rfl ?_)
  refine wpAny_bind (wpAny_seqItems hTI rfl ?_)
  refine wpAny_bind ?_
  simp only [List.forIn_cons, List.forIn_nil]
  refine wpAny_bind (wpAny_bind (wpAny_holding ?_))
  refine wpAny_nextOf_list_end hh hI ha hx fun h₂ e hs₂ he => ?_
  obtain ⟨oe, hoe, hce⟩ := he
  refine wpAny_bind (wpAny_isInstance (T := "StopIteration") (b := true) ⟨oe, hoe, hce⟩ isSubtype_stop ?_)
  exact wpAny_pure (hQ _ hs₂)

theorem map_next_some {M TI I a : Addr} {k : Nat} {xs : Array Value} {x : Value} {Q : Option Value → Shared → Prop} (hIM : I ≠ M)
    (hM : IsMap s.heap M TI) (hTI : IsOne s.heap TI (.ref I)) (hI : s.heap.IsListIter I a k) (ha : s.heap.IsList a xs) (hx : xs[k]? = some x)
    (hc : ∀ h', h'.IsListIter I a (k + 1) → Heap.SameBut I s.heap h' → wpAny (model pr w) A.in1 (call (.builtin "sum") [x]) (fun v s' => Q (some v) s') (fun _ _ => False) { s with heap := h' }) :
    wpAny (model pr w) A (pyNext (.ref M)) Q E s := by
  have hT : s.TypeIs (.ref M) "map" := ⟨_, hM, rfl⟩
  unfold pyNext
  exact wpAny_bind (wpAny_attempt (wpAny_callSpecial?_slot (name := Str.ofString "__next__") hT slot_map_next
    (wpAny_call_entry slot_map_next hT entry_map_next (map_next_item hIM hM hTI hI ha hx fun h' h1 h2 => wpAny_mono (hc h' h1 h2) (fun v s' q => wpAny_pure q) fun _ _ e => e.elim) (args_map_next_1 _))))

theorem iter_map {M TI : Addr} {Q : Value → Shared → Prop} (hM : IsMap s.heap M TI) (h : Q (.ref M) s) : wpAny (model pr w) A (pyIter (.ref M)) Q E s := by
  have hT : s.TypeIs (.ref M) "map" := ⟨_, hM, rfl⟩
  refine wpAny_pyIter_slot hT slot_map_iter (wpAny_call_entry slot_map_iter hT entry_map_iter ?_ (args_map_iter_1 _))
  show wpAny _ _ (ret (.ref M)) _ _ s
  exact wpAny_pure ⟨_, rfl, "map", _, hT, slot_map_next.lookup, h⟩

theorem walks_map {a : Addr} {r : Nat → Addr} {c : Nat → Nat → Bool} (hh : A.handled = none) (M TI I : Addr) (hIM : I ≠ M) (hITI : I ≠ TI) (hIa : I ≠ a) (hIr : ∀ i, i < 11 → I ≠ r i) :
    Walks pr w A M ([M, TI, I, a] ++ (List.range 11).map r) [I] 11 (fun i v => i < 11 ∧ ∃ t, v = .int (dark (c i)) t)
      (fun i h => IsMap h M TI ∧ IsOne h TI (.ref I) ∧ h.IsListIter I a i ∧ Gd h a r c) where
  sub := fun b hb => by simp at hb; simp [hb]
  frame := fun i h h' st hk => by
    obtain ⟨h1, h2, h3, h4⟩ := st
    refine ⟨hk M (by simp) _ h1, hk TI (by simp) _ h2, h3.at fun o e => hk I (by simp) o e, h4.rows.at fun o e => hk a (by simp) o e, fun i hi => (h4.cells i hi).at fun o e => hk (r i) ?_ o e⟩
    refine List.mem_append_right _ (List.mem_map.mpr ⟨i, List.mem_range.mpr hi, rfl⟩)
  item := fun i s Q E hi st hQ => by
    obtain ⟨h1, h2, h3, h4⟩ := st
    refine map_next_some hIM h1 h2 h3 h4.rows (x := .ref (r i)) (by simp [hi]) fun h' hI' hs' => ?_
    have hc : h'.IsList (r i) ((List.range 11).map fun j => Value.bool (c i j)).toArray := (h4.cells i hi).extBut hs'.extBut (Ne.symm (hIr i hi))
    refine sum_row (s := { s with heap := h' }) hh hc fun h₃ tk t hk => ?_
    have up : ∀ b o, b ≠ I → s.heap.get? b = some o → h₃.get? b = some o := fun b o hb e => hk b o (hs'.extBut b o hb e)
    exact hQ _ h₃ tk ⟨hi, t, rfl⟩ ⟨up _ _ (Ne.symm hIM) h1, up _ _ (Ne.symm hITI) h2, hI'.at fun o e => hk _ o e, h4.rows.at fun o e => up _ o (Ne.symm hIa) e, fun j hj => (h4.cells j hj).at fun o e => up _ o (Ne.symm (hIr j hj)) e⟩
      fun b o hb e => up b o (fun h => hb (by simp [h])) e
  done := fun s Q E st hQ => by
    obtain ⟨h1, h2, h3, h4⟩ := st
    exact map_next_end hh h1 h2 h3 h4.rows (by simp) fun h' he => hQ h' s.toks fun b o hb e => he b o (fun h => hb (by simp [h])) e
  self := fun i s Q E st hQ => iter_map st.1 hQ

/-- all the dark signs -/
def darks (c : Nat → Nat → Bool) : Int := preSum (fun i => dark (c i)) 11
theorem dark_le (f : Nat → Bool) : 0 ≤ dark f ∧ dark f ≤ 11 := preSum_bits f 11
theorem darks_le (c : Nat → Nat → Bool) : ∀ n : Nat, 0 ≤ preSum (fun i => dark (c i)) n ∧ preSum (fun i => dark (c i)) n ≤ 11 * n
  | 0 => ⟨Int.le_refl _, by simp [preSum]⟩
  | n + 1 => by
    have ⟨h1, h2⟩ := darks_le c n
    have ⟨h3, h4⟩ := dark_le (c n)
    simp only [preSum]
    omega

/-- map(sum, modules), as it stands in the heap -/
def MapAt (h₀ : Heap) (L : Addr) (news : List (Addr × Obj)) (h : Heap) (M : Addr) (c : Nat → Nat → Bool) : Prop :=
  ∃ a r TI I, I ≠ M ∧ I ≠ TI ∧ I ≠ a ∧ (∀ i, i < 11 → I ≠ r i) ∧ IsMap h M TI ∧ IsOne h TI (.ref I) ∧ h.IsListIter I a 0 ∧ Gd h a r c ∧ h₀.get? I = none ∧ I ≠ L ∧ ∀ p ∈ news, p.1 ≠ I

theorem map_led {h₀ : Heap} {L a : Addr} {r : Nat → Addr} {c : Nat → Nat → Bool} {m : Str → Option Value} {news : List (Addr × Obj)} {Q : Value → Shared → Prop} (F : Fr h₀ L s.heap m) (N : News h₀ L s.heap news) (G : Gd h₀ a r c)
    (h : ∀ M h', MapAt h₀ L news h' M c → Fr h₀ L h' m → News h₀ L h' news → Q (.ref M) { s with heap := h' }) :
    wpAny (model pr w) A (call (.type "map") [.builtin "sum", .ref a]) Q E s := by
  have G' := G.keeps F.keep
  refine call_map_2 G'.rows fun h' hM hT hI hsz hk => h _ h' ?_ (F.keeps hk) (fun p hp => ⟨hk _ _ (N p hp).1, (N p hp).2⟩)
  have la : a < s.heap.objs.size := by obtain ⟨o, ho, _⟩ := G'.rows; exact Heap.lt_size ho
  have lr : ∀ i, i < 11 → r i < s.heap.objs.size := fun i hi => by obtain ⟨o, ho, _⟩ := G'.cells i hi; exact Heap.lt_size ho
  have lL : L < s.heap.objs.size := F.ns.lt
  refine ⟨a, r, _, _, Nat.ne_of_lt (Nat.lt_add_of_pos_right (by decide)), Nat.ne_of_lt (Nat.lt_add_of_pos_right (by decide)), Nat.ne_of_gt la, fun i hi => Nat.ne_of_gt (lr i hi), hM, hT, hI, G'.keeps hk, ?_, Nat.ne_of_gt lL, fun p hp => Nat.ne_of_lt (newsLt N p hp)⟩
  cases q : h₀.get? s.heap.objs.size with
  | none => rfl
  | some o => exact absurd (Heap.lt_size (F.keep _ _ q)) (Nat.lt_irrefl _)

theorem sum_led {h₀ : Heap} {L M : Addr} {c : Nat → Nat → Bool} {m : Str → Option Value} {news : List (Addr × Obj)} {Q : Value → Shared → Prop} (hh : A.handled = none) (F : Fr h₀ L s.heap m) (N : News h₀ L s.heap news) (H : MapAt h₀ L news s.heap M c)
    (h : ∀ h' tk t, Fr h₀ L h' m → News h₀ L h' news → 0 ≤ darks c → darks c ≤ 121 → Q (.int (darks c) t) { s with heap := h', toks := tk }) :
    wpAny (model pr w) A (call (.builtin "sum") [.ref M]) Q E s := by
  obtain ⟨a, r, TI, I, hIM, hIT, hIa, hIr, hM, hT, hI, G, hn, hL, hp⟩ := H
  have la : a < s.heap.objs.size := by obtain ⟨o, ho, _⟩ := G.rows; exact Heap.lt_size ho
  have lr : ∀ i, i < 11 → r i < s.heap.objs.size := fun i hi => by obtain ⟨o, ho, _⟩ := G.cells i hi; exact Heap.lt_size ho
  refine call_sum_num (iter_map hM ⟨M, _, _, 11, _, _, fun i => dark (c i), rfl, walks_map (A := A.in1) (a := a) (r := r) (c := c) hh M TI I hIM hIT hIa hIr, ⟨hM, hT, hI, G⟩, ?_, ?_, ?_, ?_⟩)
  · intro b hb
    show b < s.heap.objs.size
    rcases List.mem_append.mp hb with hb | hb
    · simp at hb
      rcases hb with rfl | rfl | rfl | rfl
      · exact Heap.lt_size hM
      · exact Heap.lt_size hT
      · obtain ⟨o, ho, _⟩ := hI; exact Heap.lt_size ho
      · exact la
    · obtain ⟨i, hi, rfl⟩ := List.mem_map.mp hb
      exact lr i (List.mem_range.mp hi)
  · rintro i v ⟨hi, t, rfl⟩
    exact .inl ⟨t, rfl⟩
  · intro j hj
    have ⟨h1, h2⟩ := darks_le c (j + 1)
    have ⟨h3, h4⟩ := dark_le (c j)
    refine ⟨?_, ?_⟩
    · show InLong (dark (c j)); unfold InLong; omega
    · unfold InLong; omega
  · intro h₂ tk t hk₂
    have hb := darks_le c 11
    have kk : ∀ b o, b ≠ I → s.heap.get? b = some o → h₂.get? b = some o := fun b o hb e => hk₂ b o (fun hm => hb (List.mem_singleton.mp hm)) e
    refine h h₂ tk t ⟨F.ns.at fun o e => kk _ o (Ne.symm hL) e, fun b o e => kk b o ?_ (F.keep b o e), F.above⟩ (fun p hp' => ⟨kk _ _ (hp p hp') (N p hp').1, (N p hp').2⟩) hb.1 (by have := hb.2; unfold darks; omega)
    rintro rfl
    rw [hn] at e; cases e
end
end Mine
end

section
open PySem
set_option maxRecDepth 100000
set_option maxHeartbeats 4000000
namespace Mine
/-- the float that int() is asked of, for n dark signs -/
def fl (n : Int) : UInt64 := Float64.div (Float64.abs (Float64.sub (Float64.mul (Float64.div (Float64.ofInt n) (Float64.ofInt 121)) (Float64.ofInt 100)) (Float64.ofInt 50))) (Float64.ofInt 5)
def L4n (n : Int) : Int := ((20 * n - 1210).natAbs / 121 : Nat)
def okAt (n : Nat) : Bool := match Float64.decode (fl n) with
  | .fin sg m e => Float64.truncOf sg m e == L4n n
  | _ => false
theorem ok_all : ∀ n : Fin 122, okAt n.1 = true := by decide +kernel
theorem fl_trunc {n : Int} (h0 : 0 ≤ n) (h1 : n ≤ 121) : ∃ sg m e, Float64.decode (fl n) = .fin sg m e ∧ Float64.truncOf sg m e = L4n n := by
  have h := ok_all ⟨n.toNat, by omega⟩
  have e : ((n.toNat : Nat) : Int) = n := by omega
  unfold okAt at h
  dsimp only at h
  rw [e] at h
  cases hd : Float64.decode (fl n) with
  | fin sg m ex => rw [hd] at h; exact ⟨sg, m, ex, rfl, by simpa using h⟩
  | nan => rw [hd] at h; cases h
  | inf b => rw [hd] at h; cases h
section
variable {w : World} {A : Around} {E : Value → Shared → Prop} {s : Shared}
theorem div_fi {x : UInt64} {n : Int} {t u : Tok} {Q : Value → Shared → Prop} (h0 : Float64.isInf (Float64.ofInt n) = false) (h1 : Float64.isZero (Float64.ofInt n) = false)
    (h : Q (.float (Float64.div x (Float64.ofInt n)) s.toks) { s with toks := s.toks + 1 }) : wpAny (PySem.model pr w) A (binaryOp .Div (.float x t) (.int n u)) Q E s :=
  PySem.AutoFloatOps.truediv_fi_2 (by rw [h0]; decide) (by rw [h1]; decide) h
theorem mul_fi' {x : UInt64} {n : Int} {t u : Tok} {Q : Value → Shared → Prop} (h0 : Float64.isInf (Float64.ofInt n) = false)
    (h : Q (.float (Float64.mul x (Float64.ofInt n)) s.toks) { s with toks := s.toks + 1 }) : wpAny (PySem.model pr w) A (binaryOp .Mult (.float x t) (.int n u)) Q E s :=
  PySem.AutoFloatOps.mul_fi_1 (by rw [h0]; decide) h
theorem sub_fi' {x : UInt64} {n : Int} {t u : Tok} {Q : Value → Shared → Prop} (h0 : Float64.isInf (Float64.ofInt n) = false)
    (h : Q (.float (Float64.sub x (Float64.ofInt n)) s.toks) { s with toks := s.toks + 1 }) : wpAny (PySem.model pr w) A (binaryOp .Sub (.float x t) (.int n u)) Q E s :=
  PySem.AutoFloatOps.sub_fi_1 (by rw [h0]; decide) h
theorem int_fl {n : Int} {t : Tok} {Q : Value → Shared → Prop} (h0 : 0 ≤ n) (h1 : n ≤ 121) (h : ∀ t tk, Q (.int (L4n n) t) { s with toks := tk }) : wpAny (PySem.model pr w) A (PySem.call (.type "int") [.float (fl n) t]) Q E s := by
  obtain ⟨sg, m, e, hd, he⟩ := fl_trunc h0 h1
  refine call_int_float hd ?_
  rw [he]
  exact h _ _
end
end Mine
end

section
open PySem PyProof.Rows
set_option maxRecDepth 100000
set_option maxHeartbeats 4000000
namespace Mine
/-- a run's worth -/
def sc (n : Int) : Int := if n ≥ 5 then n - 2 else 0
/-- what the last d signs of a line are worth yet, the run at hand being n of p -/
def f1 (l : Nat → Bool) : Nat → Bool → Int → Int
  | 0, _, n => sc n
  | d + 1, p, n => if l (11 - (d + 1)) = p then f1 l d p (n + 1) else sc n + f1 l d (l (11 - (d + 1))) 1
def line1 (l : Nat → Bool) : Int := f1 l 11 (l 0) 0
def rows1 (c : Nat → Nat → Bool) : Nat → Int
  | 0 => 0
  | d + 1 => line1 (c (11 - (d + 1))) + rows1 c d
def L1 (c : Nat → Nat → Bool) : Int := rows1 c 11 + rows1 (fun i j => c j i) 11
/-- the worth of the counts -/
def Wt (cont : List Int) : Int := preSum (fun j => cont.getD (5 + (j : Int)).toNat 0 * ((5 + (j : Int)) - 2)) 7
theorem f1_step (l : Nat → Bool) (p : Bool) (n : Int) {k : Int} (h0 : 0 ≤ k) (h1 : k < 11) : f1 l (11 - k).toNat p n = if l k.toNat = p then f1 l (11 - (k + 1)).toNat p (n + 1) else sc n + f1 l (11 - (k + 1)).toNat (l k.toNat) 1 := by
  obtain ⟨d, hd⟩ : ∃ d : Nat, (11 - k).toNat = d + 1 := ⟨(11 - (k + 1)).toNat, by omega⟩
  have e1 : (11 - (k + 1)).toNat = d := by omega
  have e2 : k.toNat = 11 - (d + 1) := by omega
  rw [hd, e1, e2]; rfl
theorem rows1_step (c : Nat → Nat → Bool) {k : Int} (h0 : 0 ≤ k) (h1 : k < 11) : rows1 c (11 - k).toNat = line1 (c k.toNat) + rows1 c (11 - (k + 1)).toNat := by
  obtain ⟨d, hd⟩ : ∃ d : Nat, (11 - k).toNat = d + 1 := ⟨(11 - (k + 1)).toNat, by omega⟩
  have e1 : (11 - (k + 1)).toNat = d := by omega
  have e2 : k.toNat = 11 - (d + 1) := by omega
  rw [hd, e1, e2]; rfl
theorem list12 {l : List Int} (h : l.length = 12) : ∃ a b c d e f g h i j k m, l = [a, b, c, d, e, f, g, h, i, j, k, m] := by
  match l, h with
  | [a, b, c, d, e, f, g, h, i, j, k, m], _ => exact ⟨a, b, c, d, e, f, g, h, i, j, k, m, rfl⟩
theorem Wt_set {cont : List Int} {n : Int} (hl : cont.length = 12) (h0 : 5 ≤ n) (h1 : n ≤ 11) : Wt (cont.set n.toNat (cont.getD n.toNat 0 + 1)) = Wt cont + sc n := by
  obtain ⟨a, b, c, d, e, f, g, h, i, j, k, m, rfl⟩ := list12 hl
  have hs : sc n = n - 2 := by unfold sc; rw [if_pos h0]
  rw [hs]
  have : n = 5 ∨ n = 6 ∨ n = 7 ∨ n = 8 ∨ n = 9 ∨ n = 10 ∨ n = 11 := by omega
  rcases this with rfl | rfl | rfl | rfl | rfl | rfl | rfl <;> simp [Wt, preSum] <;> omega
section
variable {l : Nat → Bool} {p : Bool} {n k W T : Int} {cont : List Int}
theorem st1a (hW : W + f1 l (11 - k).toNat p n = T) (h0 : 0 ≤ k) (h1 : k < 11) (h : (l k.toNat == p) = true) : W + f1 l (11 - (k + 1)).toNat p (n + 1) = T := by
  rw [f1_step l p n h0 h1, if_pos (by simpa using h)] at hW
  exact hW
theorem st1b (hW : Wt cont + f1 l (11 - k).toNat p n = T) (h0 : 0 ≤ k) (h1 : k < 11) (h : (l k.toNat == p) = false) (hl : cont.length = 12) (h5 : 5 ≤ n) (hn : n ≤ k) : Wt (cont.set n.toNat (cont.getD n.toNat 0 + 1)) + f1 l (11 - (k + 1)).toNat (l k.toNat) 1 = T := by
  rw [f1_step l p n h0 h1, if_neg (by simpa using h)] at hW
  rw [Wt_set hl h5 (by omega)]
  omega
theorem st1c (hW : W + f1 l (11 - k).toNat p n = T) (h0 : 0 ≤ k) (h1 : k < 11) (h : (l k.toNat == p) = false) (h5 : ¬ 5 ≤ n) : W + f1 l (11 - (k + 1)).toNat (l k.toNat) 1 = T := by
  rw [f1_step l p n h0 h1, if_neg (by simpa using h)] at hW
  have : sc n = 0 := by unfold sc; rw [if_neg (by omega)]
  omega
theorem fin1a {c : Nat → Nat → Bool} {cont2 : List Int} (hW2 : Wt cont2 + f1 (c k.toNat) ((11 : Int) - 11).toNat p n = Wt cont + line1 (c k.toNat)) (hW : Wt cont + rows1 c (11 - k).toNat = T) (h0 : 0 ≤ k) (h1 : k < 11) (hl : cont2.length = 12) (h5 : 5 ≤ n) (hn : n ≤ 11) :
    Wt (cont2.set n.toNat (cont2.getD n.toNat 0 + 1)) + rows1 c (11 - (k + 1)).toNat = T := by
  rw [rows1_step c h0 h1] at hW
  rw [Wt_set hl h5 hn]
  have : f1 (c k.toNat) ((11 : Int) - 11).toNat p n = sc n := rfl
  omega
theorem fin1b {c : Nat → Nat → Bool} {cont2 : List Int} (hW2 : Wt cont2 + f1 (c k.toNat) ((11 : Int) - 11).toNat p n = Wt cont + line1 (c k.toNat)) (hW : Wt cont + rows1 c (11 - k).toNat = T) (h0 : 0 ≤ k) (h1 : k < 11) (h5 : ¬ 5 ≤ n) :
    Wt cont2 + rows1 c (11 - (k + 1)).toNat = T := by
  rw [rows1_step c h0 h1] at hW
  have : f1 (c k.toNat) ((11 : Int) - 11).toNat p n = sc n := rfl
  have : sc n = 0 := by unfold sc; rw [if_neg (by omega)]
  omega
end
theorem nn_get {cont : List Int} (h : ∀ x ∈ cont, 0 ≤ x) (n : Nat) : 0 ≤ cont.getD n 0 := by
  rw [List.getD_eq_getElem?_getD]
  cases e : cont[n]? with
  | none => exact Int.le_refl _
  | some x => exact h x (List.mem_of_getElem? e)
theorem nn_set {cont : List Int} (h : ∀ x ∈ cont, 0 ≤ x) (n : Nat) : ∀ x ∈ cont.set n (cont.getD n 0 + 1), 0 ≤ x := by
  intro x hx
  rcases List.mem_or_eq_of_mem_set hx with hx | rfl
  · exact h x hx
  · have := nn_get h n; omega
theorem sc_le {n : Int} (h : 0 ≤ n) : 0 ≤ sc n ∧ sc n ≤ n := by unfold sc; split <;> omega
theorem f1_le (l : Nat → Bool) : ∀ (d : Nat) (p : Bool) (n : Int), 0 ≤ n → 0 ≤ f1 l d p n ∧ f1 l d p n ≤ n + d
  | 0, _, n, h => by have := sc_le h; simp only [f1]; omega
  | d + 1, p, n, h => by
    have h1 := f1_le l d p (n + 1) (by omega)
    have h2 := f1_le l d (l (11 - (d + 1))) 1 (by omega)
    have h3 := sc_le h
    simp only [f1]
    split <;> omega
theorem rows1_le (c : Nat → Nat → Bool) : ∀ d : Nat, 0 ≤ rows1 c d ∧ rows1 c d ≤ 11 * d
  | 0 => by simp [rows1]
  | d + 1 => by
    have h1 := rows1_le c d
    have h2 := f1_le (c (11 - (d + 1))) 11 (c (11 - (d + 1)) 0) 0 (by omega)
    simp only [rows1, line1]
    omega
theorem L1_le (c : Nat → Nat → Bool) : 0 ≤ L1 c ∧ L1 c ≤ 242 := by
  have h1 := rows1_le c 11
  have h2 := rows1_le (fun i j => c j i) 11
  unfold L1; omega
/-- the terms that are summed -/
def term (cont : List Int) (j : Nat) : Int := cont.getD (5 + (j : Int)).toNat 0 * ((5 + (j : Int)) - 2)
theorem term_nn {cont : List Int} (h : ∀ x ∈ cont, 0 ≤ x) (j : Nat) : 0 ≤ term cont j := Int.mul_nonneg (nn_get h _) (by omega)
theorem pre_mono {f : Nat → Int} (h : ∀ j, 0 ≤ f j) : ∀ n k, preSum f n ≤ preSum f (n + k) ∧ 0 ≤ preSum f n
  | n, 0 => ⟨Int.le_refl _, by
    induction n with
    | zero => exact Int.le_refl _
    | succ n ih => simp only [preSum]; have := h n; omega⟩
  | n, k + 1 => by
    have ⟨h1, h2⟩ := pre_mono h n k
    refine ⟨?_, h2⟩
    have := h (n + k)
    show preSum f n ≤ preSum f (n + k) + f (n + k)
    omega
theorem term_fit {cont : List Int} (h : ∀ x ∈ cont, 0 ≤ x) (hW : Wt cont ≤ 242) (j : Nat) (hj : j < 7) : InLong (term cont j) ∧ InLong (preSum (term cont) (j + 1)) := by
  have e : Wt cont = preSum (term cont) 7 := rfl
  have ⟨h1, h2⟩ := pre_mono (term_nn h) (j + 1) (6 - j)
  have e2 : j + 1 + (6 - j) = 7 := by omega
  rw [e2, ← e] at h1
  have h3 := (pre_mono (term_nn h) j 0).2
  have h4 := term_nn h j
  have h5 : preSum (term cont) (j + 1) = preSum (term cont) j + term cont j := rfl
  unfold InLong
  omega
theorem Wt_zero : Wt ((List.replicate ((11 : Int) + 1).toNat [(0 : Int)]).flatten) = 0 := by decide
end Mine
end

section
open PySem PySem.W PySem.Calls PySem.Spec PyProof.Rows
set_option maxRecDepth 100000
set_option maxHeartbeats 4000000
namespace Mine
section
variable {w : World} {A : Around} {E : Value → Shared → Prop} {s : Shared}
/-- a def with cells is entered; what stood, stands -/
theorem code_baseC {K : Frag} {p : Program} {loose : List Str} {mg mb : Str → Option Value} {R : Result → Shared → Prop} {name qual : Str} {params : Arguments} {body : List Stmt} {scope : Scope} {dV kV doc pm cdv ct oc : Value} {an od : Option Addr} {osl : Array (Option Value)} {f : Addr} {args : Args} (binds : List (Str × Value))
    (X₀ : K.In s.heap) (T : TopRead p loose mg mb s.heap)
    (ho : K.lookup f = some ⟨oc, od, .func (fnOf name qual params body scope dV kV doc pm an cdv ct), osl⟩) (hcd : codeIn K cdv qual = true) (hroom : A.depth < recursionLimit)
    (hbind : BindsTo s (fnOf name qual params body scope dV kV doc pm an cdv ct) args binds) (hkind : (binds.all fun y => scope.names.lookup y.1 == some .local || scope.names.lookup y.1 == some .cell) = true)
    (hnd : ((cellsFrom 0 scope.names []).map (·.1)).Nodup)
    (h : ∀ L h₁ tk cells, Fr s.heap L h₁ (bindL (envOfC qual scope L f cdv).kindOf binds fun _ => none) → News s.heap L h₁ cells → CellsAre (bindC (envOfC qual scope L f cdv).kindOf binds fun _ => none) (cellsFrom (L + 1) scope.names []) cells →
      wpAny (model pr w) (A.deeper (envOfC qual scope L f cdv)) (execs body (envOfC qual scope L f cdv))
        (fun fl s' => R (.ok (.ret (match fl with | .ret v => v | _ => .none))) s') NoE { s with heap := h₁, toks := tk })
    (hco : scope.isCoroutine = false) (hgen : scope.isGenerator = false) (hk : scope.kind = .function) : codeAny (model pr w) A (.call (.ref f) args) R s := by
  refine codeAny_call_function hroom (X₀ _ _ ho) rfl hco hgen rfl (codeRec_of X₀ hcd) (hbind _ _ _ _ ?_)
  refine wpAny_newFunctionEnv_cells hk (kindsX hkind _) fun env' he s' x => ?_
  subst he
  refine ⟨T.nolimit.keeps x.toInCall.keep, codeAny_func ?_⟩
  obtain ⟨h₁, tk, rfl, _⟩ := x.done
  have hk₁ := x.toInCall.keep
  obtain ⟨cells, NC, Y⟩ := Cl.news (h₀ := s.heap) (Nat.le_refl _) fun n c hm => ⟨x.cell n c (lookup_of_mem_nodup (cellsFrom_names scope.names 0 (s.heap.objs.size + 1) [] [] rfl ▸ hnd) hm), x.above n c hm⟩
  exact wpAny_noRaise (h s.heap.objs.size h₁ tk cells ⟨x.toInCall.ns, hk₁, Nat.le_refl _⟩ (fun p hp => NC p hp) Y)
end
end Mine
end

section
open PySem PySem.W PySem.Calls PySem.Spec PyProof.Rows
set_option maxRecDepth 100000
set_option maxHeartbeats 4000000
namespace Mine
theorem fill : (PySem.Challenge.rw_ww0034_01 = PySem.Challenge.rw_ww0034_01) ∧ (hd.heap_39 = hd.heap_39) := by
  k_fill
  exact ⟨rfl, rfl⟩

local macro_rules | `(tactic| walk_at "call type:range") => `(tactic| (k_here; (rename Fr _ _ _ _ => F'); (rename News _ _ _ _ => N'); first
  | (with_unfolding_all refine range_led F' N' ?_; intro R' h' tk' t1' u1' v1' F' N' lR')
  | (with_unfolding_all refine range_led2 F' N' ?_; intro R' h' tk' t1' u1' v1' F' N' lR')))
local macro_rules | `(tactic| walk_at "exec For Name Name cons nil") => `(tactic| (k_here; with_unfolding_all refine' For_R ?_ ?k2; (case k2 => intro _; rfl)))
local macro_rules | `(tactic| walk_at "subscriptTail") => `(tactic| (k_here; (rename Fr _ _ _ _ => F'); (rename Gd _ _ _ _ => G'); (with_reducible show wpAny _ _ (subscriptTail _ _ (Value.ref _) (Value.int _ _)) _ _ _); first | (with_unfolding_all refine' item_row F' G' ?k1 ?k2 ?_ ?k3; (case k1 => omega); (case k2 => omega); (case k3 => with_unfolding_all rfl)) | (with_unfolding_all refine' item_cell F' G' ?k0 ?k1 ?k2 ?_ ?k3; (case k0 => omega); (case k1 => omega); (case k2 => omega); (case k3 => with_unfolding_all rfl))))

local macro_rules | `(tactic| walk_at "call builtin:iter") => `(tactic| (k_here; (with_reducible show wpAny _ _ (call (Value.builtin "iter") [Value.ref _]) _ _ _); (rename Fr _ _ _ _ => F'); (rename News _ _ _ _ => N'); k_dflt (refine' iter_call_led F' N' ?k1 ?k2 ?k3 ?_; (case k1 => k_mem); (case k2 => decide); (case k3 => rfl)); intro I' h' F' N' lI'))
local macro_rules | `(tactic| walk_at "pyIter ref") => `(tactic| (k_here; (with_reducible show wpAny _ _ (pyIter (Value.ref _)) _ _ _); (rename News _ _ _ _ => N'); with_unfolding_all refine' self_led N' ?k1 ?_; (case k1 => k_mem)))
local macro_rules | `(tactic| walk_at "call builtin:next") => `(tactic| (k_here; (with_reducible show wpAny _ _ (call (Value.builtin "next") [Value.ref _, _]) _ _ _); (rename Fr _ _ _ _ => F'); (rename News _ _ _ _ => N'); k_dflt (refine' next_call_led ?k1 F' N' ?k2 ?_; (case k1 => assumption); (case k2 => k_updF)); intro v' h' tk' k' e1' e2' F' N'; (try dsimp only at N')))

def mono (p q : Nat → Bool) (j : Nat) : Bool := p (j + 1) == q (j + 1) && (p (j + 1) == p j && p (j + 1) == q j)
def rem2 (p q : Nat → Bool) : Nat → Int
  | 0 => 0
  | d + 1 => (if mono p q (10 - (d + 1)) then 3 else 0) + rem2 p q d
def rows2 (c : Nat → Nat → Bool) : Nat → Int
  | 0 => 0
  | d + 1 => rem2 (c (10 - (d + 1))) (c (10 - (d + 1) + 1)) 10 + rows2 c d
def L2 (c : Nat → Nat → Bool) : Int := rows2 c 10

theorem rem2_step (p q : Nat → Bool) {k : Int} (h0 : 0 ≤ k) (h1 : k < 10) : rem2 p q (10 - k).toNat = (if mono p q k.toNat then 3 else 0) + rem2 p q (10 - (k + 1)).toNat := by
  obtain ⟨d, hd⟩ : ∃ d : Nat, (10 - k).toNat = d + 1 := ⟨(10 - (k + 1)).toNat, by omega⟩
  have e1 : (10 - (k + 1)).toNat = d := by omega
  have e2 : k.toNat = 10 - (d + 1) := by omega
  rw [hd, e1, e2]; rfl
theorem rows2_step (c : Nat → Nat → Bool) {k : Int} (h0 : 0 ≤ k) (h1 : k < 10) : rows2 c (10 - k).toNat = rem2 (c k.toNat) (c (k + 1).toNat) 10 + rows2 c (10 - (k + 1)).toNat := by
  obtain ⟨d, hd⟩ : ∃ d : Nat, (10 - k).toNat = d + 1 := ⟨(10 - (k + 1)).toNat, by omega⟩
  have e1 : (10 - (k + 1)).toNat = d := by omega
  have e2 : k.toNat = 10 - (d + 1) := by omega
  have e3 : (k + 1).toNat = 10 - (d + 1) + 1 := by omega
  rw [hd, e1, e2, e3]; rfl
theorem toNat_succ {k : Int} (h0 : 0 ≤ k) : (k + 1).toNat = k.toNat + 1 := by omega
section
variable {p q : Nat → Bool} {k k' x y : Int}
theorem st2a (hP : x + rem2 p q (10 - k).toNat = y) (h0 : 0 ≤ k) (h1 : k < 10) (h : (p (k + 1).toNat != q (k + 1).toNat) = true) (e1 : k + 1 < 10 → k' = k + 1 + 1) (e2 : 10 ≤ k + 1 → k' = k + 1) : x + rem2 p q (10 - k').toNat = y := by
  rw [toNat_succ h0] at h
  have hm : mono p q k.toNat = false := by unfold mono; cases hp : p (k.toNat + 1) <;> cases hq : q (k.toNat + 1) <;> simp_all
  rw [rem2_step p q h0 h1, hm] at hP
  by_cases hk : k + 1 < 10
  · have hm2 : mono p q (k + 1).toNat = false := by rw [toNat_succ h0]; unfold mono; cases hp : p (k.toNat + 1) <;> cases hq : q (k.toNat + 1) <;> simp_all
    rw [rem2_step p q (by omega) hk, hm2] at hP
    rw [e1 hk]; simpa using hP
  · rw [e2 (by omega)]; simpa using hP
theorem st2b (hP : x + rem2 p q (10 - k).toNat = y) (h0 : 0 ≤ k) (h1 : k < 10) (h : (p (k + 1).toNat != p k.toNat) = true) : x + rem2 p q (10 - (k + 1)).toNat = y := by
  rw [toNat_succ h0] at h
  have hm : mono p q k.toNat = false := by unfold mono; cases hp : p (k.toNat + 1) <;> cases hq : p k.toNat <;> cases hr : q k.toNat <;> simp_all
  rw [rem2_step p q h0 h1, hm] at hP
  simpa using hP
theorem st2c (hP : x + rem2 p q (10 - k).toNat = y) (h0 : 0 ≤ k) (h1 : k < 10) (h : (p (k + 1).toNat != q k.toNat) = true) : x + rem2 p q (10 - (k + 1)).toNat = y := by
  rw [toNat_succ h0] at h
  have hm : mono p q k.toNat = false := by unfold mono; cases hp : p (k.toNat + 1) <;> cases hq : p k.toNat <;> cases hr : q k.toNat <;> simp_all
  rw [rem2_step p q h0 h1, hm] at hP
  simpa using hP
theorem st2d (hP : x + rem2 p q (10 - k).toNat = y) (h0 : 0 ≤ k) (h1 : k < 10) (ha : (p (k + 1).toNat != q (k + 1).toNat) = false) (hb : (p (k + 1).toNat != p k.toNat) = false) (hc : (p (k + 1).toNat != q k.toNat) = false) : x + 3 + rem2 p q (10 - (k + 1)).toNat = y := by
  rw [toNat_succ h0] at ha hb hc
  have hm : mono p q k.toNat = true := by unfold mono; simp_all
  rw [rem2_step p q h0 h1, hm] at hP
  simp only [if_true] at hP; omega
end

theorem fin2 {c : Nat → Nat → Bool} {k lp lq y : Int} (hP : lq + rem2 (c k.toNat) (c (k + 1).toNat) ((10 : Int) - 10).toNat = lp + rem2 (c k.toNat) (c (k + 1).toNat) 10) (hQ : lp + rows2 c (10 - k).toNat = y) (h0 : 0 ≤ k) (h1 : k < 10) : lq + rows2 c (10 - (k + 1)).toNat = y := by
  rw [rows2_step c h0 h1] at hQ
  have e : ((10 : Int) - 10).toNat = 0 := rfl
  rw [e] at hP
  have z : rem2 (c k.toNat) (c (k + 1).toNat) 0 = 0 := rfl
  omega

theorem lvl2 {w : World} {A : Around} {s : Shared} {mg mb : Str → Option Value} {R : Result → Shared → Prop} {a : Addr} {r : Nat → Addr} {c : Nat → Nat → Bool} {t : Tok}
    (X : (hd.heap_39 w.params).In s.heap) (T : TT mg mb s.heap) (G : Gd s.heap a r c) (hh : A.handled = none) (hd : A.depth + 3 < recursionLimit) (hu : A.units + 60 < cLine)
    (ret : ∀ t h' tk, (∀ b o, s.heap.get? b = some o → h'.get? b = some o) → R (.ok (.ret (.int (L2 c) t))) { s with heap := h', toks := tk }) :
    codeAny (model pr w) A (.call (.ref 35) ⟨[.ref a, .int 11 t], []⟩) R s := by
  k_dflt (refine' code_base [(Str.ofString "modules", .ref a), (Str.ofString "modules_count", .int 11 t)] ?k1 ?k2 ?k3 ?k4 ?k5 ?k6 ?k7 ?_ ?kh ?c2 ?c3 ?c4 ?c5; (case k1 => k_asm); (case k2 => k_asm); (case k3 => k_is); (case k4 => k_is); (case k5 => omega); (case k6 => exact BindsTo.of_eq rfl); (case k7 => exact locs rfl); (case kh => exact lookup_two (by decide)); (case c2 => exact rfl); (case c3 => exact rfl); (case c4 => exact rfl); (case c5 => decide))
  intro L h₁ tk F N
  try dsimp only
  try k_fold
  k_steps
  rename Fr _ _ _ _ => F
  rename News _ _ _ _ => N
  rename_i R₁ _ _ t₁ u₁ v₁ _ _
  refine iter_led F N (.head _) (by decide) (by rfl) ?_
  intro I₁ h₂ F N lI
  refine' loop_rit (n := 10) (fun k (z : Int × Tok) => [(Str.ofString "modules", .ref a), (Str.ofString "modules_range", .ref R₁), (Str.ofString "lost_point", .int z.1 z.2)]) (fun _ _ => [(R₁, rng 0 (11 - 1) t₁ u₁ v₁)]) (fun k z => z.1 + rows2 c (10 - k).toNat = L2 c) (0, ?tk0) hh rfl rfl F N (by decide) (by decide) ?off ?ps ?p0 ?turn ?done
  case off => rintro k z p hp; rw [List.mem_singleton.mp hp]; exact Nat.ne_of_lt (lI _ (.head _))
  case ps => (repeat' (first | exact List.forall_mem_nil _ | refine' List.forall_mem_cons.mpr ⟨rfl, ?_⟩))
  case p0 => show 0 + rows2 c 10 = L2 c; rw [Int.zero_add]; rfl
  case turn =>
    rintro k ⟨lp, tl⟩ u h₃ tk₃ tt hk0 hk1 hP F N
    dsimp only at hP
    k_steps
    rename Fr _ _ _ _ => F
    rename News _ _ _ _ => N
    rename_i I₂ _ lI2 _
    refine' loop_rit (n := 10) (fun q (z : Int × Tok) => [(Str.ofString "modules", .ref a), (Str.ofString "modules_range", .ref R₁), (Str.ofString "lost_point", .int z.1 z.2), (Str.ofString "this_row", .ref (r k.toNat)), (Str.ofString "next_row", .ref (r (k + 1).toNat)), (Str.ofString "modules_range_iter", .ref I₂)]) (fun _ _ => [(I₁, rit (k + 1) (10 - (k + 1))), (R₁, rng 0 (11 - 1) t₁ u₁ v₁)]) (fun q z => z.1 + rem2 (c k.toNat) (c (k + 1).toNat) (10 - q).toNat = lp + rem2 (c k.toNat) (c (k + 1).toNat) 10) (lp, ?tk1) hh rfl rfl F N (by decide) (by decide) ?off2 ?ps2 ?p02 ?turn2 ?done2
    case off2 => exact fun _ _ p hp => Nat.ne_of_lt (lI2 p hp)
    case ps2 => (repeat' (first | exact List.forall_mem_nil _ | refine' List.forall_mem_cons.mpr ⟨rfl, ?_⟩))
    case p02 => rfl
    case turn2 =>
      rintro q ⟨lq, tq⟩ u h₄ tk₄ tt hq0 hq1 hP F N
      dsimp only at hP
      have l1 : @LT.lt Nat _ R₁ I₁ := lI _ (.head _)
      have l2 : @LT.lt Nat _ I₁ I₂ := lI2 _ (.head _)
      k_steps
      all_goals (try dsimp only)
      · exact gdTurn (c' := (_, _)) (by assumption) (by assumption) (.inl rfl) (by omega) (by omega) (by (repeat' (first | exact List.forall_mem_nil _ | refine' List.forall_mem_cons.mpr ⟨rfl, ?_⟩))) (st2a hP hq0 hq1 (by assumption) (by assumption) (by assumption))
      · exact gdTurn (c' := (_, _)) (by assumption) (by assumption) (.inr rfl) (by omega) (by omega) (by (repeat' (first | exact List.forall_mem_nil _ | refine' List.forall_mem_cons.mpr ⟨rfl, ?_⟩))) (st2b hP hq0 hq1 (by assumption))
      · exact gdTurn (c' := (_, _)) (by assumption) (by assumption) (.inr rfl) (by omega) (by omega) (by (repeat' (first | exact List.forall_mem_nil _ | refine' List.forall_mem_cons.mpr ⟨rfl, ?_⟩))) (st2c hP hq0 hq1 (by assumption))
      · exact gdTurn (c' := (_, _)) (by assumption) (by assumption) (.inl rfl) (by omega) (by omega) (by (repeat' (first | exact List.forall_mem_nil _ | refine' List.forall_mem_cons.mpr ⟨rfl, ?_⟩))) (st2d hP hq0 hq1 (by assumption) (by assumption) (by assumption))
    case done2 =>
      rintro ⟨lq, tq⟩ u h₄ tk₄ hP F N
      dsimp only at hP
      k_steps
      exact gdTurn (c' := (_, _)) F (fun p hp => N p (.tail _ hp)) (.inl rfl) (by omega) (by omega) (by (repeat' (first | exact List.forall_mem_nil _ | refine' List.forall_mem_cons.mpr ⟨rfl, ?_⟩))) (fin2 hP (by assumption) hk0 hk1)
  case done =>
    rintro ⟨lp, tl⟩ u h₃ tk₃ hP F N
    dsimp only at hP
    k_steps
    have e : lp = L2 c := by rw [← hP]; show lp = lp + 0; omega
    subst e
    exact ret _ _ _ F.keep
end Mine
end

section
open PySem PySem.W PySem.Calls PySem.Spec PyProof.Rows
set_option maxRecDepth 100000
set_option maxHeartbeats 4000000
namespace Mine
theorem fill_W3 : (PySem.Challenge.rw_ww0034_01 = PySem.Challenge.rw_ww0034_01) ∧ (hd.heap_39 = hd.heap_39) := by
  k_fill
  exact ⟨rfl, rfl⟩

local macro_rules | `(tactic| walk_at "call type:range") => `(tactic| (k_here; (rename Fr _ _ _ _ => F'); (rename News _ _ _ _ => N'); first
  | (with_unfolding_all refine range_led F' N' ?_; intro R' h' tk' t1' u1' v1' F' N' lR')
  | (with_unfolding_all refine range_led2 F' N' ?_; intro R' h' tk' t1' u1' v1' F' N' lR')))
local macro_rules | `(tactic| walk_at "exec For Name Name cons nil") => `(tactic| (k_here; with_unfolding_all refine' For_R ?_ ?k2; (case k2 => intro _; rfl)))
local macro_rules | `(tactic| walk_at "subscriptTail") => `(tactic| (k_here; (rename Fr _ _ _ _ => F'); (rename Gd _ _ _ _ => G'); (with_reducible show wpAny _ _ (subscriptTail _ _ (Value.ref _) (Value.int _ _)) _ _ _); first | (with_unfolding_all refine' item_row F' G' ?k1 ?k2 ?_ ?k3; (case k1 => omega); (case k2 => omega); (case k3 => with_unfolding_all rfl)) | (with_unfolding_all refine' item_cell F' G' ?k0 ?k1 ?k2 ?_ ?k3; (case k0 => omega); (case k1 => omega); (case k2 => omega); (case k3 => with_unfolding_all rfl))))

local macro_rules | `(tactic| walk_at "call builtin:iter") => `(tactic| (k_here; (with_reducible show wpAny _ _ (call (Value.builtin "iter") [Value.ref _]) _ _ _); (rename Fr _ _ _ _ => F'); (rename News _ _ _ _ => N'); k_dflt (refine' iter_call_led F' N' ?k1 ?k2 ?k3 ?_; (case k1 => k_mem); (case k2 => decide); (case k3 => rfl)); intro I' h' F' N' lI'))
local macro_rules | `(tactic| walk_at "pyIter ref") => `(tactic| (k_here; (with_reducible show wpAny _ _ (pyIter (Value.ref _)) _ _ _); (rename Fr _ _ _ _ => F'); (rename News _ _ _ _ => N'); k_dflt (refine' iter_led F' N' ?k1 ?k2 ?k3 ?_; (case k1 => k_mem); (case k2 => decide); (case k3 => rfl)); intro I' h' F' N' lI'))
local macro_rules | `(tactic| walk_at "pyIter ref") => `(tactic| (k_here; (with_reducible show wpAny _ _ (pyIter (Value.ref _)) _ _ _); (rename News _ _ _ _ => N'); with_unfolding_all refine' self_led N' ?k1 ?_; (case k1 => k_mem)))
local macro_rules | `(tactic| walk_at "call builtin:next") => `(tactic| (k_here; (with_reducible show wpAny _ _ (call (Value.builtin "next") [Value.ref _, _]) _ _ _); (rename Fr _ _ _ _ => F'); (rename News _ _ _ _ => N'); k_dflt (refine' next_call_led ?k1 F' N' ?k2 ?_; (case k1 => assumption); (case k2 => k_updF)); intro v' h' tk' k' e1' e2' F' N'; (try dsimp only at N')))

local macro_rules | `(tactic| walk_at "exec If BoolOp cons nil") => `(tactic| (k_here; plain_pass; k_dflt (refine' if_tst ?T ?_ ?_; (case T => (repeat' (first | with_reducible refine' tst_op ?_ | with_reducible refine' tst_and_nil | with_reducible refine' tst_or_nil | with_reducible refine' tst_and ?_ ?_ | with_reducible refine' tst_or ?_ ?_ | with_reducible refine' tst_not ?_)); all_goals (try (intro tk' Q' hq'; k_steps; exact hq' _)))); all_goals intro tk' hb'))


def pat (f : Int → Bool) : Bool := !f 1 && (f 4 && (!f 5 && (f 6 && (!f 9 && (((f 0 && (f 2 && (f 3 && (!f 7 && (!f 8 && (!f 10 && true)))))) || ((!f 0 && (!f 2 && (!f 3 && (f 7 && (f 8 && (f 10 && true)))))) || false)) && true)))))
def sc3 (f : Nat → Bool) : Int := if pat (fun j => f j.toNat) then 40 else 0
def rem3 (c : Nat → Nat → Bool) : Nat → Int
  | 0 => 0
  | d + 1 => sc3 (c (11 - (d + 1))) + rem3 c d
def L3 (c : Nat → Nat → Bool) : Int := rem3 c 11 + rem3 (fun i j => c j i) 11
theorem rem3_step (c : Nat → Nat → Bool) {k : Int} (h0 : 0 ≤ k) (h1 : k < 11) : rem3 c (11 - k).toNat = sc3 (c k.toNat) + rem3 c (11 - (k + 1)).toNat := by
  obtain ⟨d, hd⟩ : ∃ d : Nat, (11 - k).toNat = d + 1 := ⟨(11 - (k + 1)).toNat, by omega⟩
  have e1 : (11 - (k + 1)).toNat = d := by omega
  have e2 : k.toNat = 11 - (d + 1) := by omega
  rw [hd, e1, e2]; rfl

theorem st3 {f : Nat → Bool} {q k' lq lp v : Int} {b : Bool} (hP : (q = 0 → lq = lp) ∧ (q = 1 → lq = lp + sc3 f)) (h0 : 0 ≤ q) (h1 : q < 1) (hb : pat (fun j => f (q + j).toNat) = b) (hv : v = lq + (if b = true then 40 else 0)) (hk : k' = q + 1) :
    (k' = 0 → v = lp) ∧ (k' = 1 → v = lp + sc3 f) := by
  have e : q = 0 := by omega
  subst e
  subst hk
  refine ⟨fun h => absurd h (by decide), fun _ => ?_⟩
  rw [hv, hP.1 rfl]
  have e2 : (fun j : Int => f (0 + j).toNat) = fun j => f j.toNat := by funext j; rw [Int.zero_add]
  rw [e2] at hb
  unfold sc3
  rw [hb]
theorem fin3 {c : Nat → Nat → Bool} {k lp lq y : Int} (hP : ((1 : Int) = 0 → lq = lp) ∧ ((1 : Int) = 1 → lq = lp + sc3 (c k.toNat))) (hQ : lp + rem3 c (11 - k).toNat = y) (h0 : 0 ≤ k) (h1 : k < 11) : lq + rem3 c (11 - (k + 1)).toNat = y := by
  rw [rem3_step c h0 h1] at hQ
  have := hP.2 rfl
  omega

theorem lvl3 {w : World} {A : Around} {s : Shared} {mg mb : Str → Option Value} {R : Result → Shared → Prop} {a : Addr} {r : Nat → Addr} {c : Nat → Nat → Bool} {t : Tok}
    (X : (hd.heap_39 w.params).In s.heap) (T : TT mg mb s.heap) (G : Gd s.heap a r c) (hh : A.handled = none) (hd : A.depth + 3 < recursionLimit) (hu : A.units + 60 < cLine)
    (ret : ∀ t h' tk, (∀ b o, s.heap.get? b = some o → h'.get? b = some o) → R (.ok (.ret (.int (L3 c) t))) { s with heap := h', toks := tk }) :
    codeAny (model pr w) A (.call (.ref 42) ⟨[.ref a, .int 11 t], []⟩) R s := by
  k_dflt (refine' code_base [(Str.ofString "modules", .ref a), (Str.ofString "modules_count", .int 11 t)] ?k1 ?k2 ?k3 ?k4 ?k5 ?k6 ?k7 ?_ ?kh ?c2 ?c3 ?c4 ?c5; (case k1 => k_asm); (case k2 => k_asm); (case k3 => k_is); (case k4 => k_is); (case k5 => omega); (case k6 => exact BindsTo.of_eq rfl); (case k7 => exact locs rfl); (case kh => exact lookup_two (by decide)); (case c2 => exact rfl); (case c3 => exact rfl); (case c4 => exact rfl); (case c5 => decide))
  intro L h₁ tk F N
  try dsimp only
  try k_fold
  k_steps
  rename Fr _ _ _ _ => F
  rename News _ _ _ _ => N
  rename_i Ra _ _ ta ua va la _ _ Rb _ _ tb ub vb lb _ _ _ _ I₁ _ lI
  have l1 : @LT.lt Nat _ Ra Rb := lb _ (.head _)
  have l2 : @LT.lt Nat _ Rb I₁ := lI _ (.head _)
  refine' loop_rit (n := 11) (fun k (z : Int × Tok) => [(Str.ofString "modules", .ref a), (Str.ofString "modules_range", .ref Ra), (Str.ofString "modules_range_short", .ref Rb), (Str.ofString "lost_point", .int z.1 z.2)]) (fun _ _ => [(Rb, rng 0 (11 - 10) tb ub vb), (Ra, rng 0 11 ta ua va)]) (fun k z => z.1 + rem3 c (11 - k).toNat = rem3 c 11) (0, ?tk0) hh rfl rfl F N (by decide) (by decide) ?off ?ps ?p0 ?turn ?done
  case off => exact fun _ _ p hp => Nat.ne_of_lt (lI p hp)
  case ps => (repeat' (first | exact List.forall_mem_nil _ | refine' List.forall_mem_cons.mpr ⟨rfl, ?_⟩))
  case p0 => show 0 + rem3 c 11 = rem3 c 11; omega
  case turn =>
    rintro k ⟨lp, tl⟩ u h₃ tk₃ tt hk0 hk1 hP F N
    dsimp only at hP
    k_steps
    rename Fr _ _ _ _ => F
    rename News _ _ _ _ => N
    rename_i I₂ _ lI2 _ _
    refine' loop_rit (n := 1) (fun q (z : Int × Tok) => [(Str.ofString "modules", .ref a), (Str.ofString "modules_range", .ref Ra), (Str.ofString "modules_range_short", .ref Rb), (Str.ofString "lost_point", .int z.1 z.2), (Str.ofString "this_row", .ref (r k.toNat)), (Str.ofString "modules_range_short_iter", .ref I₂)]) (fun _ _ => [(I₁, rit (k + 1) (11 - (k + 1))), (Rb, rng 0 (11 - 10) tb ub vb), (Ra, rng 0 11 ta ua va)]) (fun q z => (q = 0 → z.1 = lp) ∧ (q = 1 → z.1 = lp + sc3 (c k.toNat))) (lp, ?tk1) hh rfl rfl F N (by decide) (by decide) ?off2 ?ps2 ?p02 ?turn2 ?done2
    case off2 => exact fun _ _ p hp => Nat.ne_of_lt (lI2 p hp)
    case ps2 => (repeat' (first | exact List.forall_mem_nil _ | refine' List.forall_mem_cons.mpr ⟨rfl, ?_⟩))
    case p02 => exact ⟨fun _ => rfl, fun h => absurd h (by decide)⟩
    case turn2 =>
      rintro q ⟨lq, tq⟩ u h₄ tk₄ tt hq0 hq1 hP F N
      dsimp only at hP
      have l3 : @LT.lt Nat _ I₁ I₂ := lI2 _ (.head _)
      k_steps
      all_goals (try dsimp only)
      · exact gdTurn (c' := (_, _)) (by assumption) (by assumption) (.inl rfl) (by omega) (by omega) (by (repeat' (first | exact List.forall_mem_nil _ | refine' List.forall_mem_cons.mpr ⟨rfl, ?_⟩))) (st3 (f := c k.toNat) (b := true) hP hq0 hq1 (by assumption) rfl (by omega))
      · exact gdTurn (c' := (_, _)) (by assumption) (by assumption) (.inl rfl) (by omega) (by omega) (by (repeat' (first | exact List.forall_mem_nil _ | refine' List.forall_mem_cons.mpr ⟨rfl, ?_⟩))) (st3 (f := c k.toNat) (b := true) hP hq0 hq1 (by assumption) rfl (by omega))
      · exact gdTurn (c' := (_, _)) (by assumption) (by assumption) (.inl rfl) (by omega) (by omega) (by (repeat' (first | exact List.forall_mem_nil _ | refine' List.forall_mem_cons.mpr ⟨rfl, ?_⟩))) (st3 (f := c k.toNat) (b := false) hP hq0 hq1 (by assumption) (by simp) (by omega))
      · exact gdTurn (c' := (_, _)) (by assumption) (by assumption) (.inl rfl) (by omega) (by omega) (by (repeat' (first | exact List.forall_mem_nil _ | refine' List.forall_mem_cons.mpr ⟨rfl, ?_⟩))) (st3 (f := c k.toNat) (b := false) hP hq0 hq1 (by assumption) (by simp) (by omega))
    case done2 =>
      rintro ⟨lq, tq⟩ u h₄ tk₄ hP F N
      dsimp only at hP
      k_steps
      exact gdTurn (c' := (_, _)) F (fun p hp => N p (.tail _ hp)) (.inl rfl) (by omega) (by omega) (by (repeat' (first | exact List.forall_mem_nil _ | refine' List.forall_mem_cons.mpr ⟨rfl, ?_⟩))) (fin3 hP (by assumption) hk0 hk1)
  case done =>
    rintro ⟨lp, tl⟩ u h₃ tk₃ hP F N
    dsimp only at hP
    k_steps
    rename Fr _ _ _ _ => F
    rename News _ _ _ _ => N
    rename_i I₃ _ lI3
    refine' loop_rit (n := 11) (fun k (z : Int × Tok) => [(Str.ofString "modules", .ref a), (Str.ofString "modules_range", .ref Ra), (Str.ofString "modules_range_short", .ref Rb), (Str.ofString "lost_point", .int z.1 z.2)]) (fun _ _ => [(I₁, rit 11 0), (Rb, rng 0 (11 - 10) tb ub vb), (Ra, rng 0 11 ta ua va)]) (fun k z => z.1 + rem3 (fun i j => c j i) (11 - k).toNat = L3 c) (lp, ?tk3) hh rfl rfl F N (by decide) (by decide) ?off3 ?ps3 ?p03 ?turn3 ?done3
    case off3 => exact fun _ _ p hp => Nat.ne_of_lt (lI3 p hp)
    case ps3 => (repeat' (first | exact List.forall_mem_nil _ | refine' List.forall_mem_cons.mpr ⟨rfl, ?_⟩))
    case p03 =>
      have hP' : lp + 0 = rem3 c 11 := hP
      show lp + rem3 (fun i j => c j i) 11 = rem3 c 11 + rem3 (fun i j => c j i) 11
      omega
    case turn3 =>
      rintro k ⟨lp, tl⟩ u h₃ tk₃ tt hk0 hk1 hP F N
      dsimp only at hP
      k_steps
      rename Fr _ _ _ _ => F
      rename News _ _ _ _ => N
      rename_i I₄ _ _ _ lI4 _ _
      refine' loop_rit (n := 1) (fun q (z : Int × Tok) => [(Str.ofString "modules", .ref a), (Str.ofString "modules_range", .ref Ra), (Str.ofString "modules_range_short", .ref Rb), (Str.ofString "lost_point", .int z.1 z.2), (Str.ofString "col", .int k tt), (Str.ofString "modules_range_short_iter", .ref I₄)]) (fun _ _ => [(I₃, rit (k + 1) (11 - (k + 1))), (I₁, rit 11 0), (Rb, rng 0 (11 - 10) tb ub vb), (Ra, rng 0 11 ta ua va)]) (fun q z => (q = 0 → z.1 = lp) ∧ (q = 1 → z.1 = lp + sc3 (fun j => c j k.toNat))) (lp, ?tk4) hh rfl rfl F N (by decide) (by decide) ?off4 ?ps4 ?p04 ?turn4 ?done4
      case off4 => exact fun _ _ p hp => Nat.ne_of_lt (lI4 p hp)
      case ps4 => (repeat' (first | exact List.forall_mem_nil _ | refine' List.forall_mem_cons.mpr ⟨rfl, ?_⟩))
      case p04 => exact ⟨fun _ => rfl, fun h => absurd h (by decide)⟩
      case turn4 =>
        rintro q ⟨lq, tq⟩ u h₄ tk₄ tt hq0 hq1 hP F N
        dsimp only at hP
        have l3 : @LT.lt Nat _ I₃ I₄ := lI4 _ (.head _)
        have l4 : @LT.lt Nat _ I₁ I₄ := lI4 _ (.tail _ (.head _))
        k_steps
        all_goals (try dsimp only)
        · exact gdTurn (c' := (_, _)) (by assumption) (by assumption) (.inl rfl) (by omega) (by omega) (by (repeat' (first | exact List.forall_mem_nil _ | refine' List.forall_mem_cons.mpr ⟨rfl, ?_⟩))) (st3 (f := fun j => c j k.toNat) (b := true) hP hq0 hq1 (by assumption) rfl (by omega))
        · exact gdTurn (c' := (_, _)) (by assumption) (by assumption) (.inl rfl) (by omega) (by omega) (by (repeat' (first | exact List.forall_mem_nil _ | refine' List.forall_mem_cons.mpr ⟨rfl, ?_⟩))) (st3 (f := fun j => c j k.toNat) (b := true) hP hq0 hq1 (by assumption) rfl (by omega))
        · exact gdTurn (c' := (_, _)) (by assumption) (by assumption) (.inl rfl) (by omega) (by omega) (by (repeat' (first | exact List.forall_mem_nil _ | refine' List.forall_mem_cons.mpr ⟨rfl, ?_⟩))) (st3 (f := fun j => c j k.toNat) (b := false) hP hq0 hq1 (by assumption) (by simp) (by omega))
        · exact gdTurn (c' := (_, _)) (by assumption) (by assumption) (.inl rfl) (by omega) (by omega) (by (repeat' (first | exact List.forall_mem_nil _ | refine' List.forall_mem_cons.mpr ⟨rfl, ?_⟩))) (st3 (f := fun j => c j k.toNat) (b := false) hP hq0 hq1 (by assumption) (by simp) (by omega))
      case done4 =>
        rintro ⟨lq, tq⟩ u h₄ tk₄ hP F N
        dsimp only at hP
        k_steps
        exact gdTurn (c' := (_, _)) F (fun p hp => N p (.tail _ hp)) (.inl rfl) (by omega) (by omega) (by (repeat' (first | exact List.forall_mem_nil _ | refine' List.forall_mem_cons.mpr ⟨rfl, ?_⟩))) (fin3 (c := fun i j => c j i) hP (by assumption) hk0 hk1)
    case done3 =>
      rintro ⟨lp, tl⟩ u h₃ tk₃ hP F N
      dsimp only at hP
      k_steps
      have e : lp = L3 c := by rw [← hP]; show lp = lp + 0; omega
      subst e
      exact ret _ _ _ F.keep

end Mine
end

section
open PySem PySem.W PySem.Calls PySem.Spec PyProof.Rows
set_option maxRecDepth 100000
set_option maxHeartbeats 4000000
namespace Mine
theorem fill_W4 : (PySem.Challenge.rw_ww0034_01 = PySem.Challenge.rw_ww0034_01) ∧ (hd.heap_39 = hd.heap_39) := by
  k_fill
  exact ⟨rfl, rfl⟩

local macro_rules | `(tactic| walk_at "call type:range") => `(tactic| (k_here; (rename Fr _ _ _ _ => F'); (rename News _ _ _ _ => N'); first
  | (with_unfolding_all refine range_led F' N' ?_; intro R' h' tk' t1' u1' v1' F' N' lR')
  | (with_unfolding_all refine range_led2 F' N' ?_; intro R' h' tk' t1' u1' v1' F' N' lR')))
local macro_rules | `(tactic| walk_at "exec For Name Name cons nil") => `(tactic| (k_here; with_unfolding_all refine' For_R ?_ ?k2; (case k2 => intro _; rfl)))
local macro_rules | `(tactic| walk_at "subscriptTail") => `(tactic| (k_here; (rename Fr _ _ _ _ => F'); (rename Gd _ _ _ _ => G'); (with_reducible show wpAny _ _ (subscriptTail _ _ (Value.ref _) (Value.int _ _)) _ _ _); first | (with_unfolding_all refine' item_row F' G' ?k1 ?k2 ?_ ?k3; (case k1 => omega); (case k2 => omega); (case k3 => with_unfolding_all rfl)) | (with_unfolding_all refine' item_cell F' G' ?k0 ?k1 ?k2 ?_ ?k3; (case k0 => omega); (case k1 => omega); (case k2 => omega); (case k3 => with_unfolding_all rfl))))

local macro_rules | `(tactic| walk_at "call builtin:iter") => `(tactic| (k_here; (with_reducible show wpAny _ _ (call (Value.builtin "iter") [Value.ref _]) _ _ _); (rename Fr _ _ _ _ => F'); (rename News _ _ _ _ => N'); k_dflt (refine' iter_call_led F' N' ?k1 ?k2 ?k3 ?_; (case k1 => k_mem); (case k2 => decide); (case k3 => rfl)); intro I' h' F' N' lI'))
local macro_rules | `(tactic| walk_at "pyIter ref") => `(tactic| (k_here; (with_reducible show wpAny _ _ (pyIter (Value.ref _)) _ _ _); (rename Fr _ _ _ _ => F'); (rename News _ _ _ _ => N'); k_dflt (refine' iter_led F' N' ?k1 ?k2 ?k3 ?_; (case k1 => k_mem); (case k2 => decide); (case k3 => rfl)); intro I' h' F' N' lI'))
local macro_rules | `(tactic| walk_at "pyIter ref") => `(tactic| (k_here; (with_reducible show wpAny _ _ (pyIter (Value.ref _)) _ _ _); (rename News _ _ _ _ => N'); with_unfolding_all refine' self_led N' ?k1 ?_; (case k1 => k_mem)))
local macro_rules | `(tactic| walk_at "call builtin:next") => `(tactic| (k_here; (with_reducible show wpAny _ _ (call (Value.builtin "next") [Value.ref _, _]) _ _ _); (rename Fr _ _ _ _ => F'); (rename News _ _ _ _ => N'); k_dflt (refine' next_call_led ?k1 F' N' ?k2 ?_; (case k1 => assumption); (case k2 => k_updF)); intro v' h' tk' k' e1' e2' F' N'; (try dsimp only at N')))

local macro_rules | `(tactic| walk_at "exec If BoolOp cons nil") => `(tactic| (k_here; plain_pass; k_dflt (refine' if_tst ?T ?_ ?_; (case T => (repeat' (first | with_reducible refine' tst_op ?_ | with_reducible refine' tst_and_nil | with_reducible refine' tst_or_nil | with_reducible refine' tst_and ?_ ?_ | with_reducible refine' tst_or ?_ ?_ | with_reducible refine' tst_not ?_)); all_goals (try (intro tk' Q' hq'; k_steps; exact hq' _)))); all_goals intro tk' hb'))

local macro_rules | `(tactic| walk_at "call type:map") => `(tactic| (k_here; (rename Fr _ _ _ _ => F'); (rename News _ _ _ _ => N'); (rename Gd _ _ _ _ => G'); k_dflt (refine map_led F' N' G' ?_); intro M' h' H' F' N'))
local macro_rules | `(tactic| walk_at "call builtin:sum") => `(tactic| (k_here; (rename MapAt _ _ _ _ _ _ => H'); (rename Fr _ _ _ _ => F'); (rename News _ _ _ _ => N'); k_dflt (refine sum_led (by assumption) F' N' H' ?_); intro h' tk' t' F' N' d0' d1'))

local macro_rules | `(tactic| walk_at "binaryOp Div") => `(tactic| (k_here; k_dflt (refine' div_fi ?k1 ?k2 ?_; (case k1 => decide +kernel); (case k2 => decide +kernel))))
local macro_rules | `(tactic| walk_at "binaryOp Mult") => `(tactic| (k_here; (with_reducible show wpAny _ _ (binaryOp _ (Value.float _ _) (Value.int _ _)) _ _ _); k_dflt (refine' mul_fi' ?k1 ?_; (case k1 => decide +kernel))))
local macro_rules | `(tactic| walk_at "binaryOp Sub") => `(tactic| (k_here; (with_reducible show wpAny _ _ (binaryOp _ (Value.float _ _) (Value.int _ _)) _ _ _); k_dflt (refine' sub_fi' ?k1 ?_; (case k1 => decide +kernel))))
local macro_rules | `(tactic| walk_at "call builtin:abs") => `(tactic| (k_here; (with_reducible show wpAny _ _ (PySem.call (Value.builtin "abs") [Value.float _ _]) _ _ _); k_dflt (refine call_abs_float ?_)))
local macro_rules | `(tactic| walk_at "call type:int") => `(tactic| (k_here; (with_reducible show wpAny _ _ (PySem.call (Value.type "int") [Value.float _ _]) _ _ _); k_dflt (refine' int_fl (n := darks _) ?k1 ?k2 ?_; (case k1 => assumption); (case k2 => assumption)); intro t' tk'))


def L4 (c : Nat → Nat → Bool) : Int := L4n (darks c) * 10
theorem lvl4 {w : World} {A : Around} {s : Shared} {mg mb : Str → Option Value} {R : Result → Shared → Prop} {a : Addr} {r : Nat → Addr} {c : Nat → Nat → Bool} {t : Tok}
    (X : (hd.heap_39 w.params).In s.heap) (T : TT mg mb s.heap) (G : Gd s.heap a r c) (hh : A.handled = none) (hd : A.depth + 3 < recursionLimit) (hu : A.units + 60 < cLine)
    (ret : ∀ t h' tk, (∀ b o, s.heap.get? b = some o → h'.get? b = some o) → R (.ok (.ret (.int (L4 c) t))) { s with heap := h', toks := tk }) :
    codeAny (model pr w) A (.call (.ref 49) ⟨[.ref a, .int 11 t], []⟩) R s := by
  k_dflt (refine' code_base [(Str.ofString "modules", .ref a), (Str.ofString "modules_count", .int 11 t)] ?k1 ?k2 ?k3 ?k4 ?k5 ?k6 ?k7 ?_ ?kh ?c2 ?c3 ?c4 ?c5; (case k1 => k_asm); (case k2 => k_asm); (case k3 => k_is); (case k4 => k_is); (case k5 => omega); (case k6 => exact BindsTo.of_eq rfl); (case k7 => exact locs rfl); (case kh => exact lookup_two (by decide)); (case c2 => exact rfl); (case c3 => exact rfl); (case c4 => exact rfl); (case c5 => decide))
  intro L h₁ tk F N
  try dsimp only
  try k_fold
  k_steps
  rename Fr _ _ _ _ => F
  exact ret _ _ _ F.keep

end Mine
end

section
open PySem PySem.W PySem.Calls PySem.Spec PyProof.Rows
set_option maxRecDepth 100000
set_option maxHeartbeats 4000000
namespace Mine
/-- the table of level 1's code: empty, or with its generator -/
def TabSt (h : Heap) : Prop := ∃ ps, (ps = #[] ∨ ∃ c' : Addr, ps = #[rawInt 41, rawInt 22, .ref c']) ∧ h.IsCode 27 23 ps ∧ h.TableAt 27 23 ps
theorem TabSt.keeps {h h' : Heap} (T : TabSt h) (k : ∀ b o, h.get? b = some o → h'.get? b = some o) : TabSt h' :=
  let ⟨ps, a, b, c⟩ := T; ⟨ps, a, b.keeps k, c.keeps k⟩
def BM (mg : Str → Option Value) (h : Heap) : Prop := ∃ bm ob, mg "__builtins__" = some (.ref bm) ∧ bm ≠ builtinsNs ∧ h.get? bm = some ob ∧ ob.cls = .type "module" ∧ ob.dict = some builtinsNs ∧ ob.data = .plain
theorem BM.keeps {h h' : Heap} {mg} (T : BM mg h) (k : ∀ b o, h.get? b = some o → h'.get? b = some o) : BM mg h' :=
  let ⟨bm, ob, a, b, c, r⟩ := T; ⟨bm, ob, a, b, k _ _ c, r⟩

/-- what a call leaves standing: all but the table, which goes on -/
structure Kp (h h' : Heap) : Prop where
  keep : ∀ b o, b ≠ 23 → h.get? b = some o → h'.get? b = some o
  tab : TabSt h'
theorem Kp.refl {h : Heap} (T : TabSt h) : Kp h h := ⟨fun _ _ _ e => e, T⟩
theorem Kp.of {h h' : Heap} (T : TabSt h) (k : ∀ b o, h.get? b = some o → h'.get? b = some o) : Kp h h' := ⟨fun b o _ e => k b o e, T.keeps k⟩
theorem Kp.trans {h h' h'' : Heap} (x : Kp h h') (y : Kp h' h'') : Kp h h'' := ⟨fun b o hb e => y.keep b o hb (x.keep b o hb e), y.tab⟩

section
variable {w : World} {A : Around} {E : Value → Shared → Prop} {s : Shared} {h₀ : Heap} {L : Addr} {m : Str → Option Value} {news : List (Addr × Obj)}

abbrev gScope : Scope := { kind := ScopeKind.function, names := [(Str.ofString ".0", NameKind.local), (Str.ofString "each_length", NameKind.local), (Str.ofString "container", NameKind.free)], isGenerator := true, isCoroutine := false }

def GenQ1 (w : World) (A : Around) (env : Env) (elt : Expr) (C : Addr) (Q : Value → Shared → Prop) (it : Value) (s₂ : Shared) : Prop :=
  s₂.heap.NoLimit ∧
      wpAny (model pr w) A (genexprCode env { line := 41, col := 22, endLine := 41, endCol := 113 } (env.qual ++ "<genexpr>") gScope) (fun code s₃ => wpAny (model pr w) A (builtinsFor env.globals env.builtins) (fun bi s₄ =>
        ∃ I fp wr n₀ P St₀ pz F, it = .ref I ∧ (∀ A' : Around, A'.handled = none → Walks pr w A' I fp wr n₀ P St₀) ∧ St₀ 0 s₄.heap ∧ (∀ b ∈ fp, b < s₄.heap.objs.size) ∧ s₄.heap.NoLimit ∧ cStatics ∉ wr ∧
          (∀ href : Heap, (∀ b o, s₄.heap.get? b = some o → href.get? b = some o) →
            QuietGen pr w (genEnv gScope [(Str.ofString "container", C)] s₄.heap.objs.size code bi env) (Str.ofString "each_length") [] elt (List.range s₄.heap.objs.size) wr P pz F href) ∧
          (∀ a h₅ tk gs, gs.bare = true → s₄.heap.objs.size < a → h₅.objs.size = a + 1 → (∀ b o, s₄.heap.get? b = some o → h₅.get? b = some o) →
            WalksS pr w A.in4 a (a :: s₄.heap.objs.size :: List.range s₄.heap.objs.size) (s₄.heap.objs.size :: wr) (GenOnlyQ s₄.gens.size) (passing pz n₀ 0).length
              (fun j y => ∃ i, (passing pz n₀ 0)[j]? = some i ∧ F i y) (GenAt pr w A.in4 a s₄.gens.size s₄.heap.objs.size (List.range s₄.heap.objs.size) wr pz n₀ F) →
            GenAt pr w A.in4 a s₄.gens.size s₄.heap.objs.size (List.range s₄.heap.objs.size) wr pz n₀ F 0 { s₄ with gens := s₄.gens.push gs, toks := tk, heap := h₅ } →
            Q (.ref a) { s₄ with gens := s₄.gens.push gs, toks := tk, heap := h₅ })) NoE s₃) NoE s₂

theorem gen_start {env : Env} {elt iter : Expr} {px : Pos} {Q : Value → Shared → Prop} {C : Addr}
    (hh : A.handled = none) (hclos : closureFor gScope env = pure [(Str.ofString "container", C)]) (hroom : A.depth < recursionLimit)
    (h : wpAny (model pr w) A (eval iter env) (fun xv s₁ => wpAny (model pr w) A (pyIter xv) (GenQ1 w A env elt C Q) NoE s₁) NoE s)
    (hs : ∀ x, genFold iter env x = pure x) :
    wpAny (model pr w) A (eval (.GeneratorExp elt [⟨.Name (Str.ofString "each_length") px, iter, [], 0⟩] gScope { line := 41, col := 22, endLine := 41, endCol := 113 }) env) Q NoE s :=
  wpAny_GeneratorExp_walksQ hh rfl hclos (by decide) rfl rfl rfl hroom h hs

/-- the worth of a length, read by the generator -/
theorem elt_run {env : Env} {C D Lg : Addr} {code : Value} {vs : List Value} {cont : List Int} {i : Nat} {m₂ : Str → Option Value} {t : Tok} {p1 p2 p3 p4 p5 p6 p7 : Pos}
    (hC : s.heap.IsCell C (some (.ref D))) (hD : s.heap.IsList D vs.toArray) (hi : IntsAre vs cont) (hl : cont.length = 12) (hi7 : i < 7)
    (hn : s.heap.Ns Lg m₂) (hm : m₂ (Str.ofString "each_length") = some (.int (5 + (i : Int)) t)) :
    wpAny (model pr w) A (eval (.BinOp (.Subscript (.Name (Str.ofString "container") p1) (.Name (Str.ofString "each_length") p2) p3) .Mult (.BinOp (.Name (Str.ofString "each_length") p4) .Sub (.Constant (.int 2) 0 p5) p6) p7)
      (genEnv gScope [(Str.ofString "container", C)] Lg code builtinsNs env)) (fun y s₃ => (∃ t, y = .int (term cont i) t) ∧ Keeps s s₃) E s := by
  refine wpAny_BinOp (wpAny_Subscript_Name_late ?_ (by intro _ _; rfl))
  refine wpAny_Name (wpAny_loadName_free rfl rfl rfl hC ?_ (by decide)) (by decide)
  refine wpAny_Name (wpAny_loadName_local rfl rfl hn hm ?_) (by decide)
  have hlen : vs.length = 12 := by rw [IntsAre.length hi]; exact hl
  have hlt : 5 + i < vs.length := by omega
  have e1 : (5 + (i : Int)).toNat = 5 + i := by omega
  obtain ⟨u, hu⟩ := IntsAre.int_at hi (5 + i) _ (List.getElem?_eq_getElem hlt)
  refine ⟨_, _, slot_list_getitem.lookup, hD.typeIs, wpAny_getItem_list hD (by omega) (by omega) (x := .int (cont.getD (5 + i) 0) u) (by rw [e1, List.getElem?_toArray, List.getElem?_eq_getElem hlt, hu]) ?_⟩
  refine wpAny_BinOp (wpAny_Name (wpAny_loadName_local rfl rfl hn hm ?_) (by decide))
  refine wpAny_Constant_int ?_
  refine PyProof.Rows.sub_int ?_
  refine PyProof.Rows.mul_int ?_ ?_
  · exact ⟨⟨_, by unfold term; rw [e1]⟩, s.heap, _, rfl, fun _ _ e => e⟩
  · exact IntMulOk.of_right (PySem.intBits_le_64 (by omega) (by omega))

theorem code_step {env : Env} {Q : Value → Shared → Prop} {pos : Pos} {qn : Str} {sc : Scope} (hl : pos.line = 41) (hc : pos.col = 22) (hcode : env.code = .ref 27) (TS : TabSt h₀) (F : Fr h₀ L s.heap m)
    (h : ∀ h₁ c' h' tk, Kp h₀ h₁ → Heap.ExtBut 23 s.heap h' → s.heap.objs.size ≤ h'.objs.size → Fr h₁ L h' m → Q (.ref c') { s with heap := h', toks := tk }) : wpAny (model pr w) A (genexprCode env pos qn sc) Q E s := by
  obtain ⟨ps, hps, hk, ht⟩ := TS
  rcases hps with rfl | ⟨c', rfl⟩
  · refine wpAny_genexprCodeX hcode (hk.keeps F.keep) (ht.keeps F.keep) rfl fun c' h' tk hx hge hlt hcode' _ htab' _ => ?_
    obtain ⟨B, F'⟩ := (Based.start hk ht (by decide)).grow F hx hcode' htab'
    refine h _ c' h' tk ⟨fun b o hb e => (B.same.2 b hb).trans e, _, .inr ⟨c', ?_⟩, B.code, B.tab⟩ hx (Nat.le_trans hge (Nat.le_of_lt hlt)) F'
    rw [hl, hc]; rfl
  · refine wpAny_genexprCode_hit hcode (hk.keeps F.keep) (c' := .ref c') ?_ ?_
    · show codeAmong pos [rawInt 41, rawInt 22, Value.ref c'] = _
      simp only [rawInt, codeAmong, hl, hc]; rfl
    · exact h h₀ c' s.heap s.toks (.refl ⟨_, .inr ⟨c', rfl⟩, hk, ht⟩) (fun b o _ e => e) (Nat.le_refl _) F

theorem walksLt {I : Addr} {fp wr : List Addr} {n : Nat} {P : Nat → Value → Prop} {St : Nat → Heap → Prop} (W : Walks pr w A I fp wr n P St) : Walks pr w A I fp wr n (fun i v => i < n ∧ P i v) St where
  sub := W.sub
  frame := W.frame
  item := fun i s Q E hi st hQ => W.item i s Q E hi st fun v h' tk hP => hQ v h' tk ⟨hi, hP⟩
  done := W.done
  self := W.self

/-- a generator of seven numbers, not begun -/
def GenRdy (w : World) (A : Around) (L : Addr) (val : Nat → Int) (a : Addr) (s : Shared) : Prop :=
  ∃ fp wr g St P, WalksS pr w A.in4 a fp wr (GenOnlyQ g) 7 P St ∧ St 0 s ∧ (∀ b ∈ fp, b < s.heap.objs.size) ∧ (∀ b ∈ wr, L < b) ∧ (∀ i v, P i v → ∃ t, v = .int (val i) t)

theorem pass7 : passing (fun _ => true) 7 0 = [0, 1, 2, 3, 4, 5, 6] := by decide
theorem pass_at {j i : Nat} (h : (passing (fun _ => true) 7 0)[j]? = some i) : i = j := by
  rw [pass7] at h
  have hj : j < 7 := by
    rcases Nat.lt_or_ge j 7 with hj | hj
    · exact hj
    · rw [List.getElem?_eq_none (by simpa using hj)] at h; cases h
  have : j = 0 ∨ j = 1 ∨ j = 2 ∨ j = 3 ∨ j = 4 ∨ j = 5 ∨ j = 6 := by omega
  rcases this with rfl | rfl | rfl | rfl | rfl | rfl | rfl <;> (simp at h; omega)

theorem gen_post {env : Env} {Q : Value → Shared → Prop} {C D I : Addr} {oc : Obj} {vs : List Value} {cont : List Int} {mg mb : Str → Option Value} {p1 p2 p3 p4 p5 p6 p7 : Pos}
    (hcode : env.code = .ref 27) (hg : env.globals = mainGlobals) (T : TT mg mb h₀) (M : BM mg h₀) (TS : TabSt h₀) (B : AllBare s.gens) (F : Fr h₀ L s.heap m) (N : News h₀ L s.heap news)
    (hI : (I, rit 5 7) ∈ news) (hC : (C, oc) ∈ news) (hoc : oc.data = .cell (some (.ref D))) (hD : (D, PySem.W.listOf vs.toArray 0) ∈ news) (hi : IntsAre vs cont) (hl : cont.length = 12) (hIC : C ≠ I) (hID : D ≠ I) (hIL : L < I)
    (h : ∀ h₁ a h' gs tk, Kp h₀ h₁ → Fr h₁ L h' m → AllBare gs → GenRdy w A L (term cont) a { s with heap := h', gens := gs, toks := tk } → Q (.ref a) { s with heap := h', gens := gs, toks := tk }) :
    GenQ1 w A env (.BinOp (.Subscript (.Name (Str.ofString "container") p1) (.Name (Str.ofString "each_length") p2) p3) .Mult (.BinOp (.Name (Str.ofString "each_length") p4) .Sub (.Constant (.int 2) 0 p5) p6) p7) C Q (.ref I) s := by
  have h23 : ∃ o, h₀.get? 23 = some o ∧ o.cls = .none := by obtain ⟨ps, _, _, ht⟩ := TS; exact ⟨_, ht.2, rfl⟩
  have ne23 : ∀ p ∈ news, p.1 ≠ 23 := fun p hp e => by
    obtain ⟨o, ho, _⟩ := h23
    have := (N p hp).2.2
    rw [e, ho] at this; cases this
  refine ⟨T.nolimit.keeps F.keep, code_step rfl rfl hcode TS F fun h₁ c' h' tk K hx hsz F' => ?_⟩
  obtain ⟨bm, ob, e1, e2, e3, e4, e5, e6⟩ := M
  have hb23 : bm ≠ 23 := fun e => by
    obtain ⟨o, ho, hc⟩ := h23
    rw [e, ho] at e3; cases e3; rw [hc] at e4; cases e4
  rw [hg]
  refine wpAny_builtinsFor (T.g.at' fun o e => F'.keep _ _ (K.keep _ _ (by decide) e)) e1 e2 (F'.keep _ _ (K.keep _ _ hb23 e3)) e4 e5 e6 ?_
  have hlim' : h'.NoLimit := (T.nolimit.keeps F.keep).extBut hx (by decide)
  have keepN : ∀ p ∈ news, h'.get? p.1 = some p.2 := fun p hp => hx _ _ (ne23 p hp) (N p hp).1
  have hIlt : I < h'.objs.size := Heap.lt_size (keepN _ hI)
  refine ⟨I, [I], [I], 7, _, _, fun _ => true, fun i y => ∃ t, y = .int (term cont i) t, rfl, fun A' hA => walksLt (Walks.range hA I 5 1 7), keepN _ hI, ?_, hlim', ?_, ?_, ?_⟩
  · intro b hb
    rw [List.mem_singleton] at hb; subst hb; exact hIlt
  · intro hb
    rw [List.mem_singleton] at hb
    have := F.above
    have h2 : cStatics < h₀.objs.size := let ⟨_, hn, _⟩ := T.nolimit; hn.lt
    rw [hb] at h2
    exact Nat.lt_irrefl _ (Nat.lt_trans (Nat.lt_of_lt_of_le h2 this) hIL)
  · intro href hhref
    have get : ∀ (t : Shared), (∀ b ∈ List.range h'.objs.size, b ∉ [I] → ∀ o, href.get? b = some o → t.heap.get? b = some o) → ∀ p ∈ news, p.1 ≠ I → t.heap.get? p.1 = some p.2 := fun t hkp p hp hpI =>
      hkp _ (List.mem_range.mpr (Heap.lt_size (keepN p hp))) (by simpa using hpI) _ (hhref _ _ (keepN p hp))
    constructor
    · intro A' E' i v t m₂ hA hP hn hm hkp
      refine wpAny_pure ⟨rfl, t.heap, t.toks, rfl, fun _ _ e => e⟩
    · rintro A' E' i v t m₂ hA ⟨hi7, tt, rfl⟩ _ hn hm hkp
      have e : (5 + (i : Int) * 1) = 5 + (i : Int) := by omega
      rw [e] at hm
      exact elt_run ⟨_, get t hkp _ hC hIC, hoc⟩ ⟨_, get t hkp _ hD hID, rfl, _, rfl⟩ hi hl hi7 hn hm
  · intro a h₅ tk₅ gs hgb hlt hsz₅ hk₅ W hat
    refine h h₁ a h₅ _ tk₅ K (F'.keeps hk₅) (B.push hgb) ⟨_, _, _, _, _, W, hat, ?_, ?_, ?_⟩
    · intro b hb
      show b < h₅.objs.size
      rw [hsz₅]
      rcases List.mem_cons.mp hb with rfl | hb
      · exact Nat.lt_succ_self _
      · rcases List.mem_cons.mp hb with rfl | hb
        · exact Nat.lt_succ_of_lt hlt
        · have := List.mem_range.mp hb
          have hlt' : h'.objs.size < a := hlt
          show b < a + 1
          exact Nat.lt_succ_of_lt (Nat.lt_trans this hlt')
    · intro b hb
      rcases List.mem_cons.mp hb with rfl | hb
      · exact Nat.lt_trans hIL hIlt
      · rw [List.mem_singleton] at hb; subst hb; exact hIL
    · rintro i v ⟨j, hj, t, rfl⟩
      rw [pass_at hj]
      exact ⟨t, rfl⟩

/-- the sum of such a generator -/
theorem sum_gen {Q : Value → Shared → Prop} {a : Addr} {h₁ : Heap} {val : Nat → Int} (F : Fr h₁ L s.heap m) (B : AllBare s.gens) (G : GenRdy w A L val a s)
    (hfit : ∀ j, j < 7 → InLong (val j) ∧ InLong (preSum val (j + 1)))
    (h : ∀ h' gs tk t, Fr h₁ L h' m → AllBare gs → Q (.int (preSum val 7) t) { s with heap := h', gens := gs, toks := tk }) : wpAny (model pr w) A (call (.builtin "sum") [.ref a]) Q E s := by
  obtain ⟨fp, wr, g, St, P, W, hst, hfp, hwr, hval⟩ := G
  refine call_sum_walkS ((W.in4_1).self 0 s _ _ hst ⟨a, fp, wr, GenOnlyQ g, 7, P, St, val, rfl, W.in4_1, hst, hfp, hval, hfit, fun s' t' hm => ?_⟩)
  have e : s' = { s with heap := s'.heap, gens := s'.gens, toks := s'.toks } := by
    obtain ⟨h', g', d', tk', o'⟩ := s'
    have e1 : d' = s.drawn := hm.drawn
    have e2 : o' = s.os := hm.os
    subst e1; subst e2; rfl
  rw [e]
  have notw : ∀ b, b ≤ L → b ∉ wr := fun b hb hw => Nat.lt_irrefl _ (Nat.lt_of_lt_of_le (hwr b hw) hb)
  refine h s'.heap s'.gens s'.toks t' ⟨F.ns.at' fun o e => hm.heap _ _ (notw _ (Nat.le_refl _)) e, fun b o e => hm.heap _ _ (notw _ (Nat.le_trans (Nat.le_of_lt (Heap.lt_size e)) F.above)) (F.keep b o e), F.above⟩ (hm.gens.bare B)
end
end Mine
end

section
open PySem PySem.W PySem.Calls PySem.Spec PyProof.Rows
set_option maxRecDepth 100000
set_option maxHeartbeats 4000000
namespace Mine
theorem fill_W1 : (PySem.Challenge.rw_ww0034_01 = PySem.Challenge.rw_ww0034_01) ∧ (hd.heap_39 = hd.heap_39) := by
  k_fill
  exact ⟨rfl, rfl⟩

local macro_rules | `(tactic| walk_at "call type:range") => `(tactic| (k_here; (rename Fr _ _ _ _ => F'); (rename News _ _ _ _ => N'); first
  | (with_unfolding_all refine range_led F' N' ?_; intro R' h' tk' t1' u1' v1' F' N' lR')
  | (with_unfolding_all refine range_led2 F' N' ?_; intro R' h' tk' t1' u1' v1' F' N' lR')))
local macro_rules | `(tactic| walk_at "exec For Name Name cons nil") => `(tactic| (k_here; with_unfolding_all refine' For_R ?_ ?k2; (case k2 => intro _; rfl)))
local macro_rules | `(tactic| walk_at "subscriptTail") => `(tactic| (k_here; (rename Fr _ _ _ _ => F'); (rename Gd _ _ _ _ => G'); (with_reducible show wpAny _ _ (subscriptTail _ _ (Value.ref _) (Value.int _ _)) _ _ _); first | (with_unfolding_all refine' item_row F' G' ?k1 ?k2 ?_ ?k3; (case k1 => omega); (case k2 => omega); (case k3 => with_unfolding_all rfl)) | (with_unfolding_all refine' item_cell F' G' ?k0 ?k1 ?k2 ?_ ?k3; (case k0 => omega); (case k1 => omega); (case k2 => omega); (case k3 => with_unfolding_all rfl))))

local macro_rules | `(tactic| walk_at "call builtin:iter") => `(tactic| (k_here; (with_reducible show wpAny _ _ (call (Value.builtin "iter") [Value.ref _]) _ _ _); (rename Fr _ _ _ _ => F'); (rename News _ _ _ _ => N'); k_dflt (refine' iter_call_led F' N' ?k1 ?k2 ?k3 ?_; (case k1 => k_mem); (case k2 => decide); (case k3 => rfl)); intro I' h' F' N' lI'))
local macro_rules | `(tactic| walk_at "pyIter ref") => `(tactic| (k_here; (with_reducible show wpAny _ _ (pyIter (Value.ref _)) _ _ _); (rename Fr _ _ _ _ => F'); (rename News _ _ _ _ => N'); k_dflt (refine' iter_led F' N' ?k1 ?k2 ?k3 ?_; (case k1 => k_mem); (case k2 => decide); (case k3 => rfl)); intro I' h' F' N' lI'))
local macro_rules | `(tactic| walk_at "pyIter ref") => `(tactic| (k_here; (with_reducible show wpAny _ _ (pyIter (Value.ref _)) _ _ _); (rename News _ _ _ _ => N'); with_unfolding_all refine' self_led N' ?k1 ?_; (case k1 => k_mem)))
local macro_rules | `(tactic| walk_at "call builtin:next") => `(tactic| (k_here; (with_reducible show wpAny _ _ (call (Value.builtin "next") [Value.ref _, _]) _ _ _); (rename Fr _ _ _ _ => F'); (rename News _ _ _ _ => N'); k_dflt (refine' next_call_led ?k1 F' N' ?k2 ?_; (case k1 => assumption); (case k2 => k_updF)); intro v' h' tk' k' e1' e2' F' N'; (try dsimp only at N')))

local macro_rules | `(tactic| walk_at "exec If BoolOp cons nil") => `(tactic| (k_here; plain_pass; k_dflt (refine' if_tst ?T ?_ ?_; (case T => (repeat' (first | with_reducible refine' tst_op ?_ | with_reducible refine' tst_and_nil | with_reducible refine' tst_or_nil | with_reducible refine' tst_and ?_ ?_ | with_reducible refine' tst_or ?_ ?_ | with_reducible refine' tst_not ?_)); all_goals (try (intro tk' Q' hq'; k_steps; exact hq' _)))); all_goals intro tk' hb'))


theorem newsNil {h₀ h : Heap} {L : Addr} {m : Str → Option Value} (_ : Fr h₀ L h m) : News h₀ L h [] := News.nil
local macro_rules | `(tactic| walk_at "call builtin:sum") => `(tactic| (k_here; (rename GenRdy _ _ _ _ _ _ => G'); (rename Fr _ _ _ _ => F'); (rename AllBare _ => B'); k_dflt (refine' sum_gen F' B' G' ?k1 ?_; (case k1 => assumption)); intro h' gs' tk' t' F' B'; have N' := newsNil F'))

theorem lvl1 {w : World} {A : Around} {s : Shared} {mg mb : Str → Option Value} {R : Result → Shared → Prop} {a : Addr} {r : Nat → Addr} {c : Nat → Nat → Bool} {t : Tok}
    (X : (hd.heap_39 w.params).In s.heap) (T : TT mg mb s.heap) (G : Gd s.heap a r c) (M : BM mg s.heap) (TS : TabSt s.heap) (B : AllBare s.gens) (hh : A.handled = none) (hd : A.depth + 3 < recursionLimit) (hu : A.units + 60 < cLine)
    (ret : ∀ t h' gs tk, Kp s.heap h' → AllBare gs → R (.ok (.ret (.int (L1 c) t))) { s with heap := h', gens := gs, toks := tk }) :
    codeAny (model pr w) A (.call (.ref 28) ⟨[.ref a, .int 11 t], []⟩) R s := by
  k_dflt (refine' code_baseC [(Str.ofString "modules", .ref a), (Str.ofString "modules_count", .int 11 t)] ?k1 ?k2 ?k3 ?k4 ?k5 ?k6 ?k7 ?k8 ?_ ?c2 ?c3 ?c4; (case k1 => k_asm); (case k2 => k_asm); (case k3 => k_is); (case k4 => k_is); (case k5 => omega); (case k6 => exact BindsTo.of_eq rfl); (case k7 => exact rfl); (case k8 => decide +kernel); (case c2 => exact rfl); (case c3 => exact rfl); (case c4 => exact rfl))
  intro L h₁ tk cells F N Y
  k_cells Y
  (try simp only [List.cons_append, List.nil_append] at N)
  try dsimp only
  try k_fold
  k_steps
  rename Fr _ _ _ _ => F
  rename News _ _ _ _ => N
  rename_i R₁ _ _ ta ua va lR _ tkz _ _ _ _ _ D _ _ _ hi0 _ _ _ _ _ lD _ oc _ _ hoc I₁ _ lI
  have l1 : @LT.lt Nat _ (L + 1) R₁ := lR _ (.head _)
  have l2 : @LT.lt Nat _ R₁ D := lD.2.1
  have l3 : @LT.lt Nat _ D I₁ := lI _ (.head _)
  have N0 := kst_newsOf (l' := [(I₁, rit 0 11), (D, listOf _ 0), (R₁, rng 0 11 ta ua va), (L + 1, oc)]) N (by with_unfolding_all exact (List.forall_mem_cons.mpr ⟨.head _, List.forall_mem_cons.mpr ⟨.tail _ (.head _), List.forall_mem_cons.mpr ⟨.tail _ (.tail _ (.tail _ (.head _))), List.forall_mem_cons.mpr ⟨.tail _ (.tail _ (.tail _ (.tail _ (.head _)))), List.forall_mem_nil _⟩⟩⟩⟩))
  refine' loop_rit (n := 11) (fun k (z : List Value × List Int) => [(Str.ofString "modules", .ref a), (Str.ofString "modules_count", .int 11 t), (Str.ofString "modules_range", .ref R₁), (Str.ofString "lost_point", .int 0 ?t0)]) (fun _ z => [(D, listOf z.1.toArray 0), (R₁, rng 0 11 ta ua va), (L + 1, oc)]) (fun k z => IntsAre z.1 z.2 ∧ z.2.length = 12 ∧ (∀ x ∈ z.2, 0 ≤ x) ∧ Wt z.2 + rows1 c (11 - k).toNat = rows1 c 11) ((List.replicate ((11 : Int) + 1).toNat [Value.int 0 tkz]).flatten, (List.replicate ((11 : Int) + 1).toNat [(0 : Int)]).flatten) hh rfl rfl F N0 (by decide) (by decide) ?off ?ps ?p0 ?turn ?done
  case off =>
    intro _ _ p hp
    simp only [List.mem_cons, List.not_mem_nil, or_false] at hp
    rcases hp with h | h | h <;> subst h <;> (refine neN ?_; dsimp only; omega)
  case ps => (repeat' (first | exact List.forall_mem_nil _ | refine' List.forall_mem_cons.mpr ⟨rfl, ?_⟩))
  case p0 => exact ⟨hi0, rfl, by show ∀ x ∈ (List.replicate ((11 : Int) + 1).toNat [(0 : Int)]).flatten, 0 ≤ x; decide, by rw [Wt_zero, Int.zero_add]; rfl⟩
  case turn =>
    rintro k ⟨vs, cont⟩ u h₃ tk₃ tt hk0 hk1 ⟨hi, hl, hg, hW⟩ F N
    dsimp only at hi hl hg hW N
    k_steps
    rename Fr _ _ _ _ => F
    rename News _ _ _ _ => N
    rename_i I₂ _ lI2
    refine' loop_rit (n := 11) (fun q (z : List Value × List Int × Bool × Int × Tok) => [(Str.ofString "modules", .ref a), (Str.ofString "modules_count", .int 11 t), (Str.ofString "modules_range", .ref R₁), (Str.ofString "lost_point", .int 0 ?t1), (Str.ofString "this_row", .ref (r k.toNat)), (Str.ofString "previous_color", .bool z.2.2.1), (Str.ofString "length", .int z.2.2.2.1 z.2.2.2.2)]) (fun _ z => [(I₁, rit (k + 1) (11 - (k + 1))), (D, listOf z.1.toArray 0), (R₁, rng 0 11 ta ua va), (L + 1, oc)]) (fun q z => IntsAre z.1 z.2.1 ∧ z.2.1.length = 12 ∧ (∀ x ∈ z.2.1, 0 ≤ x) ∧ 0 ≤ z.2.2.2.1 ∧ z.2.2.2.1 ≤ q ∧ Wt z.2.1 + f1 (c k.toNat) (11 - q).toNat z.2.2.1 z.2.2.2.1 = Wt cont + line1 (c k.toNat)) (vs, cont, c k.toNat 0, 0, ?tk2) hh rfl rfl F N (by decide) (by decide) ?off2 ?ps2 ?p02 ?turn2 ?done2
    case off2 =>
      have l4 : @LT.lt Nat _ I₁ I₂ := lI2 _ (.head _)
      intro _ _ p hp
      simp only [List.mem_cons, List.not_mem_nil, or_false] at hp
      rcases hp with h | h | h | h <;> subst h <;> (refine neN ?_; dsimp only; omega)
    case ps2 => (repeat' (first | exact List.forall_mem_nil _ | refine' List.forall_mem_cons.mpr ⟨rfl, ?_⟩))
    case p02 => exact ⟨hi, hl, hg, Int.le_refl _, Int.le_refl _, rfl⟩
    case turn2 =>
      rintro q ⟨vs2, cont2, pv, len, tl⟩ u h₄ tk₄ tt2 hq0 hq1 ⟨hi2, hl2, hg2, hn0, hn1, hW2⟩ F N
      dsimp only at hi2 hl2 hg2 hn0 hn1 hW2 N F
      have l4 : @LT.lt Nat _ I₁ I₂ := lI2 _ (.head _)
      k_steps
      all_goals (try dsimp only)
      · exact gdTurn (c' := (_, _, _, _, _)) (by assumption) (by assumption) (.inl rfl) (by omega) (by omega) (by (repeat' (first | exact List.forall_mem_nil _ | refine' List.forall_mem_cons.mpr ⟨rfl, ?_⟩))) ⟨hi2, hl2, hg2, by dsimp only; omega, by dsimp only; omega, st1a hW2 hq0 hq1 (by assumption)⟩
      · exact gdTurn (c' := (_, _, _, _, _)) (by assumption) (by assumption) (.inl rfl) (by omega) (by omega) (by (repeat' (first | exact List.forall_mem_nil _ | refine' List.forall_mem_cons.mpr ⟨rfl, ?_⟩))) ⟨by assumption, by rw [List.length_set]; exact hl2, nn_set hg2 _, by dsimp only; omega, by dsimp only; omega, st1b hW2 hq0 hq1 (by assumption) hl2 (by assumption) hn1⟩
      · exact gdTurn (c' := (_, _, _, _, _)) (by assumption) (by assumption) (.inl rfl) (by omega) (by omega) (by (repeat' (first | exact List.forall_mem_nil _ | refine' List.forall_mem_cons.mpr ⟨rfl, ?_⟩))) ⟨hi2, hl2, hg2, by dsimp only; omega, by dsimp only; omega, st1c hW2 hq0 hq1 (by assumption) (by assumption)⟩
    case done2 =>
      rintro ⟨vs2, cont2, pv, len, tl⟩ u h₄ tk₄ ⟨hi2, hl2, hg2, hn0, hn1, hW2⟩ F N
      dsimp only at hi2 hl2 hg2 hn0 hn1 hW2 N F
      have l4 : @LT.lt Nat _ I₁ I₂ := lI2 _ (.head _)
      k_steps
      all_goals (try dsimp only)
      · rename Fr _ _ _ _ => F
        rename News _ _ _ _ => N
        exact gdTurn (c' := (_, _)) F (fun p hp => N p (.tail _ hp)) (.inl rfl) (by omega) (by omega) (by (repeat' (first | exact List.forall_mem_nil _ | refine' List.forall_mem_cons.mpr ⟨rfl, ?_⟩))) ⟨by assumption, by rw [List.length_set]; exact hl2, nn_set hg2 _, fin1a (c := c) hW2 hW hk0 hk1 hl2 (by assumption) hn1⟩
      · rename Fr _ _ _ _ => F
        rename News _ _ _ _ => N
        exact gdTurn (c' := (_, _)) F (fun p hp => N p (.tail _ hp)) (.inl rfl) (by omega) (by omega) (by (repeat' (first | exact List.forall_mem_nil _ | refine' List.forall_mem_cons.mpr ⟨rfl, ?_⟩))) ⟨hi2, hl2, hg2, fin1b (c := c) hW2 hW hk0 hk1 (by assumption)⟩
  case done =>
    rintro ⟨vs, cont⟩ u h₃ tk₃ ⟨hi, hl, hg, hW⟩ F N
    dsimp only at hi hl hg hW N
    k_steps
    rename Fr _ _ _ _ => F
    rename News _ _ _ _ => N
    rename_i I₃ _ lI3
    have l5 : @LT.lt Nat _ I₁ I₃ := lI3 _ (.head _)
    refine' loop_rit (n := 11) (fun k (z : List Value × List Int) => [(Str.ofString "modules", .ref a), (Str.ofString "modules_count", .int 11 t), (Str.ofString "modules_range", .ref R₁), (Str.ofString "lost_point", .int 0 ?t3)]) (fun _ z => [(D, listOf z.1.toArray 0), (R₁, rng 0 11 ta ua va), (L + 1, oc)]) (fun k z => IntsAre z.1 z.2 ∧ z.2.length = 12 ∧ (∀ x ∈ z.2, 0 ≤ x) ∧ Wt z.2 + rows1 (fun i j => c j i) (11 - k).toNat = L1 c) (vs, cont) hh rfl rfl F (kst_newsOf N (by with_unfolding_all exact (List.forall_mem_cons.mpr ⟨.head _, List.forall_mem_cons.mpr ⟨.tail _ (.tail _ (.head _)), List.forall_mem_cons.mpr ⟨.tail _ (.tail _ (.tail _ (.head _))), List.forall_mem_cons.mpr ⟨.tail _ (.tail _ (.tail _ (.tail _ (.head _)))), List.forall_mem_nil _⟩⟩⟩⟩))) (by decide) (by decide) ?off3 ?ps3 ?p03 ?turn3 ?done3
    case off3 =>
      intro _ _ p hp
      simp only [List.mem_cons, List.not_mem_nil, or_false] at hp
      rcases hp with h | h | h <;> subst h <;> (refine neN ?_; dsimp only; omega)
    case ps3 => (repeat' (first | exact List.forall_mem_nil _ | refine' List.forall_mem_cons.mpr ⟨rfl, ?_⟩))
    case p03 =>
      have hW' : Wt cont + 0 = rows1 c 11 := hW
      refine ⟨hi, hl, hg, ?_⟩
      show Wt cont + rows1 (fun i j => c j i) 11 = rows1 c 11 + rows1 (fun i j => c j i) 11
      omega
    case turn3 =>
      rintro k ⟨vs, cont⟩ u h₃ tk₃ tt hk0 hk1 ⟨hi, hl, hg, hW⟩ F N
      dsimp only at hi hl hg hW N
      k_steps
      rename Fr _ _ _ _ => F
      rename News _ _ _ _ => N
      rename_i I₄ _ lI4
      refine' loop_rit (n := 11) (fun q (z : List Value × List Int × Bool × Int × Tok) => [(Str.ofString "modules", .ref a), (Str.ofString "modules_count", .int 11 t), (Str.ofString "modules_range", .ref R₁), (Str.ofString "lost_point", .int 0 ?t4), (Str.ofString "col", .int k tt), (Str.ofString "previous_color", .bool z.2.2.1), (Str.ofString "length", .int z.2.2.2.1 z.2.2.2.2)]) (fun _ z => [(I₃, rit (k + 1) (11 - (k + 1))), (D, listOf z.1.toArray 0), (R₁, rng 0 11 ta ua va), (L + 1, oc)]) (fun q z => IntsAre z.1 z.2.1 ∧ z.2.1.length = 12 ∧ (∀ x ∈ z.2.1, 0 ≤ x) ∧ 0 ≤ z.2.2.2.1 ∧ z.2.2.2.1 ≤ q ∧ Wt z.2.1 + f1 (fun i => c i k.toNat) (11 - q).toNat z.2.2.1 z.2.2.2.1 = Wt cont + line1 (fun i => c i k.toNat)) (vs, cont, c 0 k.toNat, 0, ?tk4) hh rfl rfl F N (by decide) (by decide) ?off4 ?ps4 ?p04 ?turn4 ?done4
      case off4 =>
        have l4 : @LT.lt Nat _ I₃ I₄ := lI4 _ (.head _)
        intro _ _ p hp
        simp only [List.mem_cons, List.not_mem_nil, or_false] at hp
        rcases hp with h | h | h | h <;> subst h <;> (refine neN ?_; dsimp only; omega)
      case ps4 => (repeat' (first | exact List.forall_mem_nil _ | refine' List.forall_mem_cons.mpr ⟨rfl, ?_⟩))
      case p04 => exact ⟨hi, hl, hg, Int.le_refl _, Int.le_refl _, rfl⟩
      case turn4 =>
        rintro q ⟨vs2, cont2, pv, len, tl⟩ u h₄ tk₄ tt2 hq0 hq1 ⟨hi2, hl2, hg2, hn0, hn1, hW2⟩ F N
        dsimp only at hi2 hl2 hg2 hn0 hn1 hW2 N F
        have l4 : @LT.lt Nat _ I₃ I₄ := lI4 _ (.head _)
        k_steps
        all_goals (try dsimp only)
        · exact gdTurn (c' := (_, _, _, _, _)) (by assumption) (by assumption) (.inl rfl) (by omega) (by omega) (by (repeat' (first | exact List.forall_mem_nil _ | refine' List.forall_mem_cons.mpr ⟨rfl, ?_⟩))) ⟨hi2, hl2, hg2, by dsimp only; omega, by dsimp only; omega, st1a (l := fun i => c i k.toNat) hW2 hq0 hq1 (by assumption)⟩
        · exact gdTurn (c' := (_, _, _, _, _)) (by assumption) (by assumption) (.inl rfl) (by omega) (by omega) (by (repeat' (first | exact List.forall_mem_nil _ | refine' List.forall_mem_cons.mpr ⟨rfl, ?_⟩))) ⟨by assumption, by rw [List.length_set]; exact hl2, nn_set hg2 _, by dsimp only; omega, by dsimp only; omega, st1b (l := fun i => c i k.toNat) hW2 hq0 hq1 (by assumption) hl2 (by assumption) hn1⟩
        · exact gdTurn (c' := (_, _, _, _, _)) (by assumption) (by assumption) (.inl rfl) (by omega) (by omega) (by (repeat' (first | exact List.forall_mem_nil _ | refine' List.forall_mem_cons.mpr ⟨rfl, ?_⟩))) ⟨hi2, hl2, hg2, by dsimp only; omega, by dsimp only; omega, st1c (l := fun i => c i k.toNat) hW2 hq0 hq1 (by assumption) (by assumption)⟩
      case done4 =>
        rintro ⟨vs2, cont2, pv, len, tl⟩ u h₄ tk₄ ⟨hi2, hl2, hg2, hn0, hn1, hW2⟩ F N
        dsimp only at hi2 hl2 hg2 hn0 hn1 hW2 N F
        have l4 : @LT.lt Nat _ I₃ I₄ := lI4 _ (.head _)
        k_steps
        all_goals (try dsimp only)
        · rename Fr _ _ _ _ => F
          rename News _ _ _ _ => N
          exact gdTurn (c' := (_, _)) F (fun p hp => N p (.tail _ hp)) (.inl rfl) (by omega) (by omega) (by (repeat' (first | exact List.forall_mem_nil _ | refine' List.forall_mem_cons.mpr ⟨rfl, ?_⟩))) ⟨by assumption, by rw [List.length_set]; exact hl2, nn_set hg2 _, fin1a (c := fun i j => c j i) hW2 hW hk0 hk1 hl2 (by assumption) hn1⟩
        · rename Fr _ _ _ _ => F
          rename News _ _ _ _ => N
          exact gdTurn (c' := (_, _)) F (fun p hp => N p (.tail _ hp)) (.inl rfl) (by omega) (by omega) (by (repeat' (first | exact List.forall_mem_nil _ | refine' List.forall_mem_cons.mpr ⟨rfl, ?_⟩))) ⟨hi2, hl2, hg2, fin1b (c := fun i j => c j i) hW2 hW hk0 hk1 (by assumption)⟩
    case done3 =>
      rintro ⟨vs, cont⟩ u h₃ tk₃ ⟨hi, hl, hg, hW⟩ F N
      dsimp only at hi hl hg hW N F
      k_steps
      refine' gen_start hh ?cl ?rm ?_ ?sg
      case cl => rfl
      case rm => show A.depth + 1 < _; omega
      case sg => intro _; rfl
      k_steps
      have hz : rows1 (fun i j => c j i) ((11 : Int) - 11).toNat = 0 := rfl
      have hWe : Wt cont = L1 c := by omega
      have hle : Wt cont ≤ 242 := by have := (L1_le c).2; omega
      have hfit : ∀ j, j < 7 → InLong (term cont j) ∧ InLong (preSum (term cont) (j + 1)) := fun j hj => term_fit hg hle j hj
      rename Fr _ _ _ _ => F
      rename News _ _ _ _ => N
      rename_i R₅ _ _ _ _ _ _ I₅ _ lI5
      have l6 : @LT.lt Nat _ (L + 1) I₅ := lI5 _ (.tail _ (.tail _ (.tail _ (.tail _ (.head _)))))
      have l7 : @LT.lt Nat _ D I₅ := lI5 _ (.tail _ (.tail _ (.head _)))
      refine' gen_post (vs := vs) (cont := cont) (I := I₅) rfl rfl T M TS B F N ?i1 ?i2 hoc ?i3 hi hl ?i4 ?i5 ?i6 ?_
      case i1 => exact .head _
      case i2 => exact .tail _ (.tail _ (.tail _ (.tail _ (.tail _ (.head _)))))
      case i3 => exact .tail _ (.tail _ (.tail _ (.head _)))
      case i4 => exact Nat.ne_of_lt l6
      case i5 => exact Nat.ne_of_lt l7
      case i6 => exact Nat.lt_trans (Nat.lt_succ_self _) l6
      clear N
      intro h₆ a₆ h₇ gs₇ tk₇ K₇ F₇ B₇ G₇
      k_steps
      rename Fr _ _ _ _ => F₈
      have e : (0 : Int) + preSum (term cont) 7 = L1 c := by rw [Int.zero_add]; exact hWe
      rw [← e] at ret
      exact ret _ _ _ _ (K₇.trans (Kp.of K₇.tab F₈.keep)) (by assumption)

end Mine
end

section
open PySem PySem.W PySem.Calls PySem.Spec PyProof.Rows
set_option maxRecDepth 100000
set_option maxHeartbeats 4000000
namespace Mine
/-- what the functions lean on -/
structure Bs (w : World) (mg mb : Str → Option Value) (h : Heap) : Prop where
  X : (hd.heap_39 w.params).In h
  T : TT mg mb h
  M : BM mg h
  S : TabSt h

theorem no23 (p : Params) : (hd.heap_39 p).lookup 23 = none := rfl

theorem Bs.keeps {w : World} {mg mb : Str → Option Value} {h h' : Heap} (B : Bs w mg mb h) (k : ∀ b o, h.get? b = some o → h'.get? b = some o) : Bs w mg mb h' :=
  ⟨fun a o e => k _ _ (B.X a o e), B.T.keeps k, B.M.keeps k, B.S.keeps k⟩
theorem Bs.step {w : World} {mg mb : Str → Option Value} {h h' : Heap} (B : Bs w mg mb h) (k : Kp h h') : Bs w mg mb h' := by
  have hb : ∀ (a : Addr) o, h.get? a = some o → o.cls ≠ .none → h'.get? a = some o := fun a o e hc => k.keep a o (fun q => by
    obtain ⟨ps, _, _, ht⟩ := B.S
    rw [q, ht.2] at e; cases e; exact hc rfl) e
  refine ⟨fun a o e => k.keep a o (fun q => by rw [q, no23] at e; cases e) (B.X a o e), ⟨?_, ?_, ?_, B.T.builtins, B.T.free⟩, ?_, k.tab⟩
  · exact B.T.g.at' fun o e => k.keep _ o (by decide) e
  · exact B.T.b.at' fun o e => k.keep _ o (by decide) e
  · exact B.T.nolimit.extBut (a := 23) (fun b o hb e => k.keep b o hb e) (by decide)
  · obtain ⟨bm, ob, e1, e2, e3, e4, r⟩ := B.M
    exact ⟨bm, ob, e1, e2, hb _ _ e3 (by rw [e4]; intro q; cases q), e4, r⟩
theorem Gd.step {h h' : Heap} {a : Addr} {r : Nat → Addr} {c : Nat → Nat → Bool} (G : Gd h a r c) (T : TabSt h) (k : Kp h h') : Gd h' a r c := by
  have key : ∀ {l : Addr} {its : Array Value}, h.IsList l its → h'.IsList l its := fun hl => by
    refine hl.at fun o e => k.keep _ o (fun q => ?_) e
    obtain ⟨ps, _, _, ht⟩ := T
    obtain ⟨o', e', hc, _⟩ := hl
    rw [q, ht.2] at e'; cases e'; cases hc
  exact ⟨key G.rows, fun i hi => key (G.cells i hi)⟩

/-- the base goes on over a call -/
theorem fr_kp {h₀ h h' : Heap} {L : Addr} {m : Str → Option Value} (F : Fr h₀ L h m) (T : TabSt h₀) (k : Kp h h') : ∃ h₁, Kp h₀ h₁ ∧ Fr h₁ L h' m := by
  obtain ⟨ps, hps, hc, ht⟩ := T
  obtain ⟨ps', hps', hc', ht'⟩ := k.tab
  have hlt : 23 < h₀.objs.size := Heap.lt_size ht.2
  have hL : L ≠ 23 := Nat.ne_of_gt (Nat.lt_of_lt_of_le hlt F.above)
  have hself : (regrown h₀ 23 ps').get? 23 = some { cls := .none, data := .fields ps' } := Heap.get?_update_self _ ht.2 rfl
  have hoth : ∀ b, b ≠ 23 → (regrown h₀ 23 ps').get? b = h₀.get? b := fun b hb => Heap.get?_update_other _ _ (Ne.symm hb)
  have hcP : (27 : Addr) ≠ 23 := by decide
  refine ⟨regrown h₀ 23 ps', ⟨fun b o hb e => (hoth b hb).trans e, ps', hps', ?_, ?_⟩, ?_⟩
  · obtain ⟨o, vs, file, tf, flags, tg, inF, text, tt, op, ho, r1, r2, r3, r4, r5, r6, _, _, _, r9⟩ := hc
    obtain ⟨o', vs', file', tf', flags', tg', inF', text', tt', op', ho', _, _, _, _, _, _, hop', hpd', htr', _⟩ := hc'
    have : op' = { cls := .none, data := .fields ps' } := Option.some.inj (hop'.symm.trans ht'.2)
    exact ⟨o, vs, file, tf, flags, tg, inF, text, tt, _, (hoth _ hcP).trans ho, r1, r2, r3, r4, r5, r6, hself, rfl, htr', r9⟩
  · let ⟨⟨o, vs, e, r⟩, _⟩ := ht
    exact ⟨⟨o, vs, (hoth _ hcP).trans e, r⟩, hself⟩
  · refine ⟨F.ns.at' fun o e => k.keep _ o hL e, fun b o e => ?_, Nat.le_trans (Nat.le_of_eq (Heap.SameBut.update h₀ 23 _).1) F.above⟩
    by_cases hb : b = 23
    · subst hb; rw [hself] at e; cases e; exact ht'.2
    · rw [hoth b hb] at e; exact k.keep b o hb (F.keep b o e)

section
variable {w : World} {A : Around} {E : Value → Shared → Prop} {s : Shared} {h₀ : Heap} {L : Addr} {m mg mb : Str → Option Value} {news : List (Addr × Obj)} {a : Addr} {r : Nat → Addr} {c : Nat → Nat → Bool} {t : Tok} {Q : Value → Shared → Prop}
theorem call_lvl1 (F : Fr h₀ L s.heap m) (B : Bs w mg mb h₀) (G : Gd h₀ a r c) (AB : AllBare s.gens) (hh : A.handled = none) (hd : A.depth + 3 < recursionLimit) (hu : A.units + 60 < cLine)
    (h : ∀ h₁ t h' gs tk, Kp h₀ h₁ → Bs w mg mb h₁ → Gd h₁ a r c → AllBare gs → Fr h₁ L h' m → News h₁ L h' [] → Q (.int (L1 c) t) { s with heap := h', gens := gs, toks := tk }) : wpAny (model pr w) A (call (.ref 28) [.ref a, .int 11 t]) Q E s := by
  have B' := B.keeps F.keep
  refine wpAny_call (lvl1 B'.X B'.T (G.keeps F.keep) B'.M B'.S AB hh hd hu fun t' h' gs tk K hg => ?_)
  obtain ⟨h₁, K₁, F₁⟩ := fr_kp F B.S K
  exact h h₁ t' h' gs tk K₁ (B.step K₁) (G.step B.S K₁) hg F₁ News.nil
theorem call_lvl2 (F : Fr h₀ L s.heap m) (B : Bs w mg mb h₀) (G : Gd h₀ a r c) (hh : A.handled = none) (hd : A.depth + 3 < recursionLimit) (hu : A.units + 60 < cLine)
    (h : ∀ t h' tk, Fr h₀ L h' m → News h₀ L h' [] → Q (.int (L2 c) t) { s with heap := h', toks := tk }) : wpAny (model pr w) A (call (.ref 35) [.ref a, .int 11 t]) Q E s := by
  have B' := B.keeps F.keep
  exact wpAny_call (lvl2 B'.X B'.T (G.keeps F.keep) hh hd hu fun t' h' tk K => h t' h' tk (F.keeps K) News.nil)
theorem call_lvl3 (F : Fr h₀ L s.heap m) (B : Bs w mg mb h₀) (G : Gd h₀ a r c) (hh : A.handled = none) (hd : A.depth + 3 < recursionLimit) (hu : A.units + 60 < cLine)
    (h : ∀ t h' tk, Fr h₀ L h' m → News h₀ L h' [] → Q (.int (L3 c) t) { s with heap := h', toks := tk }) : wpAny (model pr w) A (call (.ref 42) [.ref a, .int 11 t]) Q E s := by
  have B' := B.keeps F.keep
  exact wpAny_call (lvl3 B'.X B'.T (G.keeps F.keep) hh hd hu fun t' h' tk K => h t' h' tk (F.keeps K) News.nil)
theorem call_lvl4 (F : Fr h₀ L s.heap m) (B : Bs w mg mb h₀) (G : Gd h₀ a r c) (hh : A.handled = none) (hd : A.depth + 3 < recursionLimit) (hu : A.units + 60 < cLine)
    (h : ∀ t h' tk, Fr h₀ L h' m → News h₀ L h' [] → Q (.int (L4 c) t) { s with heap := h', toks := tk }) : wpAny (model pr w) A (call (.ref 49) [.ref a, .int 11 t]) Q E s := by
  have B' := B.keeps F.keep
  exact wpAny_call (lvl4 B'.X B'.T (G.keeps F.keep) hh hd hu fun t' h' tk K => h t' h' tk (F.keeps K) News.nil)
theorem len_gd (F : Fr h₀ L s.heap m) (G : Gd h₀ a r c) (h : ∀ t tk, Q (.int 11 t) { s with toks := tk }) : wpAny (model pr w) A (call (.builtin "len") [.ref a]) Q E s := by
  refine call_len_list (G.keeps F.keep).rows ?_ ?_
  · simp
  · simpa using h _ _
end
end Mine
end

section
open PySem PySem.W PySem.Calls PySem.Spec PyProof.Rows
set_option maxRecDepth 100000
set_option maxHeartbeats 4000000
namespace Mine
theorem fill_LP : (PySem.Challenge.rw_ww0034_01 = PySem.Challenge.rw_ww0034_01) ∧ (hd.heap_39 = hd.heap_39) := by
  k_fill
  exact ⟨rfl, rfl⟩


theorem dep_deeper (A : Around) (env : Env) : (A.deeper env).depth = A.depth + 1 := rfl
theorem un_deeper (A : Around) (env : Env) : (A.deeper env).units = A.units + 3 := rfl
local macro_rules | `(tactic| walk_at "call builtin:len") => `(tactic| (k_here; (rename Fr _ _ _ _ => F'); (rename Gd _ _ _ _ => G'); (with_reducible refine len_gd F' G' ?_); intro t' tk'))
local macro_rules | `(tactic| walk_at "call ref") => `(tactic| (k_here; (rename Bs _ _ _ _ => B'); (rename Gd _ _ _ _ => G'); (rename Fr _ _ _ _ => F'); k_dflt (first
  | (refine' call_lvl2 F' B' G' ?k1 ?k2 ?k3 ?_; (case k1 => assumption); (case k2 => ((first | rw [dep_deeper] | rw [un_deeper]); omega)); (case k3 => ((first | rw [dep_deeper] | rw [un_deeper]); omega)); intro t' h' tk' F' N')
  | (refine' call_lvl3 F' B' G' ?k1 ?k2 ?k3 ?_; (case k1 => assumption); (case k2 => ((first | rw [dep_deeper] | rw [un_deeper]); omega)); (case k3 => ((first | rw [dep_deeper] | rw [un_deeper]); omega)); intro t' h' tk' F' N')
  | (refine' call_lvl4 F' B' G' ?k1 ?k2 ?k3 ?_; (case k1 => assumption); (case k2 => ((first | rw [dep_deeper] | rw [un_deeper]); omega)); (case k3 => ((first | rw [dep_deeper] | rw [un_deeper]); omega)); intro t' h' tk' F' N')
  | (refine' call_lvl1 F' B' G' ?k0 ?k1 ?k2 ?k3 ?_; (case k0 => assumption); (case k1 => assumption); (case k2 => ((first | rw [dep_deeper] | rw [un_deeper]); omega)); (case k3 => ((first | rw [dep_deeper] | rw [un_deeper]); omega)); intro h₁' t' h' gs' tk' K' B' G' AB' F' N'; have X' := B'.X; have T' := B'.T))))

def LP (c : Nat → Nat → Bool) : Int := L1 c + L2 c + L3 c + L4 c
theorem lost {w : World} {A : Around} {s : Shared} {mg mb : Str → Option Value} {R : Result → Shared → Prop} {a : Addr} {r : Nat → Addr} {c : Nat → Nat → Bool}
    (B : Bs w mg mb s.heap) (G : Gd s.heap a r c) (AB : AllBare s.gens) (hh : A.handled = none) (hd : A.depth + 6 < recursionLimit) (hu : A.units + 100 < cLine)
    (ret : ∀ t h' gs tk, Kp s.heap h' → AllBare gs → R (.ok (.ret (.int (LP c) t))) { s with heap := h', gens := gs, toks := tk }) :
    codeAny (model pr w) A (.call (.ref 21) ⟨[.ref a], []⟩) R s := by
  have X := B.X
  have T := B.T
  k_dflt (refine' code_base [(Str.ofString "modules", .ref a)] ?k1 ?k2 ?k3 ?k4 ?k5 ?k6 ?k7 ?_ ?kh ?c2 ?c3 ?c4 ?c5; (case k1 => k_asm); (case k2 => k_asm); (case k3 => k_is); (case k4 => k_is); (case k5 => omega); (case k6 => exact BindsTo.of_eq rfl); (case k7 => exact locs rfl); (case kh => exact lookup_one); (case c2 => exact rfl); (case c3 => exact rfl); (case c4 => exact rfl); (case c5 => decide))
  intro L h₁ tk F N
  try dsimp only
  try k_fold
  k_steps
  rename Kp _ _ => K
  rename Fr _ _ _ _ => F
  exact ret _ _ _ _ (K.trans (Kp.of K.tab F.keep)) (by assumption)

section
variable {w : World} {A : Around} {E : Value → Shared → Prop} {s : Shared} {h₀ : Heap} {L : Addr} {m mg mb : Str → Option Value} {news : List (Addr × Obj)} {a : Addr} {r : Nat → Addr} {c : Nat → Nat → Bool} {t : Tok} {Q : Value → Shared → Prop}
theorem call_lost (B : Bs w mg mb s.heap) (G : Gd s.heap a r c) (AB : AllBare s.gens) (hh : A.handled = none) (hd : A.depth + 6 < recursionLimit) (hu : A.units + 100 < cLine)
    (h : ∀ t h' gs tk, Kp s.heap h' → AllBare gs → Q (.int (LP c) t) { s with heap := h', gens := gs, toks := tk }) : wpAny (model pr w) A (call (.ref 21) [.ref a]) Q E s :=
  wpAny_call (lost B G AB hh hd hu h)
end

end Mine
end

section
open PySem PySem.W PySem.Calls PySem.Spec PyProof.Rows
set_option maxRecDepth 100000
set_option maxHeartbeats 4000000
namespace Mine
theorem fill_LN : (PySem.Challenge.rw_ww0034_01 = PySem.Challenge.rw_ww0034_01) ∧ (hd.heap_39 = hd.heap_39) := by
  k_fill
  exact ⟨rfl, rfl⟩


theorem fdb {k : Int} {n : Nat} (h0 : 0 ≤ k) (h1 : k < 11) : 0 ≤ k.fdiv n ∧ k.fdiv n ≤ 10 := by
  rw [Int.fdiv_eq_ediv_of_nonneg _ (Int.natCast_nonneg _)]
  exact ⟨Int.ediv_nonneg h0 (Int.natCast_nonneg _), Int.le_trans (Int.ediv_le_self _ h0) (by omega)⟩
theorem pow3 : ∀ e : Fin 11, (3 : Int) ^ e.val ≠ 0 ∧ ((3 : Int) ^ e.val).natAbs < 1073741824 := by decide
theorem pow3' {k : Int} {n : Nat} (h0 : 0 ≤ k) (h1 : k < 11) : (3 : Int) ^ (k.fdiv n).toNat ≠ 0 ∧ ((3 : Int) ^ (k.fdiv n).toNat).natAbs < 1073741824 := by
  have := fdb (n := n) h0 h1
  exact pow3 ⟨(k.fdiv n).toNat, by omega⟩
local macro_rules | `(tactic| walk_at "binaryOp Pow int int") => `(tactic| (k_here; (with_reducible refine' pow_int_small ?k1 ?k2 ?k3 ?_); (case k1 => exact (fdb (by assumption) (by assumption)).1); (case k2 => exact Int.le_trans (fdb (by assumption) (by assumption)).2 (by decide)); (case k3 => decide)))
local macro_rules | `(tactic| walk_at "binaryOp FloorDiv int int") => `(tactic| (k_here; (with_reducible refine' floordiv_int ?k1 ?_ (Or.inl (PyProof.noPylong_small ?k2))); (case k1 => exact (pow3' (by assumption) (by assumption)).1); (case k2 => exact (pow3' (by assumption) (by assumption)).2)))
theorem lawnum {w : World} {A : Around} {s : Shared} {mg mb : Str → Option Value} {R : Result → Shared → Prop} {sc : Addr} {vs : List Value} {ns : List Int} {k : Int} {t : Tok}
    (X : (hd.heap_39 w.params).In s.heap) (T : TT mg mb s.heap) (hL : s.heap.IsList sc vs.toArray) (hi : IntsAre vs ns) (hlen : ns.length ≤ 63) (h0 : 0 ≤ k) (h1 : k < 11) (hh : A.handled = none) (hd : A.depth + 6 < recursionLimit) (hu : A.units + 100 < cLine)
    (ret : ∀ n t h' tk, (∀ b o, s.heap.get? b = some o → h'.get? b = some o) → R (.ok (.ret (.int n t))) { s with heap := h', toks := tk }) :
    codeAny (model pr w) A (.call (.ref 56) ⟨[.ref sc, .int k t], []⟩) R s := by
  k_dflt (refine' code_base [(Str.ofString "script", .ref sc), (Str.ofString "place", .int k t)] ?k1 ?k2 ?k3 ?k4 ?k5 ?k6 ?k7 ?_ ?kh ?c2 ?c3 ?c4 ?c5; (case k1 => k_asm); (case k2 => k_asm); (case k3 => k_is); (case k4 => k_is); (case k5 => omega); (case k6 => exact BindsTo.of_eq rfl); (case k7 => exact locs rfl); (case kh => exact lookup_two (by decide)); (case c2 => exact rfl); (case c3 => exact rfl); (case c4 => exact rfl); (case c5 => decide))
  intro L h₁ tk F N
  try dsimp only
  try k_fold
  k_steps
  · rename Fr _ _ _ _ => F
    exact ret _ _ _ _ F.keep
  · rename Fr _ _ _ _ => F
    exact ret _ _ _ _ F.keep

end Mine
end

section
open PySem PySem.W PySem.Calls PySem.Spec PyProof.Rows
set_option maxRecDepth 100000
set_option maxHeartbeats 4000000
namespace Mine
/-- an item: a value that fits, or a list whose items fit -/
abbrev Sp := (Value → Prop) ⊕ (Array Value → Prop)
def ItAt (X : List Addr) (h : Heap) (sp : Sp) (y : Value) : Prop :=
  match sp with
  | .inl p => p y
  | .inr p => ∃ T its, y = .ref T ∧ T ∉ X ∧ h.IsList T its ∧ p its
def ItNew (h h' : Heap) (sp : Sp) (y : Value) : Prop :=
  match sp with
  | .inl p => p y
  | .inr p => ∃ T its, y = .ref T ∧ h.get? T = none ∧ h'.IsList T its ∧ p its
theorem ItAt.keep {X : List Addr} {h h' : Heap} {sp : Sp} {y : Value} (x : ItAt X h sp y) (k : ∀ b o, b ∉ X → h.get? b = some o → h'.get? b = some o) : ItAt X h' sp y := by
  cases sp with
  | inl p => exact x
  | inr p =>
    obtain ⟨T, its, e, hT, hl, hp⟩ := x
    exact ⟨T, its, e, hT, hl.at fun o e => k _ o hT e, hp⟩
theorem ItNew.at {X : List Addr} {h h₁ h' : Heap} {sp : Sp} {y : Value} (x : ItNew h h₁ sp y) (live : ∀ b ∈ X, ∃ o, h.get? b = some o) (k : ∀ b o, b ∉ X → h₁.get? b = some o → h'.get? b = some o) : ItAt X h' sp y := by
  cases sp with
  | inl p => exact x
  | inr p =>
    obtain ⟨T, its, e, hT, hl, hp⟩ := x
    have hX : T ∉ X := fun hm => by obtain ⟨o, ho⟩ := live T hm; rw [hT] at ho; cases ho
    exact ⟨T, its, e, hX, hl.at fun o e => k _ o hX e, hp⟩

section
variable {w : World} {A : Around} {R : Result → Shared → Prop} {s : Shared}

theorem comp_loop {elt iter : Expr} {x : Str} {px : Pos} {scope : Scope} {pos : Pos} {I D : Addr} {fp wr : List Addr} {n : Nat} {P : Nat → Value → Prop} {St : Nat → Heap → Prop} {cenv : Env} {cs : List Addr} {V : Heap → Prop} {Has : Value → Heap → Prop}
    (W : Walks pr w A I fp wr n P St) (hwl : ∀ i h, St i h → ∀ b ∈ wr, ∃ o, h.get? b = some o) (hvl : ∀ h, V h → ∀ b ∈ cs, ∃ o, h.get? b = some o)
    (store : ∀ (s : Shared) v (Q : Unit → Shared → Prop) E, V s.heap → (∀ h' tk, V h' → Has v h' → (∀ b o, b ∉ cs → s.heap.get? b = some o → h'.get? b = some o) → Q () { s with heap := h', toks := tk }) → wpAny (model pr w) A (assign (.Name x px) cenv v) Q E s)
    (hV : ∀ h h', V h → (∀ b ∈ cs, ∀ o, h.get? b = some o → h'.get? b = some o) → V h')
    (hDc : D ∉ cs) (hDf : D ∉ fp) (hcf : ∀ b ∈ cs, b ∉ fp) (hsz : n ≤ sizeLine) (sp : Nat → Sp)
    (hst : St 0 s.heap) (hacc : s.heap.PlainList D #[]) (hv0 : V s.heap)
    (helt : ∀ i v (t : Shared) E, i < n → P i v → V t.heap → Has v t.heap → (∀ b o, b ∉ D :: (cs ++ wr) → s.heap.get? b = some o → t.heap.get? b = some o) →
      wpAny (model pr w) A (eval elt cenv) (fun y t' => ItNew t.heap t'.heap (sp i) y ∧ Keeps t t') E t)
    (hR : ∀ h' tk ys, V h' → h'.PlainList D ys → ys.size = n → (∀ j, j < n → ∃ y, ys[j]? = some y ∧ ItAt (D :: (cs ++ wr)) h' (sp j) y) →
      (∀ b o, b ∉ D :: (cs ++ wr) → s.heap.get? b = some o → h'.get? b = some o) → R (.ok .next) { s with heap := h', toks := tk }) :
    codeAny (model pr w) A (.compLoop (.ListComp elt [⟨.Name x px, iter, [], 0⟩] scope pos) 0 (.ref I) (.ref D) cenv) R s := by
  have hDw : D ∉ wr := fun h => hDf (W.sub _ h)
  have notX : ∀ b, b ∉ D :: (cs ++ wr) → b ≠ D ∧ b ∉ cs ∧ b ∉ wr := fun b hb =>
    ⟨fun e => hb (e ▸ List.mem_cons_self ..), fun h => hb (List.mem_cons_of_mem _ (List.mem_append_left _ h)), fun h => hb (List.mem_cons_of_mem _ (List.mem_append_right _ h))⟩
  refine codeAny_compLoop_tests
    (fun k s' => ∃ h' tk i ys, s' = { s with heap := h', toks := tk } ∧ i ≤ n ∧ k = n + 1 - i ∧ ys.size = i ∧ St i h' ∧ h'.PlainList D ys ∧ V h' ∧ (∀ j, j < i → ∃ y, ys[j]? = some y ∧ ItAt (D :: (cs ++ wr)) h' (sp j) y) ∧
      (∀ b o, b ∉ D :: (cs ++ wr) → s.heap.get? b = some o → h'.get? b = some o)) ?_ (n + 1)
    ⟨s.heap, s.toks, 0, #[], rfl, Nat.zero_le _, rfl, rfl, hst, hacc, hv0, fun j hj => absurd hj (Nat.not_lt_zero _), fun _ _ _ e => e⟩
  rintro k s' ⟨H, tk, i, ys, rfl, hi, rfl, hys, hst', hacc', hv', hit, hk⟩
  by_cases hlt : i < n
  · refine W.item i _ _ _ hlt hst' fun v h₁ tk₁ hPv hst₁ hk₁ => ?_
    have hv₁ : V h₁ := hV _ _ hv' fun b hb o e => hk₁ b o (fun hw => hcf b hb (W.sub _ hw)) e
    refine store _ v _ _ hv₁ fun h₂ tk₂ hv₂ hhas hk₂ => ?_
    refine wpAny_tests_nil ?_
    simp only [if_true]
    have hst₂ : St (i + 1) h₂ := W.frame _ _ _ hst₁ fun b hb o e => hk₂ b o (fun h => hcf b h hb) e
    have hacc₂ : h₂.PlainList D ys := hacc'.at fun o e => hk₂ D o hDc (hk₁ D o hDw e)
    have keep₂ : ∀ b o, b ∉ D :: (cs ++ wr) → H.get? b = some o → h₂.get? b = some o := fun b o hb e => hk₂ b o (notX b hb).2.1 (hk₁ b o (notX b hb).2.2 e)
    have live₂ : ∀ b ∈ D :: (cs ++ wr), ∃ o, h₂.get? b = some o := fun b hb => by
      rcases List.mem_cons.mp hb with rfl | hb
      · obtain ⟨c, hc⟩ := hacc₂; exact ⟨_, hc⟩
      · rcases List.mem_append.mp hb with hb | hb
        · exact hvl _ hv₂ b hb
        · exact hwl _ _ hst₂ b hb
    refine wpAny_mono (helt i v _ _ hlt hPv hv₂ hhas fun b o hb e => keep₂ b o hb (hk b o hb e)) (fun y s₄ h₄ => ?_) fun _ _ e => e
    obtain ⟨hnew, h₄, tk₄, rfl, hk₄⟩ := h₄
    refine wpAny_list_append_plain (hsz := by omega) (hacc₂.at fun o e => hk₄ _ o e) fun h₅ hl₅ hs₅ => ?_
    have up₅ : ∀ b o, b ≠ D → h₄.get? b = some o → h₅.get? b = some o := fun b o hb e => hs₅.extBut b o hb e
    refine ⟨n + 1 - (i + 1), by omega, h₅, tk₄, i + 1, ys.push y, rfl, hlt, rfl, by simp [hys], ?_, hl₅, ?_, ?_, ?_⟩
    · exact W.frame _ _ _ hst₂ fun b hb o e => up₅ b o (fun h => hDf (h ▸ hb)) (hk₄ b o e)
    · exact hV _ _ hv₂ fun b hb o e => up₅ b o (fun h => hDc (h ▸ hb)) (hk₄ b o e)
    · intro j hj
      by_cases hji : j < i
      · obtain ⟨y', hy', hI⟩ := hit j hji
        refine ⟨y', ?_, hI.keep fun b o hb e => up₅ b o (notX b hb).1 (hk₄ b o (keep₂ b o hb e))⟩
        rw [Array.getElem?_push, if_neg (by omega)]; exact hy'
      · have hj' : j = i := by omega
        subst hj'
        refine ⟨y, by rw [Array.getElem?_push, if_pos hys.symm], hnew.at live₂ fun b o hb e => up₅ b o (notX b hb).1 e⟩
    · exact fun b o hb e => up₅ b o (notX b hb).1 (hk₄ b o (keep₂ b o hb (hk b o hb e)))
  · have hin : i = n := by omega
    subst hin
    refine W.done _ _ _ hst' fun h₁ tk₁ hk₁ => ?_
    exact hR h₁ tk₁ ys (hV _ _ hv' fun b hb o e => hk₁ b o (fun hw => hcf b hb (W.sub _ hw)) e) (hacc'.at fun o e => hk₁ _ o hDw e) hys
      (fun j hj => let ⟨y, hy, hI⟩ := hit j hj; ⟨y, hy, hI.keep fun b o hb e => hk₁ b o (notX b hb).2.2 e⟩) fun b o hb e => hk₁ b o (notX b hb).2.2 (hk b o hb e)
end
end Mine
end

section
open PySem PySem.W PySem.Calls PySem.Spec PyProof.Rows
set_option maxRecDepth 100000
set_option maxHeartbeats 4000000
namespace Mine
theorem ItAt.off {X : List Addr} {h : Heap} {sp : Sp} {y : Value} (x : ItAt X h sp y) : ItAt [] h sp y := by
  cases sp with
  | inl p => exact x
  | inr p =>
    obtain ⟨T, its, e, hT, hl, hp⟩ := x
    exact ⟨T, its, e, by simp, hl, hp⟩

section
variable {w : World} {A : Around} {E : Value → Shared → Prop} {env : Env}

theorem block_loc {elt iter : Expr} {x : Str} {px : Pos} {scope : Scope} {cl : List (Str × Addr)} {pos : Pos} {s₂ : Shared} {I : Addr} {fp wr : List Addr} {n : Nat} {P : Nat → Value → Prop} {St : Nat → Heap → Prop} {RR : Value → Addr → Result → Shared → Prop}
    (W : Walks pr w A I fp wr n P St) (hwl : ∀ i h, St i h → ∀ b ∈ wr, ∃ o, h.get? b = some o) (hsz : n ≤ sizeLine) (sp : Nat → Sp)
    (hcell : ∀ y ∈ scope.names, y.2 ≠ .cell) (hkind : scope.kind = .function) (hx : scope.names.lookup x = some .local) (hst : St 0 s₂.heap) (hfp : ∀ b ∈ fp, b < s₂.heap.objs.size)
    (helt : ∀ C i v (t : Shared) m₃ E', s₂.heap.objs.size ≤ C → i < n → P i v → t.heap.Ns C m₃ → m₃ x = some v → (∀ b o, b ∉ wr → s₂.heap.get? b = some o → t.heap.get? b = some o) →
      wpAny (model pr w) A (eval elt (compEnvC scope cl C env)) (fun y t' => ItNew t.heap t'.heap (sp i) y ∧ Keeps t t') E' t)
    (hRR : ∀ D C h' tk m' ys, s₂.heap.get? D = none → s₂.heap.get? C = none → D ≠ C → h'.Ns C m' → h'.IsList D ys → ys.size = n → (∀ j, j < n → ∃ y, ys[j]? = some y ∧ ItAt (D :: ([C] ++ wr)) h' (sp j) y) →
      (∀ b o, b ∉ wr → s₂.heap.get? b = some o → h'.get? b = some o) → RR (.ref D) C (.ok .next) { s₂ with heap := h', toks := tk }) :
    wpAny (model pr w) A (newList []) (fun acc s₃ => wpAny (model pr w) A (newFunctionEnv scope env.globals cl [] env.qual none .none (some env)) (fun cenv s₄ =>
      codeAny (model pr w) A (.compStart (.ListComp elt [⟨.Name x px, iter, [], 0⟩] scope pos) 0 (.ref I) acc { cenv with scope := relabel scope env }) (RR acc cenv.locals) s₄) E s₃) E s₂ := by
  refine wpAny_newObj_type (wpAny_newFunctionEnv hcell (by intro y hy; simp at hy) (fun h₁ hns₁ hsb₁ => ?_) hkind)
  dsimp only at hns₁ hsb₁ ⊢
  generalize hH2 : s₂.heap.push { cls := .type "list", dict := none, data := .seq ([] : List Value).toArray } = H2 at hns₁ hsb₁ ⊢
  have hC : H2.objs.size = s₂.heap.objs.size + 1 := by rw [← hH2, Heap.size_push]
  have hDC : s₂.heap.objs.size ≠ H2.objs.size := by rw [hC]; exact Nat.ne_of_lt (Nat.lt_succ_self _)
  have hCle : s₂.heap.objs.size ≤ H2.objs.size := by rw [hC]; exact Nat.le_succ _
  have below : ∀ b, b < s₂.heap.objs.size → b ≠ H2.objs.size ∧ b ≠ s₂.heap.objs.size := fun b hb => ⟨by rw [hC]; exact Nat.ne_of_lt (Nat.lt_succ_of_lt hb), Nat.ne_of_lt hb⟩
  have hDf : s₂.heap.objs.size ∉ fp := fun hm => Nat.lt_irrefl _ (hfp _ hm)
  have hCf : H2.objs.size ∉ fp := fun hm => by have := hfp _ hm; rw [hC] at this; exact Nat.lt_irrefl _ (Nat.lt_of_succ_lt this)
  have old : ∀ b o, s₂.heap.get? b = some o → h₁.get? b = some o := fun b o e => hsb₁.extBut b o (below b (Heap.lt_size e)).1 (Heap.get?_push_of_some _ (hH2 ▸ Heap.get?_push_of_some _ e))
  have hacc : h₁.PlainList s₂.heap.objs.size #[] := ⟨_, hsb₁.extBut _ _ hDC (Heap.get?_push_of_some _ (hH2 ▸ Heap.get?_push_size _ rfl))⟩
  have hst₁ : St 0 h₁ := W.frame _ _ _ hst fun b _ o e => old b o e
  have fresh : ∀ a, s₂.heap.objs.size ≤ a → s₂.heap.get? a = none := fun a ha => by
    cases e : s₂.heap.get? a with
    | none => rfl
    | some o' => exact absurd (Heap.lt_size e) (Nat.not_lt.mpr ha)
  have loop : ∀ s₃ : Shared, s₃ = { s₂ with heap := h₁, toks := s₂.toks + ([] : List (Str × Value)).length } →
      codeAny (model pr w) A (.compLoop (.ListComp elt [⟨.Name x px, iter, [], 0⟩] scope pos) 0 (.ref I) (.ref s₂.heap.objs.size) (compEnvC scope cl H2.objs.size env))
        (RR (.ref s₂.heap.objs.size) H2.objs.size) s₃ := by
    rintro s₃ rfl
    have up : ∀ {h' : Heap}, (∀ b o, b ∉ s₂.heap.objs.size :: ([H2.objs.size] ++ wr) → h₁.get? b = some o → h'.get? b = some o) → ∀ b o, b ∉ wr → s₂.heap.get? b = some o → h'.get? b = some o := fun hk b o hw e =>
      hk b o (fun hm => by
        rcases List.mem_cons.mp hm with rfl | hm
        · exact (below _ (Heap.lt_size e)).2 rfl
        · rcases List.mem_append.mp hm with hm | hm
          · exact (below _ (Heap.lt_size e)).1 (List.mem_singleton.mp hm)
          · exact hw hm) (old b o e)
    refine comp_loop (cs := [H2.objs.size]) (V := fun h => ∃ m, h.Ns H2.objs.size m) (Has := fun v h => ∃ m, h.Ns H2.objs.size m ∧ m x = some v) W hwl ?_ ?_ ?_ ?_ hDf ?_ hsz sp hst₁ hacc ⟨_, hns₁⟩ ?_ ?_
    · rintro h ⟨m, o, es, ep, ho, _⟩ b hb
      rw [List.mem_singleton.mp hb]; exact ⟨o, ho⟩
    · rintro t v Q E' ⟨m, hn⟩ hQ
      refine wpAny_assign_Name (wpAny_storeName_local (lookup_relabel_local hx) hn (fun h' hn' hs' => ?_) (by simp [compEnvC, relabel, hkind]))
      exact hQ h' _ ⟨_, hn'⟩ ⟨_, hn', by simp⟩ fun b o hb e => hs'.extBut b o (fun q => hb (List.mem_singleton.mpr q)) e
    · rintro h h' ⟨m, hn⟩ hk
      exact ⟨m, hn.at' fun o e => hk _ (List.mem_singleton.mpr rfl) o e⟩
    · simpa using hDC
    · intro b hb
      rw [List.mem_singleton.mp hb]; exact hCf
    · rintro i v t E' hi hP _ ⟨m, hn, hm⟩ hk
      exact helt _ i v t m E' hCle hi hP hn hm (up hk)
    · rintro h' tk ys ⟨m, hn⟩ hl hys hit hk
      exact hRR _ _ h' tk m ys (fresh _ (Nat.le_refl _)) (fresh _ hCle) hDC hn hl.isList hys hit (up hk)
  exact codeAny_compStart_list (loop _ rfl) (W.self 0 _ _ _ hst₁ (loop _ rfl))

theorem block_cell {elt iter : Expr} {x : Str} {px : Pos} {scope : Scope} {cl : List (Str × Addr)} {pos : Pos} {s₂ : Shared} {I : Addr} {fp wr : List Addr} {n : Nat} {P : Nat → Value → Prop} {St : Nat → Heap → Prop} {RR : Value → Addr → Result → Shared → Prop}
    (W : Walks pr w A I fp wr n P St) (hwl : ∀ i h, St i h → ∀ b ∈ wr, ∃ o, h.get? b = some o) (hsz : n ≤ sizeLine) (sp : Nat → Sp)
    (hpc : ∀ h : Heap, pushCells h scope.names = h.push { cls := .type "cell", data := .cell none }) (hcf : ∀ k, cellsFrom k scope.names cl = (x, k) :: cl)
    (hkind : scope.kind = .function) (hx : (relabel scope env).names.lookup x = some .cell) (hst : St 0 s₂.heap) (hfp : ∀ b ∈ fp, b < s₂.heap.objs.size)
    (helt : ∀ C c i v (t : Shared) m₃ E', s₂.heap.objs.size ≤ C → i < n → P i v → t.heap.Ns C m₃ → t.heap.IsCell c (some v) → (∀ b o, b ∉ wr → s₂.heap.get? b = some o → t.heap.get? b = some o) →
      wpAny (model pr w) A (eval elt (compEnvC scope ((x, c) :: cl) C env)) (fun y t' => ItNew t.heap t'.heap (sp i) y ∧ Keeps t t') E' t)
    (hRR : ∀ D C c h' tk m' ys, s₂.heap.get? D = none → s₂.heap.get? C = none → D ≠ C → h'.Ns C m' → h'.IsList D ys → ys.size = n → (∀ j, j < n → ∃ y, ys[j]? = some y ∧ ItAt (D :: ([C, c] ++ wr)) h' (sp j) y) →
      (∀ b o, b ∉ wr → s₂.heap.get? b = some o → h'.get? b = some o) → RR (.ref D) C (.ok .next) { s₂ with heap := h', toks := tk }) :
    wpAny (model pr w) A (newList []) (fun acc s₃ => wpAny (model pr w) A (newFunctionEnv scope env.globals cl [] env.qual none .none (some env)) (fun cenv s₄ =>
      codeAny (model pr w) A (.compStart (.ListComp elt [⟨.Name x px, iter, [], 0⟩] scope pos) 0 (.ref I) acc { cenv with scope := relabel scope env }) (RR acc cenv.locals) s₄) E s₃) E s₂ := by
  refine wpAny_newObj_type ?_
  simp only [newFunctionEnv, Option.isSome_some, if_true]
  refine wpAny_bind (wpAny_alloc ?_)
  refine wpAny_bind (wpAny_layCells _ (fun name kind cells => by cases hkc : kind == NameKind.cell <;> simp) _ _ _ _ ?_)
  rw [hcf, hpc]
  simp only [List.forIn_nil]
  refine wpAny_bind (wpAny_pure (wpAny_pure ?_))
  dsimp only
  generalize hH2 : s₂.heap.push { cls := .type "list", dict := none, data := .seq ([] : List Value).toArray } = H2
  have hC : H2.objs.size = s₂.heap.objs.size + 1 := by rw [← hH2, Heap.size_push]
  generalize hH3 : H2.push { cls := .type "dict", data := .dict #[] } = H3
  have hc : H3.objs.size = s₂.heap.objs.size + 2 := by rw [← hH3, Heap.size_push, hC]
  generalize hH4 : H3.push { cls := .type "cell", data := .cell none } = h₁
  have hDC : s₂.heap.objs.size ≠ H2.objs.size := by rw [hC]; exact Nat.ne_of_lt (Nat.lt_succ_self _)
  have hDc : s₂.heap.objs.size ≠ H3.objs.size := by rw [hc]; omega
  have hCc : H2.objs.size ≠ H3.objs.size := by rw [hC, hc]; omega
  have hCle : s₂.heap.objs.size ≤ H2.objs.size := by rw [hC]; exact Nat.le_succ _
  have hcle : s₂.heap.objs.size ≤ H3.objs.size := by rw [hc]; omega
  have below : ∀ b, b < s₂.heap.objs.size → b ≠ H2.objs.size ∧ b ≠ s₂.heap.objs.size ∧ b ≠ H3.objs.size := fun b hb => ⟨Nat.ne_of_lt (Nat.lt_of_lt_of_le hb hCle), Nat.ne_of_lt hb, Nat.ne_of_lt (Nat.lt_of_lt_of_le hb hcle)⟩
  have nf : ∀ a, s₂.heap.objs.size ≤ a → a ∉ fp := fun a ha hm => Nat.lt_irrefl _ (Nat.lt_of_lt_of_le (hfp _ hm) ha)
  have up2 : ∀ b o, s₂.heap.get? b = some o → H2.get? b = some o := fun b o e => hH2 ▸ Heap.get?_push_of_some _ e
  have up3 : ∀ b o, H2.get? b = some o → H3.get? b = some o := fun b o e => hH3 ▸ Heap.get?_push_of_some _ e
  have up4 : ∀ b o, H3.get? b = some o → h₁.get? b = some o := fun b o e => hH4 ▸ Heap.get?_push_of_some _ e
  have old : ∀ b o, s₂.heap.get? b = some o → h₁.get? b = some o := fun b o e => up4 _ _ (up3 _ _ (up2 _ _ e))
  have hacc : h₁.PlainList s₂.heap.objs.size #[] := ⟨_, up4 _ _ (up3 _ _ (hH2 ▸ Heap.get?_push_size _ rfl))⟩
  have hns₁ : h₁.Ns H2.objs.size (fun _ => none) := (hH3 ▸ Heap.Ns.new H2 (.type "dict") : H3.Ns H2.objs.size _).keeps up4
  have hce : h₁.IsCell H3.objs.size none := ⟨_, hH4 ▸ Heap.get?_push_size _ rfl, rfl⟩
  have hst₁ : St 0 h₁ := W.frame _ _ _ hst fun b _ o e => old b o e
  have fresh : ∀ a, s₂.heap.objs.size ≤ a → s₂.heap.get? a = none := fun a ha => by
    cases e : s₂.heap.get? a with
    | none => rfl
    | some o' => exact absurd (Heap.lt_size e) (Nat.not_lt.mpr ha)
  have loop : ∀ (s₃ : Shared) tk, s₃ = { s₂ with heap := h₁, toks := tk } →
      codeAny (model pr w) A (.compLoop (.ListComp elt [⟨.Name x px, iter, [], 0⟩] scope pos) 0 (.ref I) (.ref s₂.heap.objs.size) (compEnvC scope ((x, H3.objs.size) :: cl) H2.objs.size env))
        (RR (.ref s₂.heap.objs.size) H2.objs.size) s₃ := by
    rintro s₃ tk₃ rfl
    have up : ∀ {h' : Heap}, (∀ b o, b ∉ s₂.heap.objs.size :: ([H2.objs.size, H3.objs.size] ++ wr) → h₁.get? b = some o → h'.get? b = some o) → ∀ b o, b ∉ wr → s₂.heap.get? b = some o → h'.get? b = some o := fun hk b o hw e =>
      hk b o (fun hm => by
        have hb := below _ (Heap.lt_size e)
        rcases List.mem_cons.mp hm with rfl | hm
        · exact hb.2.1 rfl
        · rcases List.mem_append.mp hm with hm | hm
          · rcases List.mem_cons.mp hm with hm | hm
            · exact hb.1 hm
            · exact hb.2.2 (List.mem_singleton.mp hm)
          · exact hw hm) (old b o e)
    refine comp_loop (cs := [H2.objs.size, H3.objs.size]) (V := fun h => (∃ m, h.Ns H2.objs.size m) ∧ ∃ v, h.IsCell H3.objs.size v) (Has := fun v h => h.IsCell H3.objs.size (some v)) W hwl ?_ ?_ ?_ ?_ (nf _ (Nat.le_refl _)) ?_ hsz sp hst₁ hacc ⟨⟨_, hns₁⟩, _, hce⟩ ?_ ?_
    · rintro h ⟨⟨m, o, es, ep, ho, _⟩, v, o', ho', _⟩ b hb
      rcases List.mem_cons.mp hb with rfl | hb
      · exact ⟨o, ho⟩
      · rw [List.mem_singleton.mp hb]; exact ⟨o', ho'⟩
    · rintro t v Q E' ⟨⟨m, hn⟩, v₀, hcl⟩ hQ
      refine wpAny_assign_Name (wpAny_storeName_cell (c := H3.objs.size) (by simp [compEnvC, relabel, hkind]) hx (by simp [compEnvC, List.lookup_cons]) hcl fun h' hc' hs' => ?_)
      exact hQ h' _ ⟨⟨m, hn.sameBut hs' hCc⟩, _, hc'⟩ hc' fun b o hb e => hs'.extBut b o (fun q => hb (q ▸ List.mem_cons_of_mem _ (List.mem_singleton.mpr rfl))) e
    · rintro h h' ⟨⟨m, hn⟩, v, hv⟩ hk
      exact ⟨⟨m, hn.at' fun o e => hk _ (List.mem_cons_self ..) o e⟩, v, let ⟨o, ho, hd⟩ := hv; ⟨o, hk _ (List.mem_cons_of_mem _ (List.mem_singleton.mpr rfl)) o ho, hd⟩⟩
    · intro hm
      rcases List.mem_cons.mp hm with hm | hm
      · exact hDC hm
      · exact hDc (List.mem_singleton.mp hm)
    · intro b hb
      rcases List.mem_cons.mp hb with rfl | hb
      · exact nf _ hCle
      · rw [List.mem_singleton.mp hb]; exact nf _ hcle
    · rintro i v t E' hi hP ⟨⟨m, hn⟩, _⟩ hHas hk
      exact helt _ _ i v t m E' hCle hi hP hn hHas (up hk)
    · rintro h' tk ys ⟨⟨m, hn⟩, _⟩ hl hys hit hk
      exact hRR _ _ _ h' tk m ys (fresh _ (Nat.le_refl _)) (fresh _ hCle) hDC hn hl.isList hys hit (up hk)
  exact codeAny_compStart_list (loop _ _ rfl) (W.self 0 _ _ _ hst₁ (loop _ _ rfl))
end
end Mine
end

section
open PySem PySem.W PySem.Calls PySem.Spec PyProof.Rows
set_option maxRecDepth 100000
set_option maxHeartbeats 4000000
namespace Mine
/-- what a comprehension walks over -/
def Src (w : World) (n : Nat) (P : Nat → Value → Prop) (s : Shared) (it : Value) (s₂ : Shared) : Prop :=
  ∃ I fp St, it = .ref I ∧ (∀ A : Around, A.handled = none → Walks pr w A I fp [I] n P St) ∧ (∀ i h, St i h → ∃ o, h.get? I = some o) ∧ St 0 s₂.heap ∧ (∀ b ∈ fp, b < s₂.heap.objs.size) ∧ s.heap.get? I = none ∧ Keeps s s₂

def LcPost (s : Shared) (n : Nat) (sp : Nat → Sp) (y : Value) (s' : Shared) : Prop :=
  ∃ D ys, y = .ref D ∧ s.heap.get? D = none ∧ s'.heap.IsList D ys ∧ ys.size = n ∧ (∀ j, j < n → ∃ y, ys[j]? = some y ∧ ItAt [] s'.heap (sp j) y) ∧ Keeps s s'

theorem keepsTrans {s s' s'' : Shared} (x : Keeps s s') (y : Keeps s' s'') : Keeps s s'' := by
  obtain ⟨h1, t1, rfl, k1⟩ := x
  obtain ⟨h2, t2, rfl, k2⟩ := y
  exact ⟨h2, t2, rfl, fun b o e => k2 b o (k1 b o e)⟩
theorem Keeps.heap {s s' : Shared} (x : Keeps s s') : ∀ b o, s.heap.get? b = some o → s'.heap.get? b = some o := by
  obtain ⟨h1, t1, rfl, k1⟩ := x; exact k1
theorem keepsOver {s s₂ : Shared} {h'' : Heap} {tk : Nat} (K : Keeps s s₂) (k : ∀ b o, s.heap.get? b = some o → h''.get? b = some o) : Keeps s { s₂ with heap := h'', toks := tk } := by
  obtain ⟨h1, t1, rfl, _⟩ := K
  exact ⟨h'', tk, rfl, k⟩
theorem none_of_keep {h h' : Heap} {D : Addr} (k : ∀ b o, h.get? b = some o → h'.get? b = some o) (e : h'.get? D = none) : h.get? D = none := by
  cases q : h.get? D with
  | none => rfl
  | some o => rw [k D o q] at e; cases e

section
variable {w : World} {A : Around} {E : Value → Shared → Prop} {env : Env} {s : Shared}

theorem src_list {s₁ : Shared} {ax : Addr} {its : Array Value} (hl : s₁.heap.IsList ax its) (k : Keeps s s₁) : wpAny (model pr w) A (pyIter (.ref ax)) (Src w its.size (fun i v => its[i]? = some v) s) E s₁ := by
  have hlt : ax < s₁.heap.objs.size := by obtain ⟨_, e, _⟩ := hl; exact Heap.lt_size e
  refine wpAny_pyIter_list hl ?_
  refine ⟨s₁.heap.objs.size, _, _, rfl, fun A' hA => Walks.list hA s₁.heap.objs.size ax (Nat.ne_of_lt hlt) its, fun i h st => by obtain ⟨o, e, _⟩ := st.1; exact ⟨o, e⟩,
    ⟨⟨_, Heap.get?_push_size _ rfl, rfl, rfl⟩, hl.push _⟩, fun b hb => ?_, none_of_keep (Keeps.heap k) ?_, keepsTrans k ⟨_, _, rfl, fun _ _ e => Heap.get?_push_of_some _ e⟩⟩
  · show b < (s₁.heap.push _).objs.size
    rw [Heap.size_push]
    rcases List.mem_cons.mp hb with rfl | hb
    · exact Nat.lt_succ_self _
    · rw [List.mem_singleton.mp hb]; exact Nat.lt_succ_of_lt hlt
  · cases e : s₁.heap.get? s₁.heap.objs.size with
    | none => rfl
    | some o' => exact absurd (Heap.lt_size e) (Nat.lt_irrefl _)

theorem src_range {s₁ : Shared} {t : Tok} (k : Keeps s s₁) : wpAny (model pr w) A (call (.type "range") [.int 11 t]) (fun xv s₂ => wpAny (model pr w) A (pyIter xv) (Src w 11 (fun i v => ∃ t, v = .int (i : Int) t) s) E s₂) E s₁ := by
  refine call_range_1 ?_
  refine wpAny_pyIter_range (IsRange.new ..) (by decide) ?_
  have fresh : ∀ (h : Heap), h.get? h.objs.size = none := fun h => by
    cases e : h.get? h.objs.size with
    | none => rfl
    | some o' => exact absurd (Heap.lt_size e) (Nat.lt_irrefl _)
  have key : ∀ (s₂ : Shared) (I : Addr), IsRangeIter s₂.heap I 0 11 1 → s.heap.get? I = none → Keeps s s₂ → Src w 11 (fun i v => ∃ t, v = .int (i : Int) t) s (.ref I) s₂ := fun s₂ I hI hn K => by
    refine ⟨I, [I], fun i h => IsRangeIter h I (0 + (i : Nat) * 1) ((11 : Int) - (i : Nat)) 1, rfl, fun A' hA => ?_, fun i h st => ⟨_, st⟩, hI, fun b hb => ?_, hn, K⟩
    · have W := Walks.range (prog := pr) (w := w) (A := A') hA I 0 1 11
      exact { sub := W.sub, frame := W.frame, done := W.done, self := W.self, item := fun i s Q E hi st hQ => W.item i s Q E hi st fun v h' tk hP => hQ v h' tk (by obtain ⟨t, rfl⟩ := hP; exact ⟨t, by rw [Int.mul_one, Int.zero_add]⟩) }
    · rw [List.mem_singleton.mp hb]; exact Heap.lt_size hI
  exact key _ _ (Heap.get?_push_size _ rfl) (none_of_keep (Keeps.heap k) (none_of_keep (fun _ _ e => Heap.get?_push_of_some _ e) (fresh _))) (keepsTrans k ⟨_, _, rfl, fun _ _ e => Heap.get?_push_of_some _ (Heap.get?_push_of_some _ e)⟩)

theorem eval_loc {elt iter : Expr} {x : Str} {px : Pos} {scope : Scope} {cl : List (Str × Addr)} {pos : Pos} {n : Nat} {P : Nat → Value → Prop} (hh : A.handled = none) (hsz : n ≤ sizeLine) (sp : Nat → Sp)
    (hclos : closureFor scope env = pure cl) (hcell : ∀ y ∈ scope.names, y.2 ≠ .cell) (hkind : scope.kind = .function)
    (hnames : ∀ y ∈ scope.names, y.2 = .local → scope.names.lookup y.1 = some .local) (hx : scope.names.lookup x = some .local)
    (h : wpAny (model pr w) A (eval iter env) (fun xv s₁ => wpAny (model pr w) A (pyIter xv) (Src w n P s) E s₁) E s)
    (helt : ∀ C i v (t : Shared) m₃ E', i < n → P i v → t.heap.Ns C m₃ → m₃ x = some v → (∀ b o, s.heap.get? b = some o → t.heap.get? b = some o) →
      wpAny (model pr w) A (eval elt (compEnvC scope cl C env)) (fun y t' => ItNew t.heap t'.heap (sp i) y ∧ Keeps t t') E' t)
    (hs : ∀ x, foldedSetIterable iter env x = pure x := by intro _; rfl) :
    wpAny (model pr w) A (eval (.ListComp elt [⟨.Name x px, iter, [], 0⟩] scope pos) env) (LcPost s n sp) E s := by
  rw [eval_ListComp]
  refine wpAny_comprehension_free (use := none) rfl hs hclos hkind hnames (wpAny_mono h (fun xv s₁ h₁ => wpAny_mono h₁ (fun it s₂ h₂ => ?_) fun _ _ e => e) fun _ _ e => e)
  obtain ⟨I, fp, St, rfl, W, hlive, hst, hfp, hI, K⟩ := h₂
  have notI : ∀ b o, s.heap.get? b = some o → b ∉ [I] := fun b o e hm => by rw [List.mem_singleton.mp hm, hI] at e; cases e
  refine block_loc (RR := fun acc C => compPost (model pr w) A E none (LcPost s n sp) acc C) (W A hh) (fun i h st b hb => by rw [List.mem_singleton.mp hb]; exact hlive i h st) hsz sp hcell hkind hx hst hfp
    (fun C i v t m₃ E' _ hi hP hn hm hk => helt C i v t m₃ E' hi hP hn hm fun b o e => hk b o (notI b o e) (Keeps.heap K b o e)) ?_
  intro D C h' tk m' ys hD hC hDC hn hl hys hit hk
  refine ⟨m', hn, fun h'' hs'' => ⟨D, ys, rfl, none_of_keep (Keeps.heap K) hD, hl.extBut hs''.extBut hDC, hys, fun j hj => ?_, @keepsOver s s₂ h'' tk K fun b o e => ?_⟩⟩
  · obtain ⟨y, hy, hI⟩ := hit j hj
    exact ⟨y, hy, (hI.keep fun b o hb e => hs''.extBut b o (fun q => hb (q ▸ List.mem_cons_of_mem _ (List.mem_append_left _ (List.mem_singleton.mpr rfl)))) e).off⟩
  · exact hs''.extBut b o (fun q => by rw [q, none_of_keep (Keeps.heap K) hC] at e; cases e) (hk b o (notI b o e) (Keeps.heap K b o e))

theorem eval_cell {elt iter : Expr} {x : Str} {px : Pos} {scope : Scope} {cl : List (Str × Addr)} {pos : Pos} {n : Nat} {P : Nat → Value → Prop} (hh : A.handled = none) (hsz : n ≤ sizeLine) (sp : Nat → Sp)
    (hclos : closureFor scope env = pure cl) (hpc : ∀ h : Heap, pushCells h scope.names = h.push { cls := .type "cell", data := .cell none }) (hcf : ∀ k, cellsFrom k scope.names cl = (x, k) :: cl) (hkind : scope.kind = .function)
    (hnames : ∀ y ∈ scope.names, y.2 = .local → scope.names.lookup y.1 = some .local) (hx : (relabel scope env).names.lookup x = some .cell)
    (h : wpAny (model pr w) A (eval iter env) (fun xv s₁ => wpAny (model pr w) A (pyIter xv) (Src w n P s) E s₁) E s)
    (helt : ∀ C c i v (t : Shared) m₃ E', i < n → P i v → t.heap.Ns C m₃ → t.heap.IsCell c (some v) → (∀ b o, s.heap.get? b = some o → t.heap.get? b = some o) →
      wpAny (model pr w) A (eval elt (compEnvC scope ((x, c) :: cl) C env)) (fun y t' => ItNew t.heap t'.heap (sp i) y ∧ Keeps t t') E' t)
    (hs : ∀ x, foldedSetIterable iter env x = pure x := by intro _; rfl) :
    wpAny (model pr w) A (eval (.ListComp elt [⟨.Name x px, iter, [], 0⟩] scope pos) env) (LcPost s n sp) E s := by
  rw [eval_ListComp]
  refine wpAny_comprehension_free (use := none) rfl hs hclos hkind hnames (wpAny_mono h (fun xv s₁ h₁ => wpAny_mono h₁ (fun it s₂ h₂ => ?_) fun _ _ e => e) fun _ _ e => e)
  obtain ⟨I, fp, St, rfl, W, hlive, hst, hfp, hI, K⟩ := h₂
  have notI : ∀ b o, s.heap.get? b = some o → b ∉ [I] := fun b o e hm => by rw [List.mem_singleton.mp hm, hI] at e; cases e
  refine block_cell (RR := fun acc C => compPost (model pr w) A E none (LcPost s n sp) acc C) (W A hh) (fun i h st b hb => by rw [List.mem_singleton.mp hb]; exact hlive i h st) hsz sp hpc hcf hkind hx hst hfp
    (fun C c i v t m₃ E' _ hi hP hn hm hk => helt C c i v t m₃ E' hi hP hn hm fun b o e => hk b o (notI b o e) (Keeps.heap K b o e)) ?_
  intro D C c h' tk m' ys hD hC hDC hn hl hys hit hk
  refine ⟨m', hn, fun h'' hs'' => ⟨D, ys, rfl, none_of_keep (Keeps.heap K) hD, hl.extBut hs''.extBut hDC, hys, fun j hj => ?_, @keepsOver s s₂ h'' tk K fun b o e => ?_⟩⟩
  · obtain ⟨y, hy, hI⟩ := hit j hj
    exact ⟨y, hy, (hI.keep fun b o hb e => hs''.extBut b o (fun q => hb (q ▸ List.mem_cons_of_mem _ (List.mem_append_left _ (List.mem_cons_self ..)))) e).off⟩
  · exact hs''.extBut b o (fun q => by rw [q, none_of_keep (Keeps.heap K) hC] at e; cases e) (hk b o (notI b o e) (Keeps.heap K b o e))

theorem assign_cell {elt iter : Expr} {x y : Str} {px py : Pos} {scope : Scope} {cl : List (Str × Addr)} {pos spos : Pos} {n : Nat} {P : Nat → Value → Prop} {Q : Flow → Shared → Prop} {m : Str → Option Value} (hh : A.handled = none) (hsz : n ≤ sizeLine) (sp : Nat → Sp)
    (hsw : swapsWith (.ListComp elt [⟨.Name x px, iter, [], 0⟩] scope pos) (some (.Name y py)) spos.line env = pure true)
    (hclos : closureFor scope env = pure cl) (hpc : ∀ h : Heap, pushCells h scope.names = h.push { cls := .type "cell", data := .cell none }) (hcf : ∀ k, cellsFrom k scope.names cl = (x, k) :: cl) (hkind : scope.kind = .function)
    (hnames : ∀ y ∈ scope.names, y.2 = .local → scope.names.lookup y.1 = some .local) (hx : (relabel scope env).names.lookup x = some .cell)
    (hy : env.kindOf y = some .local) (hp : (env.scope.kind == .class || (env.scope.kind == .module && env.locals != env.globals)) = false) (hn₀ : s.heap.Ns env.locals m)
    (h : wpAny (model pr w) A (eval iter env) (fun xv s₁ => wpAny (model pr w) A (pyIter xv) (Src w n P s) E s₁) E s)
    (helt : ∀ C c i v (t : Shared) m₃ E', i < n → P i v → t.heap.Ns C m₃ → t.heap.IsCell c (some v) → (∀ b o, s.heap.get? b = some o → t.heap.get? b = some o) →
      wpAny (model pr w) A (eval elt (compEnvC scope ((x, c) :: cl) C env)) (fun y t' => ItNew t.heap t'.heap (sp i) y ∧ Keeps t t') E' t)
    (hQ : ∀ D ys h' tk, s.heap.get? D = none → h'.IsList D ys → ys.size = n → (∀ j, j < n → ∃ y, ys[j]? = some y ∧ ItAt [env.locals] h' (sp j) y) → h'.Ns env.locals (fun z => if z = y then some (.ref D) else m z) →
      (∀ b o, b ≠ env.locals → s.heap.get? b = some o → h'.get? b = some o) → Q .next { s with heap := h', toks := tk })
    (hs : ∀ x, foldedSetIterable iter env x = pure x := by intro _; rfl) :
    wpAny (model pr w) A (exec (.Assign [.Name y py] (.ListComp elt [⟨.Name x px, iter, [], 0⟩] scope pos) spos) env) Q E s := by
  rw [exec_Assign_Name_used _ _ _ _ hsw]
  refine wpAny_bind (wpAny_standAt (wpAny_bind ?_))
  show wpAny _ A (do let _ ← comprehension (.ListComp elt [⟨.Name x px, iter, [], 0⟩] scope pos) scope env _ (newList []) false (eval iter env) (some (assign (.Name y py) env))) _ _ s
  refine wpAny_bind (wpAny_mono (wpAny_comprehension_free (use := some (assign (.Name y py) env)) (Q := fun _ s' => Q .next s') rfl hs hclos hkind hnames
    (wpAny_mono h (fun xv s₁ h₁ => wpAny_mono h₁ (fun it s₂ h₂ => ?_) fun _ _ e => e) fun _ _ e => e)) (fun _ s' hq => wpAny_pure (wpAny_pure hq)) fun _ _ e => e)
  obtain ⟨I, fp, St, rfl, W, hlive, hst, hfp, hI, K⟩ := h₂
  have notI : ∀ b o, s.heap.get? b = some o → b ∉ [I] := fun b o e hm => by rw [List.mem_singleton.mp hm, hI] at e; cases e
  refine block_cell (RR := fun acc C => compPost (model pr w) A E (some (assign (.Name y py) env)) (fun _ s' => Q .next s') acc C) (W A hh) (fun i h st b hb => by rw [List.mem_singleton.mp hb]; exact hlive i h st) hsz sp hpc hcf hkind hx hst hfp
    (fun C c i v t m₃ E' _ hi hP hn hm hk => helt C c i v t m₃ E' hi hP hn hm fun b o e => hk b o (notI b o e) (Keeps.heap K b o e)) ?_
  intro D C c h' tk m' ys hD hC hDC hn hl hys hit hk
  have hCs := none_of_keep (Keeps.heap K) hC
  have hDs := none_of_keep (Keeps.heap K) hD
  have hLs : ∃ o, s.heap.get? env.locals = some o := let ⟨o, _, _, ho, _⟩ := hn₀; ⟨o, ho⟩
  have hCL : C ≠ env.locals := fun q => by obtain ⟨o, ho⟩ := hLs; rw [← q, hCs] at ho; cases ho
  have hDL : D ≠ env.locals := fun q => by obtain ⟨o, ho⟩ := hLs; rw [← q, hDs] at ho; cases ho
  have old : ∀ b o, s.heap.get? b = some o → h'.get? b = some o := fun b o e => hk b o (notI b o e) (Keeps.heap K b o e)
  show wpAny _ A (assign (.Name y py) env (.ref D)) _ _ _
  refine wpAny_assign_Name (wpAny_storeName_local hy (hn₀.keeps old) (fun h₂ hn₂ hs₂ => ?_) hp)
  refine ⟨m', hn.sameBut hs₂ hCL, fun h'' hs'' => ?_⟩
  have e₂ : ({ s₂ with heap := h'', toks := tk + 1 } : Shared) = { s with heap := h'', toks := tk + 1 } := by
    obtain ⟨h1, t1, rfl, _⟩ := K; rfl
  show Q .next { s₂ with heap := h'', toks := tk + 1 }
  rw [e₂]
  refine hQ D ys h'' _ hDs ((hl.extBut hs₂.extBut hDL).extBut hs''.extBut hDC) hys (fun j hj => ?_) (hn₂.sameBut hs'' (Ne.symm hCL)) fun b o hb e => hs''.extBut b o (fun q => by rw [q, hCs] at e; cases e) (hs₂.extBut b o hb (old b o e))
  obtain ⟨z, hz, hI⟩ := hit j hj
  refine ⟨z, hz, ?_⟩
  generalize hsp : sp j = spj at hI
  cases spj with
  | inl p => exact hI
  | inr p =>
    obtain ⟨T, its, e, hT, hlT, hp⟩ := hI
    have hTC : T ≠ C := fun q => hT (q ▸ List.mem_cons_of_mem _ (List.mem_append_left _ (List.mem_cons_self ..)))
    have hTL : T ≠ env.locals := fun q => by
      obtain ⟨o, es, ep, ho, hd, _⟩ := hn₀.keeps old
      obtain ⟨o', ho', _, _, hd'⟩ := hlT
      rw [q, ho] at ho'; cases ho'; rw [hd] at hd'; cases hd'
    exact ⟨T, its, e, by simpa using hTL, (hlT.extBut hs₂.extBut hTL).extBut hs''.extBut hTC, hp⟩
end
end Mine
end

section
open PySem PySem.W PySem.Calls PySem.Spec PyProof.Rows
set_option maxRecDepth 100000
set_option maxHeartbeats 4000000
namespace Mine
abbrev rowArr (b : Nat → Bool) : Array Value := ((List.range 11).map fun j => Value.bool (b j)).toArray
theorem slice_rev (b : Nat → Bool) : slicePick (rowArr b) none none (some (-1)) = rowArr (fun j => b (10 - j)) := by
  have h1 : (rowArr b).size = 11 := rfl
  have h2 : sliceRange (sliceBounds none none (some (-1)) 11).1 (sliceBounds none none (some (-1)) 11).2.1 (sliceBounds none none (some (-1)) 11).2.2 = [10, 9, 8, 7, 6, 5, 4, 3, 2, 1, 0] := by decide
  unfold slicePick
  rw [h1, h2]
  rfl

section
variable {w : World} {A : Around} {E : Value → Shared → Prop} {cenv : Env} {s t : Shared} {m mg mb : Str → Option Value}

theorem nm_local {x : Str} {p : Pos} {v : Value} {Q : Value → Shared → Prop} (hk : cenv.scope.kind = .function) (hx : cenv.kindOf x = some .local) (hn : t.heap.Ns cenv.locals m) (hm : m x = some v) (hd : (x == ("__debug__" : Str)) = false) (h : Q v t) :
    wpAny (model pr w) A (eval (.Name x p) cenv) Q E t := wpAny_Name (wpAny_loadName_local hk hx hn hm h) hd
theorem nm_cell {x : Str} {p : Pos} {v : Value} {c : Addr} {Q : Value → Shared → Prop} (hk : cenv.scope.kind = .function) (hx : cenv.kindOf x = some .cell) (hc : cenv.cells.lookup x = some c) (hv : t.heap.IsCell c (some v)) (hd : (x == ("__debug__" : Str)) = false) (h : Q v t) :
    wpAny (model pr w) A (eval (.Name x p) cenv) Q E t := wpAny_Name (wpAny_loadName_cell hk hx hc hv h) hd

theorem elt_rev {l : Addr} {b : Nat → Bool} {p1 p2 p3 p4 p5 : Pos} (hk : cenv.scope.kind = .function) (hx : cenv.kindOf (Str.ofString "row") = some .local) (hn : t.heap.Ns cenv.locals m) (hm : m (Str.ofString "row") = some (.ref l)) (hl : t.heap.IsList l (rowArr b)) :
    wpAny (model pr w) A (eval (.Subscript (.Name (Str.ofString "row") p1) (.Slice none none (some (.UnaryOp .USub (.Constant (.int 1) 0 p2) p3)) p4) p5) cenv)
      (fun y t' => ItNew t.heap t'.heap (.inr fun its => its = rowArr fun j => b (10 - j)) y ∧ Keeps t t') E t := by
  refine wpAny_Subscript_Slice_step (T := "list") list_getitem_lookup ?_ (by intro _ _; rfl)
  refine nm_local hk hx hn hm (by decide) ?_
  refine wpAny_Slice ?_
  rw [evalPart_none]
  refine wpAny_pure ?_
  refine wpAny_pure ?_
  show wpAny _ _ (eval _ cenv) _ _ t
  refine wpAny_UnaryOp (wpAny_Constant_int (PyProof.Rows.neg_int ?_))
  refine ⟨(hl.push _).typeIs, wpAny_getItem_list_slice (hl.push _) (Heap.IsSliceOf.new ..) .none .none (.int _ _) (by decide) ?_ (by show 11 ≤ sizeLine; rw [sizeLine_eq]; omega)⟩
  rw [slice_rev]
  refine ⟨⟨_, _, rfl, ?_, ⟨_, Heap.get?_push_size _ rfl, rfl, _, rfl⟩, rfl⟩, _, _, rfl, fun _ _ e => Heap.get?_push_of_some _ (Heap.get?_push_of_some _ e)⟩
  cases e : t.heap.get? (t.heap.push { cls := .type "slice", data := .fields #[.none, .none, .int (-1) (t.toks + 1)] }).objs.size with
  | none => rfl
  | some o =>
    have := Heap.lt_size e
    rw [Heap.size_push] at this
    exact absurd this (Nat.not_lt_of_le (Nat.le_succ _))

theorem elt_not {v : Bool} {p1 p2 : Pos} (hk : cenv.scope.kind = .function) (hx : cenv.kindOf (Str.ofString "sign") = some .local) (hn : t.heap.Ns cenv.locals m) (hm : m (Str.ofString "sign") = some (.bool v)) :
    wpAny (model pr w) A (eval (.UnaryOp .Not (.Name (Str.ofString "sign") p1) p2) cenv) (fun y t' => ItNew t.heap t'.heap (.inl fun y => y = .bool (!v)) y ∧ Keeps t t') E t := by
  refine wpAny_UnaryOp (nm_local hk hx hn hm (by decide) (not_value (wpAny_truthy_bool ?_)))
  exact ⟨rfl, _, _, rfl, fun _ _ e => e⟩

theorem elt_idx {cr cj : Addr} {D : Addr} {r : Nat → Addr} {c : Nat → Nat → Bool} {i j : Nat} {t1 t2 : Tok} {p1 p2 p3 p4 p5 : Pos} (hk : cenv.scope.kind = .function) (hr : cenv.kindOf (Str.ofString "rows") = some .cell) (hkk : cenv.kindOf (Str.ofString "k") = some .local) (hj : cenv.kindOf (Str.ofString "j") = some .cell)
    (hcr : cenv.cells.lookup (Str.ofString "rows") = some cr) (hcj : cenv.cells.lookup (Str.ofString "j") = some cj) (hn : t.heap.Ns cenv.locals m) (hm : m (Str.ofString "k") = some (.int (i : Int) t1)) (hvr : t.heap.IsCell cr (some (.ref D))) (hvj : t.heap.IsCell cj (some (.int (j : Int) t2)))
    (G : Gd t.heap D r c) (hi11 : i < 11) (hj11 : j < 11) :
    wpAny (model pr w) A (eval (.Subscript (.Subscript (.Name (Str.ofString "rows") p1) (.Name (Str.ofString "k") p2) p3) (.Name (Str.ofString "j") p4) p5) cenv) (fun y t' => ItNew t.heap t'.heap (.inl fun y => y = .bool (c i j)) y ∧ Keeps t t') E t := by
  refine Subscript_ (Subscript_ ?_)
  refine nm_cell hk hr hcr hvr (by decide) ?_
  refine nm_local hk hkk hn hm (by decide) ?_
  refine tail_any G.rows.typeIs slot_list_getitem.lookup (wpAny_getItem_list G.rows (by omega) (by omega) (x := .ref (r i)) (by simp [hi11]) ?_) (by with_unfolding_all rfl)
  refine nm_cell hk hj hcj hvj (by decide) ?_
  refine tail_any (G.cells i hi11).typeIs slot_list_getitem.lookup (wpAny_getItem_list (G.cells i hi11) (by omega) (by omega) (x := .bool (c i j)) (by simp [hj11]) ?_) (by with_unfolding_all rfl)
  exact ⟨rfl, _, _, rfl, fun _ _ e => e⟩

theorem pow2 : ∀ e : Fin 11, (2 : Int) ^ e.val ≠ 0 ∧ ((2 : Int) ^ e.val).natAbs < 1073741824 := by decide

theorem elt_num {csc ck sc : Addr} {vs : List Value} {ns : List Int} {k j : Nat} {t1 t2 : Tok} {p1 p2 p3 p4 p5 p6 p7 p8 p9 p10 p11 p12 : Pos} (X : (hd.heap_39 w.params).In t.heap) (T : TT mg mb t.heap) (hL : t.heap.IsList sc vs.toArray) (hi : IntsAre vs ns) (hlen : ns.length ≤ 63)
    (hh : A.handled = none) (hd : A.depth + 6 < recursionLimit) (hu : A.units + 100 < cLine) (hg : cenv.globals = mainGlobals)
    (hk : cenv.scope.kind = .function) (h1 : cenv.kindOf (Str.ofString "_law_number") = some .globalImplicit) (h2 : cenv.kindOf (Str.ofString "script") = some .cell) (h3 : cenv.kindOf (Str.ofString "k") = some .cell) (h4 : cenv.kindOf (Str.ofString "j") = some .local)
    (hc2 : cenv.cells.lookup (Str.ofString "script") = some csc) (hc3 : cenv.cells.lookup (Str.ofString "k") = some ck) (hv2 : t.heap.IsCell csc (some (.ref sc))) (hv3 : t.heap.IsCell ck (some (.int (k : Int) t1)))
    (hn : t.heap.Ns cenv.locals m) (hm : m (Str.ofString "j") = some (.int (j : Int) t2)) (hk11 : k < 11) (hj11 : j < 11) (hmg : mg (Str.ofString "_law_number") = some (.ref 56)) (hkeep : keepIn (Mine.hd.heap_39 w.params) (.ref 56) = true) :
    wpAny (model pr w) A (eval (.Compare (.BinOp (.BinOp (.Call (.Name (Str.ofString "_law_number") p1) [.Name (Str.ofString "script") p2, .Name (Str.ofString "k") p3] [] p4) .FloorDiv (.BinOp (.Constant (.int 2) 0 p5) .Pow (.Name (Str.ofString "j") p6) p7) p8) .Mod (.Constant (.int 2) 0 p9) p10) [.Eq] [.Constant (.int 1) 0 p11] p12) cenv)
      (fun y t' => ItNew t.heap t'.heap (.inl fun y => ∃ b, y = .bool b) y ∧ Keeps t t') E t := by
  refine wpAny_Compare1 (wpAny_BinOp (wpAny_BinOp (wpAny_Call_NameR ?_))) (by with_unfolding_all rfl)
  refine Name_function_global hk h1 (loadGlobal_global (by rw [hg]; exact T.g) hmg ?_) (by decide)
  refine callWith_K X hkeep ?_ (by rfl) (by rfl)
  refine spliced_cons (nm_cell hk h2 hc2 hv2 (by decide) ?_)
  refine spliced_cons (nm_cell hk h3 hc3 hv3 (by decide) ?_)
  refine spliced_nil ⟨X, ?_⟩
  refine wpAny_call (lawnum X T hL hi hlen (by omega) (by omega) hh hd hu fun n t' h' tk K => ?_)
  refine wpAny_BinOp (wpAny_Constant_int (nm_local hk h4 (hn.keeps K) hm (by decide) ?_))
  refine pow_int_small (by omega) (by omega) (by decide) ?_
  have hp := pow2 ⟨j, hj11⟩
  have ej : ((j : Nat) : Int).toNat = j := Int.toNat_natCast j
  rw [ej]
  refine floordiv_int hp.1 ?_ (Or.inl (PyProof.noPylong_small hp.2))
  refine wpAny_Constant_int ?_
  refine PyProof.Rows.mod_int' (by decide) ?_
  refine wpAny_Constant_int ?_
  refine P.eq_int ?_
  exact ⟨⟨_, rfl⟩, _, _, rfl, K⟩

theorem iter_range {cz : Addr} {tz : Tok} {p1 p2 p3 : Pos} (T : TT mg mb t.heap) (hg : cenv.globals = mainGlobals) (hb : cenv.builtins = builtinsNs)
    (hk : cenv.scope.kind = .function) (h1 : cenv.kindOf (Str.ofString "range") = some .globalImplicit) (h2 : cenv.kindOf (Str.ofString "size") = some .cell) (hc : cenv.cells.lookup (Str.ofString "size") = some cz) (hv : t.heap.IsCell cz (some (.int 11 tz))) (hmg : mg (Str.ofString "range") = none) :
    wpAny (model pr w) A (eval (.Call (.Name (Str.ofString "range") p1) [.Name (Str.ofString "size") p2] [] p3) cenv) (fun xv s₁ => wpAny (model pr w) A (pyIter xv) (Src w 11 (fun i v => ∃ t, v = .int (i : Int) t) t) E s₁) E t := by
  refine wpAny_Call_NameR (Name_function_global hk h1 (loadGlobal_builtin (by rw [hg]; exact T.g) hmg (by rw [hb]; exact T.b) ((T.builtins _ (by decide)).trans boot_range) ?_) (by decide))
  refine callWith_type1 ?_ (by rfl) (by rfl)
  refine spliced_cons (nm_cell hk h2 hc hv (by decide) ?_)
  refine spliced_nil ?_
  exact src_range ⟨_, _, rfl, fun _ _ e => e⟩
end
end Mine
end

section
open PySem PySem.W PySem.Calls PySem.Spec PyProof.Rows
set_option maxRecDepth 100000
set_option maxHeartbeats 4000000
namespace Mine
/-- signs, one of them true unless P -/
def Bl (ys : Array Value) (P : Prop) : Prop := (∀ (i : Nat) (y : Value), ys[i]? = some y → ∃ b : Bool, y = Value.bool b) ∧ ((∃ i : Nat, ys[i]? = some (Value.bool true)) ∨ P)
theorem Bl.push {ys : Array Value} {P P' : Prop} {b : Bool} (x : Bl ys P) (h : b = false → P → P') : Bl (ys.push (.bool b)) P' := by
  obtain ⟨h1, h2⟩ := x
  refine ⟨fun i y hy => ?_, ?_⟩
  · rw [Array.getElem?_push] at hy
    split at hy
    · cases hy; exact ⟨b, rfl⟩
    · exact h1 i y hy
  · cases b with
    | true => exact .inl ⟨ys.size, by rw [Array.getElem?_push, if_pos rfl]⟩
    | false =>
      rcases h2 with ⟨i, hi⟩ | hP
      · refine .inl ⟨i, ?_⟩
        have : i ≠ ys.size := fun e => by rw [e] at hi; simp at hi
        rw [Array.getElem?_push, if_neg this]; exact hi
      · exact .inr (h rfl hP)
theorem Bl.mono {ys : Array Value} {P P' : Prop} (x : Bl ys P) (h : P → P') : Bl ys P' := ⟨x.1, x.2.imp id h⟩

section
variable {w : World} {A : Around} {R : Result → Shared → Prop} {s : Shared}

theorem compTurn_in (elt it2 : Expr) (g0 : Comprehension) (y : Str) (py : Pos) (scope : Scope) (pos : Pos) (it acc : Value) (env : Env) :
    compTurn (.ListComp elt [g0, ⟨.Name y py, it2, [], 0⟩] scope pos) 1 it acc env = (standAt it2.pos >>= fun _ => pyNext it >>= fun r => match r with
      | none => pure (.done .next)
      | some v => letOwnedTupleGo (.Name y py) it v >>= fun _ => assign (.Name y py) env v >>= fun _ =>
        (eval elt env >>= fun x => call (.builtin "list.append") [acc, x] >>= fun _ => pure ()) >>= fun _ =>
          again (.compLoop (.ListComp elt [g0, ⟨.Name y py, it2, [], 0⟩] scope pos) 1 it acc env)) := by rfl
theorem compTurn_out (elt it1 it2 : Expr) (x y : Str) (px py : Pos) (scope : Scope) (pos : Pos) (it acc : Value) (env : Env) :
    compTurn (.ListComp elt [⟨.Name x px, it1, [], 0⟩, ⟨.Name y py, it2, [], 0⟩] scope pos) 0 it acc env = (standAt it1.pos >>= fun _ => pyNext it >>= fun r => match r with
      | none => pure (.done .next)
      | some v => letOwnedTupleGo (.Name x px) it v >>= fun _ => assign (.Name x px) env v >>= fun _ =>
        (eval it2 env >>= fun z => standAt it2.pos >>= fun _ => foldedSetIterable it2 env z >>= fun z => holding [z] (pyIter z) >>= fun i2 =>
          runOwn (.compStart (.ListComp elt [⟨.Name x px, it1, [], 0⟩, ⟨.Name y py, it2, [], 0⟩] scope pos) 1 i2 acc env) env >>= fun _ => again (.compLoop (.ListComp elt [⟨.Name x px, it1, [], 0⟩, ⟨.Name y py, it2, [], 0⟩] scope pos) 0 it acc env))) := by rfl

theorem compStart_in {elt it2 : Expr} {g0 : Comprehension} {y : Str} {py : Pos} {scope : Scope} {pos : Pos} {it acc : Value} {env : Env}
    (h0 : codeAny (model pr w) A (.compLoop (.ListComp elt [g0, ⟨.Name y py, it2, [], 0⟩] scope pos) 1 it acc env) R s)
    (h : wpAny (model pr w) A (pyIter it) (fun it' s' => codeAny (model pr w) A (.compLoop (.ListComp elt [g0, ⟨.Name y py, it2, [], 0⟩] scope pos) 1 it' acc env) R s')
      (notedBy (model pr w) A env fun x s' => R (.error x) s') s) :
    codeAny (model pr w) A (.compStart (.ListComp elt [g0, ⟨.Name y py, it2, [], 0⟩] scope pos) 1 it acc env) R s := by
  refine codeAny_of_tree ?_
  show wpAny _ _ ((compStart (.ListComp elt [g0, ⟨.Name y py, it2, [], 0⟩] scope pos) 1 it acc env).onRaise (fun x => do noteFrame x env; standAt theWindowsPlace)) _ _ s
  refine wpAny_notedAt ?_
  unfold compStart
  show wpAny _ _ (ask >>= _) _ _ s
  refine wpAny_bind (wpAny_askSetting (wpAny_ite ?_))
  split
  · first
      | exact wpAny_bind (wpAny_pure (wpAny_pure (And.intro rfl h0)))
      | exact wpAny_pure (And.intro rfl h0)
  · first
      | exact wpAny_bind (wpAny_rule (wpAny_bind (wpAny_standAt (wpAny_bind (wpAny_mono h (fun it' s' h' => wpAny_pure (And.intro rfl h')) fun _ _ x => x)))))
      | (refine wpAny_bind (wpAny_rule ?_); show wpAny _ _ (standAt it2.pos >>= _) _ _ s; exact wpAny_bind (wpAny_standAt (wpAny_bind (wpAny_mono h (fun it' s' h' => wpAny_pure (And.intro rfl h')) fun _ _ x => x))))

theorem loop_in {elt it2 : Expr} {g0 : Comprehension} {y : Str} {py : Pos} {scope : Scope} {pos : Pos} {I D ax cs : Addr} {cenv : Env} {b : Nat → Bool} {s0 : Bool} {ys₀ : Array Value} {P : Prop} {m : Str → Option Value} (hh : A.handled = none)
    (hx : cenv.kindOf y = some .local) (hp : (cenv.scope.kind == .class || (cenv.scope.kind == .module && cenv.locals != cenv.globals)) = false)
    (hD : s.heap.PlainList D ys₀) (hn : s.heap.Ns cenv.locals m) (hI : s.heap.IsListIter I ax 0) (hl : s.heap.IsList ax (rowArr b)) (hcs : s.heap.IsCell cs (some (.bool s0)))
    (hDI : D ≠ I) (hDC : D ≠ cenv.locals) (hDa : D ≠ ax) (hIC : I ≠ cenv.locals) (hIa : ax ≠ I) (hCa : ax ≠ cenv.locals) (hcI : cs ≠ I) (hcC : cs ≠ cenv.locals) (hcD : cs ≠ D)
    (hsz : ys₀.size + 11 ≤ sizeLine) (hB : Bl ys₀ P)
    (helt : ∀ (t : Shared) (v : Bool) m E, t.heap.Ns cenv.locals m → m y = some (.bool v) → t.heap.IsCell cs (some (.bool s0)) → wpAny (model pr w) A (eval elt cenv) (fun z t' => z = .bool (v != s0) ∧ Keeps t t') E t)
    (hR : ∀ h' tk ys m', h'.PlainList D ys → h'.Ns cenv.locals m' → ys.size = ys₀.size + 11 → Bl ys (P ∧ ∀ q, q < 11 → b q = s0) → (∀ z o, z ∉ [I, cenv.locals, D] → s.heap.get? z = some o → h'.get? z = some o) → R (.ok .next) { s with heap := h', toks := tk }) :
    codeAny (model pr w) A (.compLoop (.ListComp elt [g0, ⟨.Name y py, it2, [], 0⟩] scope pos) 1 (.ref I) (.ref D) cenv) R s := by
  have W := Walks.list (prog := pr) (w := w) (A := A) hh I ax hIa (rowArr b)
  have hsize : (rowArr b).size = 11 := rfl
  rw [hsize] at W
  have nin : ∀ {z}, z ≠ I → z ≠ cenv.locals → z ≠ D → z ∉ [I, cenv.locals, D] := fun h1 h2 h3 hm => by
    rcases List.mem_cons.mp hm with e | hm
    · exact h1 e
    · rcases List.mem_cons.mp hm with e | hm
      · exact h2 e
      · exact h3 (List.mem_singleton.mp hm)
  refine codeAny_loop rfl (fun k s' => ∃ h' tk j ys m', s' = { s with heap := h', toks := tk } ∧ j ≤ 11 ∧ k = 12 - j ∧ (h'.IsListIter I ax j ∧ h'.IsList ax (rowArr b)) ∧ h'.PlainList D ys ∧ h'.Ns cenv.locals m' ∧ ys.size = ys₀.size + j ∧ Bl ys (P ∧ ∀ q, q < j → b q = s0) ∧
      (∀ z o, z ∉ [I, cenv.locals, D] → s.heap.get? z = some o → h'.get? z = some o)) ?_ 12 ⟨s.heap, s.toks, 0, ys₀, m, rfl, Nat.zero_le _, rfl, ⟨hI, hl⟩, hD, hn, rfl, hB.mono fun h => ⟨h, fun q hq => absurd hq (Nat.not_lt_zero _)⟩, fun _ _ _ e => e⟩
  rintro k s' ⟨H, tk, j, ys, m', rfl, hj, rfl, hst, hD', hn', hys, hB', hk⟩
  show wpAny _ A ((compTurn (.ListComp elt [g0, ⟨.Name y py, it2, [], 0⟩] scope pos) 1 (.ref I) (.ref D) cenv).onRaise (fun x => do noteFrame x cenv; theTreesLotGoes x)) _ _ _
  refine wpAny_noted ?_
  rw [compTurn_in]
  refine wpAny_bind (wpAny_standAt (wpAny_bind ?_))
  by_cases hlt : j < 11
  · refine W.item j _ _ _ hlt hst fun v h₁ tk₁ hPv hst₁ hk₁ => ?_
    have hv : v = .bool (b j) := by simpa [hlt] using hPv.symm
    subst hv
    refine wpAny_bind (wpAny_of_eq (rfl : letOwnedTupleGo (.Name y py) (.ref I) (.bool (b j)) = pure ()) ?_)
    have k₁ : ∀ z o, z ≠ I → H.get? z = some o → h₁.get? z = some o := fun z o hz e => hk₁ z o (by simpa using hz) e
    refine wpAny_bind (wpAny_assign_Name (wpAny_storeName_local hx (hn'.at' fun o e => k₁ _ o (Ne.symm hIC) e) (fun h₂ hn₂ hs₂ => ?_) hp))
    have k₂ : ∀ z o, z ≠ I → z ≠ cenv.locals → H.get? z = some o → h₂.get? z = some o := fun z o h1 h2 e => hs₂.extBut z o h2 (k₁ z o h1 e)
    have hc₂ : h₂.IsCell cs (some (.bool s0)) := by
      obtain ⟨o, ho, hd⟩ := hcs
      exact ⟨o, k₂ _ _ hcI hcC (hk _ _ (nin hcI hcC hcD) ho), hd⟩
    refine wpAny_bind (wpAny_bind (wpAny_mono (helt _ (b j) _ _ hn₂ (by simp) hc₂) (fun z s₃ h₃ => ?_) fun _ _ e => e))
    obtain ⟨rfl, h₃, tk₃, rfl, hk₃⟩ := h₃
    refine wpAny_bind (wpAny_list_append_plain (hsz := by omega) (hD'.at fun o e => hk₃ _ o (k₂ _ o hDI hDC e)) fun h₄ hl₄ hs₄ => ?_)
    refine wpAny_pure (wpAny_pure ⟨rfl, 12 - (j + 1), by omega, h₄, tk₃, j + 1, _, _, rfl, hlt, rfl, ?_, hl₄, (hn₂.keeps hk₃).sameBut hs₄ (Ne.symm hDC), by simp [hys]; omega, ?_, ?_⟩)
    · refine W.frame _ _ _ hst₁ fun z hz o e => ?_
      rcases List.mem_cons.mp hz with rfl | hz
      · exact hs₄.extBut _ o (Ne.symm hDI) (hk₃ _ o (hs₂.extBut _ o hIC e))
      · rw [List.mem_singleton] at hz; subst hz
        exact hs₄.extBut _ o (Ne.symm hDa) (hk₃ _ o (hs₂.extBut _ o hCa e))
    · refine hB'.push fun hb ⟨hP, hq⟩ => ⟨hP, fun q hq' => ?_⟩
      by_cases e : q < j
      · exact hq q e
      · have : q = j := by omega
        subst this
        simpa using hb
    · intro z o hz e
      have h1 : z ≠ I := fun q => hz (q ▸ List.mem_cons_self ..)
      have h2 : z ≠ cenv.locals := fun q => hz (q ▸ List.mem_cons_of_mem _ (List.mem_cons_self ..))
      have h3 : z ≠ D := fun q => hz (q ▸ List.mem_cons_of_mem _ (List.mem_cons_of_mem _ (List.mem_singleton.mpr rfl)))
      exact hs₄.extBut z o h3 (hk₃ z o (k₂ z o h1 h2 (hk z o hz e)))
  · have hj11 : j = 11 := by omega
    subst hj11
    refine W.done _ _ _ hst fun h₁ tk₁ hk₁ => ?_
    have k₁ : ∀ z o, z ≠ I → H.get? z = some o → h₁.get? z = some o := fun z o hz e => hk₁ z o (by simpa using hz) e
    refine wpAny_pure (hR h₁ tk₁ ys m' (hD'.at fun o e => k₁ _ o hDI e) (hn'.at' fun o e => k₁ _ o (Ne.symm hIC) e) hys hB' fun z o hz e => k₁ z o (fun q => hz (q ▸ List.mem_cons_self ..)) (hk z o hz e))
end
end Mine
end

section
open PySem PySem.W PySem.Calls PySem.Spec PyProof.Rows
set_option maxRecDepth 100000
set_option maxHeartbeats 4000000
namespace Mine
section
variable {w : World} {A : Around} {R : Result → Shared → Prop} {s : Shared}

theorem loop_out {elt it1 : Expr} {x y : Str} {px py p2 : Pos} {scope : Scope} {pos : Pos} {I D Dr cs : Addr} {cenv : Env} {r : Nat → Addr} {c : Nat → Nat → Bool} {s0 : Bool} {m : Str → Option Value} {hg : Heap} (hh : A.handled = none)
    (hk : cenv.scope.kind = .function) (hx : cenv.kindOf x = some .local) (hy : cenv.kindOf y = some .local) (hp : (cenv.scope.kind == .class || (cenv.scope.kind == .module && cenv.locals != cenv.globals)) = false) (hxd : (x == ("__debug__" : Str)) = false)
    (hD : s.heap.PlainList D #[]) (hn : s.heap.Ns cenv.locals m) (hI : s.heap.IsListIter I Dr 0) (G : Gd hg Dr r c) (hcs : hg.IsCell cs (some (.bool s0)))
    (hDI : D ≠ I) (hDC : D ≠ cenv.locals) (hIC : I ≠ cenv.locals) (off : ∀ z o, hg.get? z = some o → z ≠ I ∧ z ≠ cenv.locals ∧ z ≠ D) (kp : ∀ z o, hg.get? z = some o → s.heap.get? z = some o)
    (helt : ∀ (t : Shared) (v : Bool) m E, t.heap.Ns cenv.locals m → m y = some (.bool v) → t.heap.IsCell cs (some (.bool s0)) → wpAny (model pr w) A (eval elt cenv) (fun z t' => z = .bool (v != s0) ∧ Keeps t t') E t)
    (hR : ∀ h' tk ys m', h'.PlainList D ys → h'.Ns cenv.locals m' → ys.size = 121 → Bl ys (∀ p, p < 11 → ∀ q, q < 11 → c p q = s0) → (∀ z o, z ∉ [I, cenv.locals, D] → s.heap.get? z = some o → h'.get? z = some o) → R (.ok .next) { s with heap := h', toks := tk }) :
    codeAny (model pr w) A (.compLoop (.ListComp elt [⟨.Name x px, it1, [], 0⟩, ⟨.Name y py, .Name x p2, [], 0⟩] scope pos) 0 (.ref I) (.ref D) cenv) R s := by
  have hDr : Dr ≠ I := by obtain ⟨o, ho, _⟩ := G.rows; exact (off _ _ ho).1
  have W := Walks.list (prog := pr) (w := w) (A := A) hh I Dr hDr ((List.range 11).map fun i => Value.ref (r i)).toArray
  have hsize : (((List.range 11).map fun i => Value.ref (r i)).toArray).size = 11 := rfl
  rw [hsize] at W
  have lists : ∀ {h : Heap} {l its}, (∀ z o, hg.get? z = some o → h.get? z = some o) → hg.IsList l its → h.IsList l its := fun k hl => hl.at fun o e => k _ o e
  refine codeAny_loop rfl (fun k s' => ∃ h' tk i ys m', s' = { s with heap := h', toks := tk } ∧ i ≤ 11 ∧ k = 12 - i ∧ (h'.IsListIter I Dr i ∧ h'.IsList Dr ((List.range 11).map fun i => Value.ref (r i)).toArray) ∧ h'.PlainList D ys ∧ h'.Ns cenv.locals m' ∧ ys.size = 11 * i ∧ Bl ys (∀ p, p < i → ∀ q, q < 11 → c p q = s0) ∧
      (∀ z o, hg.get? z = some o → h'.get? z = some o) ∧ (∀ z o, z ∉ [I, cenv.locals, D] → s.heap.get? z = some o → h'.get? z = some o)) ?_ 12
    ⟨s.heap, s.toks, 0, #[], m, rfl, Nat.zero_le _, rfl, ⟨hI, lists kp G.rows⟩, hD, hn, rfl, ⟨fun i y hy => by simp at hy, .inr fun p hp => absurd hp (Nat.not_lt_zero _)⟩, kp, fun _ _ _ e => e⟩
  rintro k s' ⟨H, tk, i, ys, m', rfl, hi, rfl, hst, hD', hn', hys, hB', hkg, hks⟩
  show wpAny _ A ((compTurn (.ListComp elt [⟨.Name x px, it1, [], 0⟩, ⟨.Name y py, .Name x p2, [], 0⟩] scope pos) 0 (.ref I) (.ref D) cenv).onRaise (fun x => do noteFrame x cenv; theTreesLotGoes x)) _ _ _
  refine wpAny_noted ?_
  rw [compTurn_out]
  refine wpAny_bind (wpAny_standAt (wpAny_bind ?_))
  by_cases hlt : i < 11
  · refine W.item i _ _ _ hlt hst fun v h₁ tk₁ hPv hst₁ hk₁ => ?_
    have hv : v = .ref (r i) := by simpa [hlt] using hPv.symm
    subst hv
    have k₁ : ∀ z o, z ≠ I → H.get? z = some o → h₁.get? z = some o := fun z o hz e => hk₁ z o (by simpa using hz) e
    refine wpAny_bind (wpAny_of_eq (rfl : letOwnedTupleGo (.Name x px) (.ref I) (.ref (r i)) = pure ()) ?_)
    refine wpAny_bind (wpAny_assign_Name (wpAny_storeName_local hx (hn'.at' fun o e => k₁ _ o (Ne.symm hIC) e) (fun h₂ hn₂ hs₂ => ?_) hp))
    have k₂ : ∀ z o, z ≠ I → z ≠ cenv.locals → H.get? z = some o → h₂.get? z = some o := fun z o h1 h2 e => hs₂.extBut z o h2 (k₁ z o h1 e)
    have kg₂ : ∀ z o, hg.get? z = some o → h₂.get? z = some o := fun z o e => k₂ z o (off z o e).1 (off z o e).2.1 (hkg z o e)
    refine wpAny_bind ?_
    refine nm_local (v := .ref (r i)) hk hx hn₂ (by simp) hxd ?_
    refine wpAny_bind (wpAny_standAt (wpAny_bind (wpAny_of_eq (rfl : foldedSetIterable (.Name x p2) cenv (.ref (r i)) = pure (.ref (r i))) ?_)))
    have hl₂ : h₂.IsList (r i) (rowArr (c i)) := lists kg₂ (G.cells i hlt)
    have hri : ∃ o, hg.get? (r i) = some o := let ⟨o, ho, _⟩ := G.cells i hlt; ⟨o, ho⟩
    obtain ⟨ori, hori⟩ := hri
    refine wpAny_bind (wpAny_holding (wpAny_pyIter_list hl₂ ?_))
    have up : ∀ z o, h₂.get? z = some o → (h₂.push { cls := .type "list_iterator", data := .fields #[.ref (r i), .int 0 0] }).get? z = some o := fun z o e => Heap.get?_push_of_some _ e
    have hD₂ : h₂.PlainList D ys := hD'.at fun o e => k₂ _ o hDI hDC e
    have hDlt : D < h₂.objs.size := by obtain ⟨_, e⟩ := hD₂; exact Heap.lt_size e
    have hClt : cenv.locals < h₂.objs.size := hn₂.lt
    have hrlt : r i < h₂.objs.size := Heap.lt_size (kg₂ _ _ hori)
    obtain ⟨oc, hoc, hdc⟩ := hcs
    have hclt : cs < h₂.objs.size := Heap.lt_size (kg₂ _ _ hoc)
    have hlp := fun (R' : Result → Shared → Prop) hR' => loop_in (w := w) (A := A) (R := R') (elt := elt) (it2 := .Name x p2) (g0 := ⟨.Name x px, it1, [], 0⟩) (y := y) (py := py) (scope := scope) (pos := pos) (I := h₂.objs.size) (D := D) (ax := r i) (cs := cs) (cenv := cenv) (b := c i) (s0 := s0) (ys₀ := ys) (P := ∀ p, p < i → ∀ q, q < 11 → c p q = s0)
      (s := { s with heap := h₂.push { cls := .type "list_iterator", data := .fields #[.ref (r i), .int 0 0] }, toks := tk₁ + 1 }) hh hy hp (hD₂.at fun o e => up _ o e) (hn₂.keeps up) ⟨_, Heap.get?_push_size _ rfl, rfl, rfl⟩ (hl₂.push _) ⟨oc, up _ _ (kg₂ _ _ hoc), hdc⟩
      (Nat.ne_of_lt hDlt) hDC (Ne.symm (off _ _ hori).2.2) (Nat.ne_of_gt hClt) (Nat.ne_of_lt hrlt) (off _ _ hori).2.1 (Nat.ne_of_lt hclt) (off _ _ hoc).2.1 (off _ _ hoc).2.2 (by rw [sizeLine_eq]; omega) hB' helt hR'
    refine wpAny_bind (wpAny_runOwn (compStart_in (hlp _ ?_) (wpAny_pyIter_listiter ⟨_, Heap.get?_push_size _ rfl, rfl, rfl⟩ (hlp _ ?_))))
    all_goals
      intro h₃ tk₃ zs m₃ hD₃ hn₃ hz₃ hB₃ hk₃
      have k₃ : ∀ z o, z ≠ h₂.objs.size → z ≠ cenv.locals → z ≠ D → h₂.get? z = some o → h₃.get? z = some o := fun z o h1 h2 h3 e => hk₃ z o (fun hm => by
        rcases List.mem_cons.mp hm with e | hm
        · exact h1 e
        · rcases List.mem_cons.mp hm with e | hm
          · exact h2 e
          · exact h3 (List.mem_singleton.mp hm)) (up z o e)
      have k₃' : ∀ z o, z ≠ cenv.locals → z ≠ D → h₂.get? z = some o → h₃.get? z = some o := fun z o h2 h3 e => k₃ z o (Nat.ne_of_lt (Heap.lt_size e)) h2 h3 e
      refine wpAny_pure ⟨rfl, 12 - (i + 1), by omega, h₃, tk₃, i + 1, zs, m₃, rfl, hlt, rfl, ⟨?_, ?_⟩, hD₃, hn₃, by omega, hB₃.mono fun ⟨h1, h2⟩ p hp q hq => ?_, fun z o e => k₃' z o (off z o e).2.1 (off z o e).2.2 (kg₂ z o e), fun z o hz e => ?_⟩
      · obtain ⟨o, ho, r'⟩ := hst₁.1
        exact ⟨o, k₃' _ _ hIC (Ne.symm hDI) (hs₂.extBut _ o hIC ho), r'⟩
      · exact lists (fun z o e => k₃' z o (off z o e).2.1 (off z o e).2.2 (kg₂ z o e)) G.rows
      · by_cases e : p < i
        · exact h1 p e q hq
        · have : p = i := by omega
          subst this
          exact h2 q hq
      · have h1 : z ≠ I := fun q => hz (q ▸ List.mem_cons_self ..)
        have h2 : z ≠ cenv.locals := fun q => hz (q ▸ List.mem_cons_of_mem _ (List.mem_cons_self ..))
        have h3 : z ≠ D := fun q => hz (q ▸ List.mem_cons_of_mem _ (List.mem_cons_of_mem _ (List.mem_singleton.mpr rfl)))
        exact k₃' z o h2 h3 (k₂ z o h1 h2 (hks z o hz e))
  · have hi11 : i = 11 := by omega
    subst hi11
    refine W.done _ _ _ hst fun h₁ tk₁ hk₁ => ?_
    have k₁ : ∀ z o, z ≠ I → H.get? z = some o → h₁.get? z = some o := fun z o hz e => hk₁ z o (by simpa using hz) e
    refine wpAny_pure (hR h₁ tk₁ ys m' (hD'.at fun o e => k₁ _ o hDI e) (hn'.at' fun o e => k₁ _ o (Ne.symm hIC) e) hys hB' fun z o hz e => k₁ z o (fun q => hz (q ▸ List.mem_cons_self ..)) (hks z o hz e))
end
end Mine
end

section
open PySem PySem.W PySem.Calls PySem.Spec PyProof.Rows
set_option maxRecDepth 100000
set_option maxHeartbeats 4000000
namespace Mine
theorem row_any {ys : Array Value} (h11 : ys.size = 11) {f : Nat → Value → Prop} {X : Heap} (h : ∀ j, j < 11 → ∃ y, ys[j]? = some y ∧ ItAt [] X (.inl (f j)) y) (hf : ∀ j y, f j y → ∃ b, y = Value.bool b) : ∃ b, ys = rowArr b ∧ ∀ j, j < 11 → f j (.bool (b j)) := by
  have h' : ∀ j, ∃ b : Bool, j < 11 → ys[j]? = some (.bool b) ∧ f j (.bool b) := fun j => by
    by_cases hj : j < 11
    · obtain ⟨y, hy, hI⟩ := h j hj
      obtain ⟨b, rfl⟩ := hf j y hI
      exact ⟨b, fun _ => ⟨hy, hI⟩⟩
    · exact ⟨true, fun q => absurd q hj⟩
  refine ⟨fun j => (h' j).choose, ?_, fun j hj => ((h' j).choose_spec hj).2⟩
  apply Array.ext_getElem?
  intro j
  by_cases hj : j < 11
  · rw [((h' j).choose_spec hj).1]; simp [rowArr, hj]
  · rw [Array.getElem?_eq_none (by omega), Array.getElem?_eq_none (by show 11 ≤ j; omega)]

theorem gd_of {h : Heap} {D : Addr} {ys : Array Value} (hl : h.IsList D ys) (h11 : ys.size = 11) {P : Nat → (Nat → Bool) → Prop} {X : List Addr} (hit : ∀ j, j < 11 → ∃ y, ys[j]? = some y ∧ ItAt X h (.inr fun its => ∃ b, its = rowArr b ∧ P j b) y) : ∃ r c, Gd h D r c ∧ ∀ i, i < 11 → P i (c i) := by
  have h' : ∀ j, ∃ T : Addr, ∃ b : Nat → Bool, j < 11 → ys[j]? = some (.ref T) ∧ h.IsList T (rowArr b) ∧ P j b := fun j => by
    by_cases hj : j < 11
    · obtain ⟨y, hy, T, its, rfl, _, hT, b, rfl, hP⟩ := hit j hj
      exact ⟨T, b, fun _ => ⟨hy, hT, hP⟩⟩
    · exact ⟨0, fun _ => true, fun q => absurd q hj⟩
  refine ⟨fun j => (h' j).choose, fun j => (h' j).choose_spec.choose, ⟨?_, fun i hi => ((h' i).choose_spec.choose_spec hi).2.1⟩, fun i hi => ((h' i).choose_spec.choose_spec hi).2.2⟩
  have : ys = ((List.range 11).map fun i => Value.ref ((h' i).choose)).toArray := by
    apply Array.ext_getElem?
    intro j
    by_cases hj : j < 11
    · rw [((h' j).choose_spec.choose_spec hj).1]; simp [hj]
    · rw [Array.getElem?_eq_none (by omega), Array.getElem?_eq_none (by show 11 ≤ j; omega)]
  rw [← this]; exact hl

section
variable {w : World} {A : Around} {E : Value → Shared → Prop} {env : Env} {s : Shared}

theorem eval_two {elt it1 : Expr} {x y : Str} {px py p2 : Pos} {scope : Scope} {cl : List (Str × Addr)} {pos : Pos} {Dr cs : Addr} {r : Nat → Addr} {c : Nat → Nat → Bool} {s0 : Bool} (hh : A.handled = none)
    (hclos : closureFor scope env = pure cl) (hcell : ∀ y ∈ scope.names, y.2 ≠ .cell) (hkind : scope.kind = .function)
    (hnames : ∀ y ∈ scope.names, y.2 = .local → scope.names.lookup y.1 = some .local) (hx : scope.names.lookup x = some .local) (hy : scope.names.lookup y = some .local) (hxd : (x == ("__debug__" : Str)) = false)
    (h : ∀ Q : Value → Shared → Prop, Q (.ref Dr) s → wpAny (model pr w) A (eval it1 env) Q E s) (G : Gd s.heap Dr r c) (hcs : s.heap.IsCell cs (some (.bool s0)))
    (helt : ∀ C (t : Shared) (v : Bool) m E, t.heap.Ns C m → m y = some (.bool v) → t.heap.IsCell cs (some (.bool s0)) → wpAny (model pr w) A (eval elt (compEnvC scope cl C env)) (fun z t' => z = .bool (v != s0) ∧ Keeps t t') E t)
    (hs : ∀ x, foldedSetIterable it1 env x = pure x := by intro _; rfl) :
    wpAny (model pr w) A (eval (.ListComp elt [⟨.Name x px, it1, [], 0⟩, ⟨.Name y py, .Name x p2, [], 0⟩] scope pos) env)
      (fun y s' => ∃ D ys, y = .ref D ∧ s'.heap.IsList D ys ∧ ys.size = 121 ∧ Bl ys (∀ p, p < 11 → ∀ q, q < 11 → c p q = s0) ∧ Keeps s s') E s := by
  rw [eval_ListComp]
  refine wpAny_comprehension_free (use := none) rfl hs hclos hkind hnames (h _ (wpAny_pyIter_list G.rows ?_))
  have hDrlt : Dr < s.heap.objs.size := by obtain ⟨_, e, _⟩ := G.rows; exact Heap.lt_size e
  refine wpAny_newObj_type (wpAny_newFunctionEnv hcell (by intro y hy; simp at hy) (fun h₁ hns₁ hsb₁ => ?_) hkind)
  dsimp only at hns₁ hsb₁ ⊢
  generalize hH1 : s.heap.push { cls := .type "list_iterator", data := .fields #[.ref Dr, .int 0 0] } = H1 at hns₁ hsb₁ ⊢
  have hH1s : H1.objs.size = s.heap.objs.size + 1 := by rw [← hH1, Heap.size_push]
  generalize hH2 : H1.push { cls := .type "list", dict := none, data := .seq ([] : List Value).toArray } = H2 at hns₁ hsb₁ ⊢
  have hC : H2.objs.size = s.heap.objs.size + 2 := by rw [← hH2, Heap.size_push, hH1s]
  have up1 : ∀ b o, s.heap.get? b = some o → H1.get? b = some o := fun b o e => hH1 ▸ Heap.get?_push_of_some _ e
  have up2 : ∀ b o, H1.get? b = some o → H2.get? b = some o := fun b o e => hH2 ▸ Heap.get?_push_of_some _ e
  have up3 : ∀ b o, H2.get? b = some o → h₁.get? b = some o := fun b o e => hsb₁.extBut b o (Nat.ne_of_lt (Heap.lt_size e)) (Heap.get?_push_of_some _ e)
  have old : ∀ b o, s.heap.get? b = some o → h₁.get? b = some o := fun b o e => up3 _ _ (up2 _ _ (up1 _ _ e))
  have hacc : h₁.PlainList H1.objs.size #[] := ⟨_, up3 _ _ (hH2 ▸ Heap.get?_push_size _ rfl)⟩
  have hit : h₁.IsListIter s.heap.objs.size Dr 0 := ⟨_, up3 _ _ (up2 _ _ (hH1 ▸ Heap.get?_push_size _ rfl)), rfl, rfl⟩
  have off : ∀ z o, s.heap.get? z = some o → z ≠ s.heap.objs.size ∧ z ≠ H2.objs.size ∧ z ≠ H1.objs.size := fun z o e => by
    have hz := Heap.lt_size e
    refine ⟨Nat.ne_of_lt hz, Nat.ne_of_lt ?_, Nat.ne_of_lt ?_⟩
    · rw [hC]; exact Nat.lt_of_lt_of_le hz (Nat.le_add_right _ _)
    · rw [hH1s]; exact Nat.lt_succ_of_lt hz
  have hDI : H1.objs.size ≠ s.heap.objs.size := by rw [hH1s]; exact Nat.succ_ne_self _
  have hDC : H1.objs.size ≠ H2.objs.size := by rw [hC, hH1s]; exact Nat.ne_of_lt (Nat.lt_succ_self _)
  have hIC : s.heap.objs.size ≠ H2.objs.size := by rw [hC]; exact Nat.ne_of_lt (Nat.lt_add_of_pos_right (by decide))
  have loop : ∀ (s₃ : Shared) tk, s₃ = { s with heap := h₁, toks := tk } →
      codeAny (model pr w) A (.compLoop (.ListComp elt [⟨.Name x px, it1, [], 0⟩, ⟨.Name y py, .Name x p2, [], 0⟩] scope pos) 0 (.ref s.heap.objs.size) (.ref H1.objs.size) (compEnvC scope cl H2.objs.size env))
        (compPost (model pr w) A E none (fun y s' => ∃ D ys, y = .ref D ∧ s'.heap.IsList D ys ∧ ys.size = 121 ∧ Bl ys (∀ p, p < 11 → ∀ q, q < 11 → c p q = s0) ∧ Keeps s s') (.ref H1.objs.size) H2.objs.size) s₃ := by
    rintro s₃ tk rfl
    refine loop_out (hg := s.heap) (cs := cs) (s0 := s0) hh hkind (lookup_relabel_local hx) (lookup_relabel_local hy) (by simp [compEnvC, relabel, hkind]) hxd hacc hns₁ hit G hcs hDI hDC hIC off old
      (fun t v m E hn hm hc => helt _ t v m E hn hm hc) ?_
    intro h' tk' ys m' hD' hn' hys hB hk
    refine ⟨m', hn', fun h'' hs'' => ⟨_, ys, rfl, hD'.isList.extBut hs''.extBut hDC, hys, hB, h'', tk', rfl, fun b o e => hs''.extBut b o (off b o e).2.1 (hk b o (fun hm => ?_) (old b o e))⟩⟩
    rcases List.mem_cons.mp hm with q | hm
    · exact (off b o e).1 q
    · rcases List.mem_cons.mp hm with q | hm
      · exact (off b o e).2.1 q
      · exact (off b o e).2.2 (List.mem_singleton.mp hm)
  exact codeAny_compStart_list (loop _ _ rfl) (wpAny_pyIter_listiter hit (loop _ _ rfl))

theorem any_bl {D : Addr} {ys : Array Value} {P : Prop} {Q : Value → Shared → Prop} (hh : A.handled = none) (hl : s.heap.IsList D ys) (hB : Bl ys P) (h : ∀ b h' tk, (b = false → P) → (∀ z o, s.heap.get? z = some o → h'.get? z = some o) → Q (.bool b) { s with heap := h', toks := tk }) :
    wpAny (model pr w) A (call (.builtin "any") [.ref D]) Q E s := by
  have hlt : D < s.heap.objs.size := by obtain ⟨_, e, _⟩ := hl; exact Heap.lt_size e
  refine call_any_walkS (wpAny_pyIter_list hl ?_)
  have W := Walks.list (prog := pr) (w := w) (A := A.in1) hh s.heap.objs.size D (Nat.ne_of_lt hlt) ys
  refine ⟨s.heap.objs.size, _, _, _, _, _, _, fun i => match ys[i]? with | some (.bool b) => b | _ => false, rfl, W.toS, ⟨⟨_, Heap.get?_push_size _ rfl, rfl, rfl⟩, hl.push _⟩, ?_, ?_⟩
  · intro i v t Q E hP hQ
    obtain ⟨b, rfl⟩ := hB.1 i v hP
    have hP' : ys[i]? = some (.bool b) := hP
    simp only [hP'] at hQ
    exact wpAny_truthy_bool hQ
  · intro s' hm
    have e : s' = { s with heap := s'.heap, toks := s'.toks } := by
      obtain ⟨h', g', d', tk', o'⟩ := s'
      have e1 : d' = s.drawn := hm.drawn
      have e2 : o' = s.os := hm.os
      have e3 : g' = s.gens := hm.gens
      subst e1; subst e2; subst e3; rfl
    rw [e]
    refine h _ _ _ (fun hb => ?_) fun z o ez => hm.heap z o (fun hz => ?_) (Heap.get?_push_of_some _ ez)
    · rcases hB.2 with ⟨i, hi⟩ | hP
      · exfalso
        have hi' : i < ys.size := by
          rcases Nat.lt_or_ge i ys.size with q | q
          · exact q
          · rw [Array.getElem?_eq_none q] at hi; cases hi
        have := List.any_eq_false.mp hb i (List.mem_range.mpr hi')
        simp [hi] at this
      · exact hP
    · rw [List.mem_singleton] at hz
      have := Heap.lt_size ez
      rw [hz] at this
      exact Nat.lt_irrefl _ this
end
end Mine
end

section
open PySem PySem.W PySem.Calls PySem.Spec PyProof.Rows
set_option maxRecDepth 100000
set_option maxHeartbeats 4000000
namespace Mine
/-- the names of the law's own frame -/
structure LEnv (env : Env) (cS cZ cR cG : Addr) : Prop where
  hk : env.scope.kind = .function
  kS : env.kindOf (Str.ofString "script") = some .cell
  kZ : env.kindOf (Str.ofString "size") = some .cell
  kR : env.kindOf (Str.ofString "rows") = some .cell
  kG : env.kindOf (Str.ofString "sign") = some .cell
  kT : env.kindOf (Str.ofString "turned") = some .local
  kr : env.kindOf (Str.ofString "range") = some .globalImplicit
  lS : env.cells.lookup (Str.ofString "script") = some cS
  lZ : env.cells.lookup (Str.ofString "size") = some cZ
  lR : env.cells.lookup (Str.ofString "rows") = some cR
  lG : env.cells.lookup (Str.ofString "sign") = some cG
  hg : env.globals = mainGlobals
  hb : env.builtins = builtinsNs

abbrev fsc (names : List (Str × NameKind)) : Scope := { kind := ScopeKind.function, names := names, isGenerator := false, isCoroutine := false }
abbrev n93a : List (Str × NameKind) := [(Str.ofString ".0", .local), (Str.ofString "k", .cell), (Str.ofString "range", .globalImplicit), (Str.ofString "script", .free), (Str.ofString "size", .free)]
abbrev n93b : List (Str × NameKind) := [(Str.ofString ".0", .local), (Str.ofString "j", .local), (Str.ofString "_law_number", .globalImplicit), (Str.ofString "k", .free), (Str.ofString "script", .free)]
abbrev n94a : List (Str × NameKind) := [(Str.ofString ".0", .local), (Str.ofString "j", .cell), (Str.ofString "range", .globalImplicit), (Str.ofString "rows", .free), (Str.ofString "size", .free)]
abbrev n94b : List (Str × NameKind) := [(Str.ofString ".0", .local), (Str.ofString "k", .local), (Str.ofString "j", .free), (Str.ofString "rows", .free)]

section
variable {env : Env} {cS cZ cR cG : Addr}
theorem clos93a (L : LEnv env cS cZ cR cG) : closureFor (fsc n93a) env = pure [(Str.ofString "size", cZ), (Str.ofString "script", cS)] := by
  have e1 : cellOf env (Str.ofString "script") = pure cS := by unfold cellOf; rw [L.lS]
  have e2 : cellOf env (Str.ofString "size") = pure cZ := by unfold cellOf; rw [L.lZ]
  simp only [closureFor, fsc, n93a, n94a, List.forIn_cons, List.forIn_nil, e1, e2]
  rfl
theorem clos94a (L : LEnv env cS cZ cR cG) : closureFor (fsc n94a) env = pure [(Str.ofString "size", cZ), (Str.ofString "rows", cR)] := by
  have e1 : cellOf env (Str.ofString "rows") = pure cR := by unfold cellOf; rw [L.lR]
  have e2 : cellOf env (Str.ofString "size") = pure cZ := by unfold cellOf; rw [L.lZ]
  simp only [closureFor, fsc, n93a, n94a, List.forIn_cons, List.forIn_nil, e1, e2]
  rfl
theorem rel93a (L : LEnv env cS cZ cR cG) : relabel (fsc n93a) env = fsc [(Str.ofString ".0", .local), (Str.ofString "k", .cell), (Str.ofString "range", .globalImplicit), (Str.ofString "script", .cell), (Str.ofString "size", .cell)] := by
  simp [relabel, L.hk, L.kS, L.kZ, fsc]
theorem rel94a (L : LEnv env cS cZ cR cG) : relabel (fsc n94a) env = fsc [(Str.ofString ".0", .local), (Str.ofString "j", .cell), (Str.ofString "range", .globalImplicit), (Str.ofString "rows", .cell), (Str.ofString "size", .cell)] := by
  simp [relabel, L.hk, L.kR, L.kZ, fsc]
/-- the environment of a comprehension of the law, written out -/
theorem env93a (L : LEnv env cS cZ cR cG) (cl : List (Str × Addr)) (C : Addr) : compEnvC (fsc n93a) cl C env = { scope := fsc [(Str.ofString ".0", .local), (Str.ofString "k", .cell), (Str.ofString "range", .globalImplicit), (Str.ofString "script", .cell), (Str.ofString "size", .cell)], locals := C, globals := mainGlobals, cells := cl, qual := env.qual, func := none, code := env.code, frame := env.frame, builtins := builtinsNs } := by
  unfold compEnvC
  rw [rel93a L, L.hg, L.hb]
theorem env94a (L : LEnv env cS cZ cR cG) (cl : List (Str × Addr)) (C : Addr) : compEnvC (fsc n94a) cl C env = { scope := fsc [(Str.ofString ".0", .local), (Str.ofString "j", .cell), (Str.ofString "range", .globalImplicit), (Str.ofString "rows", .cell), (Str.ofString "size", .cell)], locals := C, globals := mainGlobals, cells := cl, qual := env.qual, func := none, code := env.code, frame := env.frame, builtins := builtinsNs } := by
  unfold compEnvC
  rw [rel94a L, L.hg, L.hb]

variable {w : World} {A : Around} {E : Value → Shared → Prop} {s : Shared} {mg mb : Str → Option Value}

theorem sz11 : 11 ≤ sizeLine := by rw [sizeLine_eq]; omega

theorem lc_rows {sc : Addr} {vs : List Value} {ns : List Int} {tz : Tok} {p1 p2 p3 p4 p5 p6 p7 p8 p9 p10 p11 p12 q1 q2 q3 q4 q5 q6 q7 q8 q9 q10 : Pos} (L : LEnv env cS cZ cR cG) (B : Bs w mg mb s.heap) (hL : s.heap.IsList sc vs.toArray) (hi : IntsAre vs ns) (hlen : ns.length ≤ 63)
    (hh : A.handled = none) (hd : A.depth + 6 < recursionLimit) (hu : A.units + 100 < cLine) (hS : s.heap.IsCell cS (some (.ref sc))) (hZ : s.heap.IsCell cZ (some (.int 11 tz))) (hr : mg (Str.ofString "range") = none) (hn : mg (Str.ofString "_law_number") = some (.ref 56)) (hkeep : keepIn (Mine.hd.heap_39 w.params) (.ref 56) = true) :
    wpAny (model pr w) A (eval (.ListComp (.ListComp (.Compare (.BinOp (.BinOp (.Call (.Name (Str.ofString "_law_number") p1) [.Name (Str.ofString "script") p2, .Name (Str.ofString "k") p3] [] p4) .FloorDiv (.BinOp (.Constant (.int 2) 0 p5) .Pow (.Name (Str.ofString "j") p6) p7) p8) .Mod (.Constant (.int 2) 0 p9) p10) [.Eq] [.Constant (.int 1) 0 p11] p12)
        [⟨.Name (Str.ofString "j") q1, .Call (.Name (Str.ofString "range") q2) [.Name (Str.ofString "size") q3] [] q4, [], 0⟩] (fsc n93b) q5) [⟨.Name (Str.ofString "k") q6, .Call (.Name (Str.ofString "range") q7) [.Name (Str.ofString "size") q8] [] q9, [], 0⟩] (fsc n93a) q10) env)
      (fun y s' => ∃ D r c, y = .ref D ∧ s.heap.get? D = none ∧ Gd s'.heap D r c ∧ Keeps s s') E s := by
  refine wpAny_mono (eval_cell (n := 11) (P := fun i v => ∃ t, v = .int (i : Int) t) hh sz11 (fun _ => .inr fun its => ∃ b, its = rowArr b ∧ True) (clos93a L) (fun h => rfl) (fun k => rfl) rfl (by decide) (by rw [rel93a L]; rfl)
    (iter_range B.T L.hg L.hb L.hk L.kr L.kZ L.lZ hZ hr) (fun C c i v t m₃ E' hi11 hP hC hc hk => ?_)) (fun y s' h => ?_) fun _ _ e => e
  · obtain ⟨t1, rfl⟩ := hP
    rw [env93a L]
    have Bt := B.keeps hk
    have hZt : t.heap.IsCell cZ (some (.int 11 tz)) := hZ.keeps hk
    refine wpAny_mono (eval_loc (n := 11) (P := fun i v => ∃ t, v = .int (i : Int) t) hh sz11 (fun _ => .inl fun y => ∃ b, y = .bool b) (cl := [(Str.ofString "script", cS), (Str.ofString "k", c)]) rfl (by decide) rfl (by decide) rfl
      (iter_range (cz := cZ) Bt.T rfl rfl rfl rfl rfl rfl hZt hr) (fun C2 j v2 t2 m4 E2 hj11 hP2 hC2 hm2 hk2 => ?_)) (fun y s' h => ?_) fun _ _ e => e
    · obtain ⟨t3, rfl⟩ := hP2
      have Bt2 := Bt.keeps hk2
      exact elt_num (csc := cS) (ck := c) (k := i) (j := j) Bt2.X Bt2.T ((hL.at fun o e => hk _ o e).at fun o e => hk2 _ o e) hi hlen hh hd hu rfl rfl rfl rfl rfl rfl rfl rfl ((hS.keeps hk).keeps hk2) (hc.keeps hk2) hC2 hm2 hi11 hj11 hn hkeep
    · obtain ⟨D, ys, rfl, hD, hl, h11, hit, K⟩ := h
      obtain ⟨b, rfl, _⟩ := row_any h11 hit (fun _ _ q => q)
      exact ⟨⟨D, _, rfl, hD, hl, b, rfl, trivial⟩, K⟩
  · obtain ⟨D, ys, rfl, hD, hl, h11, hit, K⟩ := h
    obtain ⟨r, c, G, _⟩ := gd_of (P := fun _ _ => True) hl h11 hit
    exact ⟨D, r, c, rfl, hD, G, K⟩

theorem lc_turned {D₀ : Addr} {r₀ : Nat → Addr} {c : Nat → Nat → Bool} {tz : Tok} {m : Str → Option Value} {Q : Flow → Shared → Prop} {p1 p2 p3 p4 p5 q1 q2 q3 q4 q5 q6 q7 q8 q9 q10 py spos : Pos} (L : LEnv env cS cZ cR cG) (B : Bs w mg mb s.heap) (G : Gd s.heap D₀ r₀ c)
    (hh : A.handled = none) (hR : s.heap.IsCell cR (some (.ref D₀))) (hZ : s.heap.IsCell cZ (some (.int 11 tz))) (hr : mg (Str.ofString "range") = none) (hn : s.heap.Ns env.locals m)
    (hsw : swapsWith (.ListComp (.ListComp (.Subscript (.Subscript (.Name (Str.ofString "rows") p1) (.Name (Str.ofString "k") p2) p3) (.Name (Str.ofString "j") p4) p5)
        [⟨.Name (Str.ofString "k") q1, .Call (.Name (Str.ofString "range") q2) [.Name (Str.ofString "size") q3] [] q4, [], 0⟩] (fsc n94b) q5) [⟨.Name (Str.ofString "j") q6, .Call (.Name (Str.ofString "range") q7) [.Name (Str.ofString "size") q8] [] q9, [], 0⟩] (fsc n94a) q10) (some (.Name (Str.ofString "turned") py)) spos.line env = pure true)
    (hQ : ∀ D r h' tk, s.heap.get? D = none → D ≠ env.locals → Gd h' D r (fun i j => c j i) → h'.Ns env.locals (fun z => if z = Str.ofString "turned" then some (.ref D) else m z) → (∀ b o, b ≠ env.locals → s.heap.get? b = some o → h'.get? b = some o) → Q .next { s with heap := h', toks := tk }) :
    wpAny (model pr w) A (exec (.Assign [.Name (Str.ofString "turned") py] (.ListComp (.ListComp (.Subscript (.Subscript (.Name (Str.ofString "rows") p1) (.Name (Str.ofString "k") p2) p3) (.Name (Str.ofString "j") p4) p5)
        [⟨.Name (Str.ofString "k") q1, .Call (.Name (Str.ofString "range") q2) [.Name (Str.ofString "size") q3] [] q4, [], 0⟩] (fsc n94b) q5) [⟨.Name (Str.ofString "j") q6, .Call (.Name (Str.ofString "range") q7) [.Name (Str.ofString "size") q8] [] q9, [], 0⟩] (fsc n94a) q10) spos) env) Q E s := by
  refine assign_cell (n := 11) (P := fun i v => ∃ t, v = .int (i : Int) t) hh sz11 (fun j => .inr fun its => ∃ b, its = rowArr b ∧ ∀ i, i < 11 → b i = c i j) hsw (clos94a L) (fun h => rfl) (fun k => rfl) rfl (by decide) (by rw [rel94a L]; rfl) L.kT (by simp [L.hk]) hn
    (iter_range B.T L.hg L.hb L.hk L.kr L.kZ L.lZ hZ hr) (fun C c' j v t m₃ E' hj11 hP hC hc hk => ?_) (fun D ys h' tk hD hl h11 hit hn' hk => ?_)
  · obtain ⟨t1, rfl⟩ := hP
    rw [env94a L]
    have Bt := B.keeps hk
    have hZt : t.heap.IsCell cZ (some (.int 11 tz)) := hZ.keeps hk
    refine wpAny_mono (eval_loc (n := 11) (P := fun i v => ∃ t, v = .int (i : Int) t) hh sz11 (fun i => .inl fun y => y = .bool (c i j)) (cl := [(Str.ofString "rows", cR), (Str.ofString "j", c')]) rfl (by decide) rfl (by decide) rfl
      (iter_range (cz := cZ) Bt.T rfl rfl rfl rfl rfl rfl hZt hr) (fun C2 i v2 t2 m4 E2 hi11 hP2 hC2 hm2 hk2 => ?_)) (fun y s' h => ?_) fun _ _ e => e
    · obtain ⟨t3, rfl⟩ := hP2
      exact elt_idx (cr := cR) (cj := c') rfl rfl rfl rfl rfl rfl hC2 hm2 ((hR.keeps hk).keeps hk2) (hc.keeps hk2) ((G.keeps hk).keeps hk2) hi11 hj11
    · obtain ⟨D, ys, rfl, hD, hl, h11, hit, K⟩ := h
      obtain ⟨b, rfl, hb⟩ := row_any h11 hit (fun i _ q => ⟨c i j, q⟩)
      exact ⟨⟨D, _, rfl, hD, hl, b, rfl, fun i hi => Value.bool.inj (hb i hi)⟩, K⟩
  · obtain ⟨r, c', G', hc'⟩ := gd_of (P := fun j b => ∀ i, i < 11 → b i = c i j) hl h11 hit
    refine hQ D r h' tk hD (fun q => ?_) ⟨G'.rows, fun i hi => ?_⟩ hn' hk
    · obtain ⟨o, _, _, ho, _⟩ := hn
      rw [← q, hD] at ho; cases ho
    · have := G'.cells i hi
      have e : ((List.range 11).map fun j => Value.bool (c' i j)) = ((List.range 11).map fun j => Value.bool (c j i)) := List.map_congr_left fun j hj => by rw [hc' i hi j (List.mem_range.mp hj)]
      rw [e] at this
      exact this
end
end Mine
end

section
open PySem PySem.W PySem.Calls PySem.Spec PyProof.Rows
set_option maxRecDepth 100000
set_option maxHeartbeats 4000000
namespace Mine
/-- the law's own state, both squares built -/
structure LS (w : World) (mg mb : Str → Option Value) (hb : Heap) (env : Env) (cZ cR cG D Dt : Addr) (r rt : Nat → Addr) (c : Nat → Nat → Bool) (h : Heap) (m : Str → Option Value) : Prop where
  bs : Bs w mg mb hb
  kp : Kp hb h
  ln : hb.get? env.locals = none
  gn : hb.get? cG = none
  ns : h.Ns env.locals m
  z : ∃ tz, h.IsCell cZ (some (.int 11 tz))
  R : h.IsCell cR (some (.ref D))
  G : ∃ v, h.IsCell cG v
  gr : Gd h D r c
  gt : Gd h Dt rt (fun i j => c j i)
  zg : cZ ≠ cG
  rg : cR ≠ cG

section
variable {w : World} {A : Around} {E : Value → Shared → Prop} {s : Shared} {mg mb m m' : Str → Option Value} {hb h h' : Heap} {env : Env} {cS cZ cR cG D Dt : Addr} {r rt : Nat → Addr} {c : Nat → Nat → Bool}

theorem gd_pres {a : Addr} {r : Nat → Addr} {c : Nat → Nat → Bool} (G : Gd h a r c) (k : ∀ l its, h.IsList l its → h'.IsList l its) : Gd h' a r c := ⟨k _ _ G.rows, fun i hi => k _ _ (G.cells i hi)⟩

theorem LS.base (S : LS w mg mb hb env cZ cR cG D Dt r rt c h m) : Bs w mg mb h := S.bs.step S.kp
theorem LS.keeps (S : LS w mg mb hb env cZ cR cG D Dt r rt c h m) (k : ∀ b o, h.get? b = some o → h'.get? b = some o) : LS w mg mb hb env cZ cR cG D Dt r rt c h' m :=
  ⟨S.bs, S.kp.trans (.of S.kp.tab k), S.ln, S.gn, S.ns.keeps k, let ⟨tz, x⟩ := S.z; ⟨tz, x.keeps k⟩, S.R.keeps k, let ⟨v, x⟩ := S.G; ⟨v, x.keeps k⟩, S.gr.keeps k, S.gt.keeps k, S.zg, S.rg⟩
theorem LS.call (S : LS w mg mb hb env cZ cR cG D Dt r rt c h m) (k : Kp h h') : LS w mg mb hb env cZ cR cG D Dt r rt c h' m := by
  obtain ⟨ps, _, _, ht⟩ := S.kp.tab
  have k' : ∀ b o, h.get? b = some o → o.data ≠ .fields ps → h'.get? b = some o := fun b o e hd => k.keep b o (fun q => by rw [q, ht.2] at e; cases e; exact hd rfl) e
  have cell : ∀ {a v}, h.IsCell a v → h'.IsCell a v := fun ⟨o, ho, hd⟩ => ⟨o, k' _ _ ho (by rw [hd]; intro q; cases q), hd⟩
  have ns : h'.Ns env.locals m := by
    obtain ⟨o, es, ep, ho, hd, r⟩ := S.ns
    exact ⟨o, es, ep, k' _ _ ho (by rw [hd]; intro q; cases q), hd, r⟩
  exact ⟨S.bs, S.kp.trans k, S.ln, S.gn, ns, let ⟨tz, x⟩ := S.z; ⟨tz, cell x⟩, cell S.R, let ⟨v, x⟩ := S.G; ⟨v, cell x⟩, S.gr.step S.kp.tab k, S.gt.step S.kp.tab k, S.zg, S.rg⟩
theorem LS.frame (S : LS w mg mb hb env cZ cR cG D Dt r rt c h m) (hs : Heap.SameBut env.locals h h') (hn : h'.Ns env.locals m') : LS w mg mb hb env cZ cR cG D Dt r rt c h' m' := by
  obtain ⟨oL, es, ep, hoL, hdL, _⟩ := S.ns
  have cell : ∀ {a v}, h.IsCell a v → h'.IsCell a v := fun x => x.sameBut hs (fun q => by
    obtain ⟨o, ho, hd⟩ := x
    rw [q, hoL] at ho; cases ho; rw [hdL] at hd; cases hd)
  have list : ∀ l its, h.IsList l its → h'.IsList l its := fun l its x => x.extBut hs.extBut (fun q => by
    obtain ⟨o, ho, _, _, hd⟩ := x
    rw [q, hoL] at ho; cases ho; rw [hdL] at hd; cases hd)
  have old : ∀ b o, b ≠ env.locals → h.get? b = some o → h'.get? b = some o := fun b o hb e => hs.extBut b o hb e
  have n23 : ∀ {b : Addr} {o}, hb.get? b = some o → b ≠ env.locals := fun e q => by rw [q, S.ln] at e; cases e
  obtain ⟨ps, hps, hc, ht⟩ := S.kp.tab
  have h27 : (27 : Addr) ≠ env.locals := by
    obtain ⟨_, _, hcc, _⟩ := S.bs.S
    exact n23 hcc.choose_spec.choose_spec.choose_spec.choose_spec.choose_spec.choose_spec.choose_spec.choose_spec.choose_spec.choose_spec.1
  have h23 : (23 : Addr) ≠ env.locals := by
    obtain ⟨_, _, _, htt⟩ := S.bs.S
    exact n23 htt.2
  refine ⟨S.bs, ⟨fun b o hb e => old b o (n23 e) (S.kp.keep b o hb e), ps, hps, hc.extBut hs.extBut h27 h23, ?_⟩, S.ln, S.gn, hn, let ⟨tz, x⟩ := S.z; ⟨tz, cell x⟩, cell S.R, let ⟨v, x⟩ := S.G; ⟨v, cell x⟩, gd_pres S.gr list, gd_pres S.gt list, S.zg, S.rg⟩
  obtain ⟨⟨o, vs, e, q⟩, t⟩ := ht
  exact ⟨⟨o, vs, old _ _ h27 e, q⟩, old _ _ h23 t⟩
theorem LS.sign (S : LS w mg mb hb env cZ cR cG D Dt r rt c h m) {v : Option Value} (hs : Heap.SameBut cG h h') (hv : h'.IsCell cG v) : LS w mg mb hb env cZ cR cG D Dt r rt c h' m := by
  obtain ⟨v₀, oG, hoG, hdG⟩ := S.G
  have cell : ∀ {a v}, a ≠ cG → h.IsCell a v → h'.IsCell a v := fun hne x => x.sameBut hs hne
  have list : ∀ l its, h.IsList l its → h'.IsList l its := fun l its x => x.extBut hs.extBut (fun q => by
    obtain ⟨o, ho, _, _, hd⟩ := x
    rw [q, hoG] at ho; cases ho; rw [hdG] at hd; cases hd)
  have old : ∀ b o, b ≠ cG → h.get? b = some o → h'.get? b = some o := fun b o hb e => hs.extBut b o hb e
  have n23 : ∀ {b : Addr} {o}, hb.get? b = some o → b ≠ cG := fun e q => by rw [q, S.gn] at e; cases e
  obtain ⟨ps, hps, hc, ht⟩ := S.kp.tab
  have h27 : (27 : Addr) ≠ cG := by
    obtain ⟨_, _, hcc, _⟩ := S.bs.S
    exact n23 hcc.choose_spec.choose_spec.choose_spec.choose_spec.choose_spec.choose_spec.choose_spec.choose_spec.choose_spec.choose_spec.1
  have h23 : (23 : Addr) ≠ cG := by
    obtain ⟨_, _, _, htt⟩ := S.bs.S
    exact n23 htt.2
  have hLG : env.locals ≠ cG := fun q => by
    obtain ⟨o, es, ep, ho, hd, _⟩ := S.ns
    rw [q, hoG] at ho; cases ho; rw [hdG] at hd; cases hd
  refine ⟨S.bs, ⟨fun b o hb e => old b o (n23 e) (S.kp.keep b o hb e), ps, hps, hc.extBut hs.extBut h27 h23, ?_⟩, S.ln, S.gn, S.ns.sameBut hs hLG, let ⟨tz, x⟩ := S.z; ⟨tz, cell S.zg x⟩, cell S.rg S.R, ⟨_, hv⟩, gd_pres S.gr list, gd_pres S.gt list, S.zg, S.rg⟩
  obtain ⟨⟨o, vs, e, q⟩, t⟩ := ht
  exact ⟨⟨o, vs, old _ _ h27 e, q⟩, old _ _ h23 t⟩

/-- lost_point of a square at hand -/
theorem lp_call {e : Expr} {p1 p2 : Pos} {cx : Nat → Nat → Bool} {Q : Value → Shared → Prop} (S : LS w mg mb hb env cZ cR cG D Dt r rt c s.heap m) (AB : AllBare s.gens) (hh : A.handled = none) (hd : A.depth + 6 < recursionLimit) (hu : A.units + 100 < cLine)
    (hk : env.scope.kind = .function) (hg : env.globals = mainGlobals) (kL : env.kindOf (Str.ofString "lost_point") = some .globalImplicit) (hmg : mg (Str.ofString "lost_point") = some (.ref 21)) (hkeep : keepIn (Mine.hd.heap_39 w.params) (.ref 21) = true)
    (he : starEach [e] env = [(false, eval e env)]) (hpl : (backTo p2 (starEach ([] : List Expr) env)).any (·.1) = false)
    (harg : wpAny (model pr w) A (eval e env) (fun y s₁ => ∃ Dx rx, y = .ref Dx ∧ Gd s₁.heap Dx rx cx ∧ Keeps s s₁) E s)
    (h : ∀ t h' gs tk, LS w mg mb hb env cZ cR cG D Dt r rt c h' m → AllBare gs → Q (.int (LP cx) t) { s with heap := h', gens := gs, toks := tk }) :
    wpAny (model pr w) A (eval (.Call (.Name (Str.ofString "lost_point") p1) [e] [] p2) env) Q E s := by
  refine wpAny_Call_NameR (Name_function_global hk kL (loadGlobal_global (by rw [hg]; exact S.base.T.g) hmg ?_) (by decide))
  refine callWith_K S.base.X hkeep ?_ he hpl
  rw [he]
  refine spliced_cons (wpAny_mono harg (fun y s₁ h₁ => ?_) fun _ _ e => e)
  obtain ⟨Dx, rx, rfl, G, h₁, tk₁, rfl, k₁⟩ := h₁
  refine spliced_nil ⟨(S.keeps k₁).base.X, ?_⟩
  refine call_lost (S.keeps k₁).base G AB hh hd hu fun t h' gs tk K hg => ?_
  exact h t h' gs tk ((S.keeps k₁).call K) hg

theorem lc_mirror {p1 p2 p3 p4 p5 p6 p7 p8 : Pos} {cx : Nat → Nat → Bool} {Dx : Addr} {rx : Nat → Addr} (hh : A.handled = none) (hk : env.scope.kind = .function) (G : Gd s.heap Dx rx cx) (hload : ∀ Q : Value → Shared → Prop, Q (.ref Dx) s → wpAny (model pr w) A (eval (.Name (Str.ofString "rows") p7) env) Q E s) :
    wpAny (model pr w) A (eval (.ListComp (.Subscript (.Name (Str.ofString "row") p1) (.Slice none none (some (.UnaryOp .USub (.Constant (.int 1) 0 p2) p3)) p4) p5) [⟨.Name (Str.ofString "row") p6, .Name (Str.ofString "rows") p7, [], 0⟩] (fsc [(Str.ofString ".0", .local), (Str.ofString "row", .local)]) p8) env)
      (fun y s₁ => ∃ D' r', y = .ref D' ∧ Gd s₁.heap D' r' (fun i j => cx i (10 - j)) ∧ Keeps s s₁) E s := by
  refine wpAny_mono (eval_loc (n := 11) (P := fun i v => (((List.range 11).map fun i => Value.ref (rx i)).toArray)[i]? = some v) hh sz11 (fun i => .inr fun its => ∃ b, its = rowArr b ∧ b = fun j => cx i (10 - j)) (cl := []) rfl (by decide) rfl (by decide) rfl
    (hload _ (src_list G.rows ⟨_, _, rfl, fun _ _ e => e⟩)) (fun C i v t m₃ E' hi11 hP hC hm hk' => ?_)) (fun y s' h => ?_) fun _ _ e => e
  · have hv : v = .ref (rx i) := by simpa [hi11] using hP.symm
    subst hv
    refine wpAny_mono (elt_rev (b := cx i) rfl rfl hC hm ((G.cells i hi11).at fun o e => hk' _ o e)) (fun y t' h => ?_) fun _ _ e => e
    obtain ⟨⟨T, its, rfl, hT, hl, rfl⟩, K⟩ := h
    exact ⟨⟨T, _, rfl, hT, hl, _, rfl, rfl⟩, K⟩
  · obtain ⟨D', ys, rfl, hD, hl, h11, hit, K⟩ := h
    obtain ⟨r', c', G', hc'⟩ := gd_of (P := fun i b => b = fun j => cx i (10 - j)) hl h11 hit
    refine ⟨D', r', rfl, ⟨G'.rows, fun i hi => ?_⟩, K⟩
    have := G'.cells i hi
    rw [hc' i hi] at this
    exact this

theorem lc_neg {p1 p2 p3 p4 p5 p6 p7 p8 p9 p10 p11 p12 : Pos} {cx : Nat → Nat → Bool} {Dx : Addr} {rx : Nat → Addr} (hh : A.handled = none) (hk : env.scope.kind = .function) (G : Gd s.heap Dx rx cx) (hload : ∀ Q : Value → Shared → Prop, Q (.ref Dx) s → wpAny (model pr w) A (eval (.Name (Str.ofString "turned") p11) env) Q E s) :
    wpAny (model pr w) A (eval (.ListComp (.ListComp (.UnaryOp .Not (.Name (Str.ofString "sign") p1) p2) [⟨.Name (Str.ofString "sign") p3, .Subscript (.Name (Str.ofString "row") p4) (.Slice none none (some (.UnaryOp .USub (.Constant (.int 1) 0 p5) p6)) p7) p8, [], 0⟩] (fsc [(Str.ofString ".0", .local), (Str.ofString "sign", .local)]) p9)
        [⟨.Name (Str.ofString "row") p10, .Name (Str.ofString "turned") p11, [], 0⟩] (fsc [(Str.ofString ".0", .local), (Str.ofString "row", .local)]) p12) env)
      (fun y s₁ => ∃ D' r', y = .ref D' ∧ Gd s₁.heap D' r' (fun i j => !(cx i (10 - j))) ∧ Keeps s s₁) E s := by
  refine wpAny_mono (eval_loc (n := 11) (P := fun i v => (((List.range 11).map fun i => Value.ref (rx i)).toArray)[i]? = some v) hh sz11 (fun i => .inr fun its => ∃ b, its = rowArr b ∧ ∀ j, j < 11 → b j = !(cx i (10 - j))) (cl := []) rfl (by decide) rfl (by decide) rfl
    (hload _ (src_list G.rows ⟨_, _, rfl, fun _ _ e => e⟩)) (fun C i v t m₃ E' hi11 hP hC hm hk' => ?_)) (fun y s' h => ?_) fun _ _ e => e
  · have hv : v = .ref (rx i) := by simpa [hi11] using hP.symm
    subst hv
    refine wpAny_mono (eval_loc (n := 11) (P := fun j v => (rowArr fun j => cx i (10 - j))[j]? = some v) hh sz11 (fun j => .inl fun y => y = .bool (!(cx i (10 - j)))) (cl := []) rfl (by decide) rfl (by decide) rfl
      (wpAny_mono (elt_rev (b := cx i) rfl rfl hC hm ((G.cells i hi11).at fun o e => hk' _ o e)) (fun y t' h => ?_) fun _ _ e => e) (fun C2 j v t2 m4 E2 hj11 hP2 hC2 hm2 hk2 => ?_)) (fun y s' h => ?_) fun _ _ e => e
    · obtain ⟨⟨T, its, rfl, hT, hl, rfl⟩, K⟩ := h
      exact src_list hl K
    · have hv : v = .bool (cx i (10 - j)) := by simpa [hj11] using hP2.symm
      subst hv
      exact elt_not rfl rfl hC2 hm2
    · obtain ⟨D', ys, rfl, hD, hl, h11, hit, K⟩ := h
      obtain ⟨b, rfl, hb⟩ := row_any h11 hit (fun j _ q => ⟨_, q⟩)
      exact ⟨⟨D', _, rfl, hD, hl, b, rfl, fun j hj => Value.bool.inj (hb j hj)⟩, K⟩
  · obtain ⟨D', ys, rfl, hD, hl, h11, hit, K⟩ := h
    obtain ⟨r', c', G', hc'⟩ := gd_of (P := fun i b => ∀ j, j < 11 → b j = !(cx i (10 - j))) hl h11 hit
    refine ⟨D', r', rfl, ⟨G'.rows, fun i hi => ?_⟩, K⟩
    have := G'.cells i hi
    have e : ((List.range 11).map fun j => Value.bool (c' i j)) = ((List.range 11).map fun j => Value.bool (!(cx i (10 - j)))) := List.map_congr_left fun j hj => by rw [hc' i hi j (List.mem_range.mp hj)]
    rw [e] at this
    exact this
end
end Mine
end

section
open PySem PySem.W PySem.Calls PySem.Spec PyProof.Rows
set_option maxRecDepth 100000
set_option maxHeartbeats 4000000
namespace Mine
abbrev Sq := Nat → Nat → Bool
theorem ps_congr {f g : Nat → Int} : ∀ {n : Nat}, (∀ i, i < n → f i = g i) → preSum f n = preSum g n
  | 0, _ => rfl
  | n + 1, h => by
    show preSum f n + f n = preSum g n + g n
    rw [ps_congr fun i hi => h i (Nat.lt_succ_of_lt hi), h n (Nat.lt_succ_self _)]
theorem ps_add (f g : Nat → Int) : ∀ n, preSum (fun i => f i + g i) n = preSum f n + preSum g n
  | 0 => rfl
  | n + 1 => by
    show preSum (fun i => f i + g i) n + (f n + g n) = (preSum f n + f n) + (preSum g n + g n)
    rw [ps_add f g n]; omega
theorem ps_zero : ∀ n, preSum (fun _ => 0) n = 0
  | 0 => rfl
  | n + 1 => by show preSum (fun _ => 0) n + 0 = 0; rw [ps_zero n]; rfl
theorem ps_swap (f : Nat → Nat → Int) (m : Nat) : ∀ n, preSum (fun i => preSum (fun j => f i j) m) n = preSum (fun j => preSum (fun i => f i j) n) m
  | 0 => (ps_zero m).symm
  | n + 1 => by
    show preSum (fun i => preSum (fun j => f i j) m) n + preSum (fun j => f n j) m = preSum (fun j => preSum (fun i => f i j) n + f n j) m
    rw [ps_swap f m n, ps_add]
theorem ps_rev11 (f : Nat → Int) : preSum (fun i => f (10 - i)) 11 = preSum f 11 := by
  simp only [preSum, Nat.sub_zero, Nat.reduceSub, Nat.reduceAdd]; omega
theorem ps_rev10 (f : Nat → Int) : preSum (fun i => f (9 - i)) 10 = preSum f 10 := by
  simp only [preSum, Nat.sub_zero, Nat.reduceSub, Nat.reduceAdd]; omega

theorem rows1_ps (c : Sq) : rows1 c 11 = preSum (fun i => line1 (c i)) 11 := by
  simp only [rows1, preSum, Nat.reduceSub, Nat.reduceAdd]; omega
theorem rem2_ps (p q : Nat → Bool) : rem2 p q 10 = preSum (fun k => if mono p q k then 3 else 0) 10 := by
  simp only [rem2, preSum, Nat.reduceSub, Nat.reduceAdd]; omega
theorem rows2_ps (c : Sq) : rows2 c 10 = preSum (fun i => preSum (fun k => if mono (c i) (c (i + 1)) k then 3 else 0) 10) 10 := by
  have : rows2 c 10 = preSum (fun i => rem2 (c i) (c (i + 1)) 10) 10 := by
    simp only [rows2, preSum, Nat.reduceSub, Nat.reduceAdd]; omega
  rw [this]
  exact ps_congr fun i _ => rem2_ps _ _
theorem rem3_ps (c : Sq) : rem3 c 11 = preSum (fun i => sc3 (c i)) 11 := by
  simp only [rem3, preSum, Nat.reduceSub, Nat.reduceAdd]; omega

theorem f1_congr {l l' : Nat → Bool} (h : ∀ j, j < 11 → l j = l' j) : ∀ (d : Nat) (p : Bool) (n : Int), d ≤ 11 → f1 l d p n = f1 l' d p n
  | 0, _, _, _ => rfl
  | d + 1, p, n, hd => by
    show (if l (11 - (d + 1)) = p then f1 l d p (n + 1) else sc n + f1 l d (l (11 - (d + 1))) 1) = (if l' (11 - (d + 1)) = p then f1 l' d p (n + 1) else sc n + f1 l' d (l' (11 - (d + 1))) 1)
    rw [h (11 - (d + 1)) (by omega), f1_congr h d p (n + 1) (by omega), f1_congr h d _ 1 (by omega)]
theorem line1_congr {l l' : Nat → Bool} (h : ∀ j, j < 11 → l j = l' j) : line1 l = line1 l' := by
  unfold line1
  rw [h 0 (by decide)]
  exact f1_congr h 11 _ _ (Nat.le_refl _)
theorem sc3_congr {f g : Nat → Bool} (h : ∀ j, j < 11 → f j = g j) : sc3 f = sc3 g := by
  have e : ∀ k : Int, k.toNat < 11 → f k.toNat = g k.toNat := fun k hk => h _ hk
  unfold sc3 pat
  simp only [e 0 (by decide), e 1 (by decide), e 2 (by decide), e 3 (by decide), e 4 (by decide), e 5 (by decide), e 6 (by decide), e 7 (by decide), e 8 (by decide), e 9 (by decide), e 10 (by decide)]

/-- the worth of a line's runs, over its signs as a list -/
def scN (n : Nat) : Nat := bif Nat.ble 5 n then n - 2 else 0
def rl : List Bool → Bool → Nat → Nat
  | [], _, n => scN n
  | true :: l, true, n => rl l true (n + 1)
  | true :: l, false, n => scN n + rl l true 1
  | false :: l, true, n => scN n + rl l false 1
  | false :: l, false, n => rl l false (n + 1)
def hdB : List Bool → Bool
  | [] => true
  | b :: _ => b
def okL (l : List Bool) : Bool := Nat.beq (rl l (hdB l) 0) (rl l.reverse (hdB l.reverse) 0)
/-- all lines of n signs ahead of l -/
def allL : Nat → List Bool → Bool
  | 0, l => okL l
  | n + 1, l => allL n (true :: l) && allL n (false :: l)
theorem allL_spec : ∀ (n : Nat) (l : List Bool), allL n l = true → ∀ k : List Bool, k.length = n → okL (k.reverse ++ l) = true
  | 0, l, h, k, hk => by
    have : k = [] := List.length_eq_zero_iff.mp hk
    subst this; exact h
  | n + 1, l, h, k, hk => by
    cases k with
    | nil => cases hk
    | cons b k =>
      have h' := Bool.and_eq_true_iff.mp h
      have hk' : k.length = n := by simpa using hk
      rw [List.reverse_cons, List.append_assoc]
      cases b with
      | true => simpa using allL_spec n (true :: l) h'.1 k hk'
      | false => simpa using allL_spec n (false :: l) h'.2 k hk'
theorem all_t : allL 10 [true] = true := by decide +kernel
theorem all_f : allL 10 [false] = true := by decide +kernel
theorem all_lines : allL 11 [] = true := Bool.and_eq_true_iff.mpr ⟨all_t, all_f⟩

def lst (l : Nat → Bool) : Nat → List Bool
  | 0 => []
  | d + 1 => l (11 - (d + 1)) :: lst l d
theorem sc_cast (n : Nat) : sc (n : Int) = (scN n : Nat) := by
  unfold sc scN
  by_cases h : 5 ≤ n
  · rw [if_pos (by omega), Nat.ble_eq.mpr h]
    show (n : Int) - 2 = ((n - 2 : Nat) : Int)
    omega
  · have : Nat.ble 5 n = false := by
      cases hb : Nat.ble 5 n with
      | true => exact absurd (Nat.ble_eq.mp hb) h
      | false => rfl
    rw [if_neg (by omega), this]; rfl
theorem f1_rl (l : Nat → Bool) : ∀ (d : Nat) (p : Bool) (n : Nat), f1 l d p (n : Int) = (rl (lst l d) p n : Nat)
  | 0, _, n => sc_cast n
  | d + 1, p, n => by
    show (if l (11 - (d + 1)) = p then f1 l d p ((n : Int) + 1) else sc n + f1 l d (l (11 - (d + 1))) 1) = (rl (l (11 - (d + 1)) :: lst l d) p n : Nat)
    have e1 : ((n : Int) + 1) = ((n + 1 : Nat) : Int) := by omega
    have e2 : (1 : Int) = ((1 : Nat) : Int) := rfl
    rw [e1, e2, sc_cast, f1_rl l d p (n + 1), f1_rl l d _ 1]
    cases l (11 - (d + 1)) <;> cases p <;> simp [rl]
theorem rl_neg (l : Nat → Bool) : ∀ (d : Nat) (p : Bool) (n : Nat), rl (lst (fun j => !(l j)) d) (!p) n = rl (lst l d) p n
  | 0, _, _ => rfl
  | d + 1, p, n => by
    show rl ((!(l (11 - (d + 1)))) :: lst (fun j => !(l j)) d) (!p) n = rl (l (11 - (d + 1)) :: lst l d) p n
    have h1 := rl_neg l d
    cases l (11 - (d + 1)) <;> cases p <;> simp only [Bool.not_true, Bool.not_false, rl]
    · exact h1 false (n + 1)
    · exact congrArg (scN n + ·) (h1 false 1)
    · exact congrArg (scN n + ·) (h1 true 1)
    · exact h1 true (n + 1)
theorem line1_rl (l : Nat → Bool) : line1 l = (rl (lst l 11) (l 0) 0 : Nat) := f1_rl l 11 (l 0) 0
theorem line_neg (l : Nat → Bool) : line1 (fun j => !(l j)) = line1 l := by
  rw [line1_rl, line1_rl]
  exact congrArg (fun n : Nat => (n : Int)) (rl_neg l 11 (l 0) 0)
theorem line_rev (l : Nat → Bool) : line1 (fun j => l (10 - j)) = line1 l := by
  rw [line1_rl, line1_rl]
  have h := allL_spec 11 [] all_lines [l 10, l 9, l 8, l 7, l 6, l 5, l 4, l 3, l 2, l 1, l 0] rfl
  have h' : okL [l 0, l 1, l 2, l 3, l 4, l 5, l 6, l 7, l 8, l 9, l 10] = true := h
  have h'' := Nat.eq_of_beq_eq_true h'
  exact congrArg (fun n : Nat => (n : Int)) h''.symm
theorem sc3_rev (f : Nat → Bool) : sc3 (fun j => f (10 - j)) = sc3 f := by
  have e : pat (fun j => (fun j => f (10 - j)) j.toNat) = pat (fun j => f j.toNat) := by
    show (!f 9 && (f 6 && (!f 5 && (f 4 && (!f 1 && (((f 10 && (f 8 && (f 7 && (!f 3 && (!f 2 && (!f 0 && true)))))) || ((!f 10 && (!f 8 && (!f 7 && (f 3 && (f 2 && (f 0 && true)))))) || false)) && true)))))) =
      (!f 1 && (f 4 && (!f 5 && (f 6 && (!f 9 && (((f 0 && (f 2 && (f 3 && (!f 7 && (!f 8 && (!f 10 && true)))))) || ((!f 0 && (!f 2 && (!f 3 && (f 7 && (f 8 && (f 10 && true)))))) || false)) && true))))))
    cases f 1 <;> cases f 9 <;> cases f 4 <;> cases f 6 <;> cases f 5 <;> try rfl
    cases f 0 <;> cases f 10 <;> cases f 2 <;> cases f 8 <;> cases f 3 <;> cases f 7 <;> rfl
  unfold sc3
  rw [e]
end Mine
end

section
open PySem PySem.W PySem.Calls PySem.Spec PyProof.Rows
set_option maxRecDepth 100000
set_option maxHeartbeats 4000000
namespace Mine
/-- the four in one form -/
def A1 (c : Sq) : Int := preSum (fun i => line1 (c i)) 11
def A3 (c : Sq) : Int := preSum (fun i => sc3 (c i)) 11
def q2 (c : Sq) (i k : Nat) : Int := if mono (c i) (c (i + 1)) k then 3 else 0
theorem L1_eq (c : Sq) : L1 c = A1 c + A1 (fun i j => c j i) := by unfold L1 A1; rw [rows1_ps, rows1_ps]
theorem L3_eq (c : Sq) : L3 c = A3 c + A3 (fun i j => c j i) := by unfold L3 A3; rw [rem3_ps, rem3_ps]
theorem L2_eq (c : Sq) : L2 c = preSum (fun i => preSum (fun k => q2 c i k) 10) 10 := rows2_ps c
theorem darks_eq (c : Sq) : darks c = preSum (fun i => preSum (fun j => b2i (c i j)) 11) 11 := rfl

theorem A1_cols (c : Sq) : A1 (fun i j => c i (10 - j)) = A1 c := ps_congr fun i _ => line_rev (c i)
theorem A1_rows (c : Sq) : A1 (fun i j => c (10 - i) j) = A1 c := ps_rev11 fun i => line1 (c i)
theorem A1_neg (c : Sq) : A1 (fun i j => !(c i j)) = A1 c := ps_congr fun i _ => line_neg (c i)
theorem A3_cols (c : Sq) : A3 (fun i j => c i (10 - j)) = A3 c := ps_congr fun i _ => sc3_rev (c i)
theorem A3_rows (c : Sq) : A3 (fun i j => c (10 - i) j) = A3 c := ps_rev11 fun i => sc3 (c i)
theorem A3_mod (c : Sq) : ∀ n, ∃ z, preSum (fun i => sc3 (c i)) n = 40 * z
  | 0 => ⟨0, rfl⟩
  | n + 1 => by
    obtain ⟨z, hz⟩ := A3_mod c n
    show ∃ z, preSum (fun i => sc3 (c i)) n + sc3 (c n) = 40 * z
    rw [hz]
    unfold sc3
    split
    · exact ⟨z + 1, by omega⟩
    · exact ⟨z, by omega⟩

theorem q2_turn (c : Sq) (i k : Nat) : q2 (fun i j => c j i) i k = q2 c k i := by
  have : mono (fun j => c j i) (fun j => c j (i + 1)) k = mono (c k) (c (k + 1)) i := by
    unfold mono
    dsimp only
    cases c k i <;> cases c k (i + 1) <;> cases c (k + 1) i <;> cases c (k + 1) (i + 1) <;> rfl
  show (if mono (fun j => c j i) (fun j => c j (i + 1)) k = true then (3 : Int) else 0) = if mono (c k) (c (k + 1)) i = true then 3 else 0
  rw [this]
theorem q2_mir (c : Sq) (i k : Nat) (hk : k < 10) : q2 (fun i j => c i (10 - j)) i k = q2 c i (9 - k) := by
  have e1 : 10 - (k + 1) = 9 - k := by omega
  have e2 : 10 - k = 9 - k + 1 := by omega
  have : mono (fun j => c i (10 - j)) (fun j => c (i + 1) (10 - j)) k = mono (c i) (c (i + 1)) (9 - k) := by
    unfold mono
    dsimp only
    rw [e1, e2]
    cases c i (9 - k) <;> cases c i (9 - k + 1) <;> cases c (i + 1) (9 - k) <;> cases c (i + 1) (9 - k + 1) <;> rfl
  show (if mono (fun j => c i (10 - j)) (fun j => c (i + 1) (10 - j)) k = true then (3 : Int) else 0) = if mono (c i) (c (i + 1)) (9 - k) = true then 3 else 0
  rw [this]
theorem q2_neg (c : Sq) (i k : Nat) : q2 (fun i j => !(c i j)) i k = q2 c i k := by
  have : mono (fun j => !(c i j)) (fun j => !(c (i + 1) j)) k = mono (c i) (c (i + 1)) k := by
    unfold mono
    dsimp only
    cases c i k <;> cases c i (k + 1) <;> cases c (i + 1) k <;> cases c (i + 1) (k + 1) <;> rfl
  show (if mono (fun j => !(c i j)) (fun j => !(c (i + 1) j)) k = true then (3 : Int) else 0) = if mono (c i) (c (i + 1)) k = true then 3 else 0
  rw [this]
theorem L2_turn (c : Sq) : L2 (fun i j => c j i) = L2 c := by
  rw [L2_eq, L2_eq, ps_swap (q2 c)]
  exact ps_congr fun i _ => ps_congr fun k _ => q2_turn c i k
theorem L2_mir (c : Sq) : L2 (fun i j => c i (10 - j)) = L2 c := by
  rw [L2_eq, L2_eq]
  refine ps_congr fun i _ => ?_
  rw [ps_congr fun k hk => q2_mir c i k hk]
  exact ps_rev10 fun k => q2 c i k
theorem L2_neg (c : Sq) : L2 (fun i j => !(c i j)) = L2 c := by
  rw [L2_eq, L2_eq]
  exact ps_congr fun i _ => ps_congr fun k _ => q2_neg c i k
theorem darks_turn (c : Sq) : darks (fun i j => c j i) = darks c := by
  rw [darks_eq, darks_eq, ps_swap fun i j => b2i (c i j)]
theorem darks_mir (c : Sq) : darks (fun i j => c i (10 - j)) = darks c := by
  rw [darks_eq, darks_eq]
  exact ps_congr fun i _ => ps_rev11 fun j => b2i (c i j)
theorem row_neg (f : Nat → Bool) : ∀ n : Nat, preSum (fun j => b2i (!(f j))) n = n - preSum (fun j => b2i (f j)) n
  | 0 => rfl
  | n + 1 => by
    show preSum (fun j => b2i (!(f j))) n + b2i (!(f n)) = ((n + 1 : Nat) : Int) - (preSum (fun j => b2i (f j)) n + b2i (f n))
    rw [row_neg f n]
    cases f n <;> simp [b2i] <;> omega
theorem col_neg (f : Nat → Int) : ∀ n : Nat, preSum (fun i => 11 - f i) n = 11 * n - preSum f n
  | 0 => rfl
  | n + 1 => by
    show preSum (fun i => 11 - f i) n + (11 - f n) = 11 * ((n + 1 : Nat) : Int) - (preSum f n + f n)
    rw [col_neg f n]; omega
theorem darks_neg (c : Sq) : darks (fun i j => !(c i j)) = 121 - darks c := by
  rw [darks_eq, darks_eq, ps_congr fun i _ => row_neg (c i) 11]
  exact col_neg (fun i => preSum (fun j => b2i (c i j)) 11) 11
theorem L4n_neg (n : Int) : L4n (121 - n) = L4n n := by
  unfold L4n
  have : (20 * (121 - n) - 1210).natAbs = (20 * n - 1210).natAbs := by omega
  rw [this]

theorem LP_turn (c : Sq) : LP (fun i j => c j i) = LP c := by
  have h1 : L1 (fun i j => c j i) = L1 c := by rw [L1_eq, L1_eq]; exact Int.add_comm _ _
  have h3 : L3 (fun i j => c j i) = L3 c := by rw [L3_eq, L3_eq]; exact Int.add_comm _ _
  have h4 : L4 (fun i j => c j i) = L4 c := by unfold L4; rw [darks_turn]
  unfold LP
  rw [h1, L2_turn, h3, h4]
theorem LP_mir (c : Sq) : LP (fun i j => c i (10 - j)) = LP c := by
  have h1 : L1 (fun i j => c i (10 - j)) = L1 c := by
    rw [L1_eq, L1_eq, A1_cols]
    exact congrArg (A1 c + ·) (A1_rows fun i j => c j i)
  have h3 : L3 (fun i j => c i (10 - j)) = L3 c := by
    rw [L3_eq, L3_eq, A3_cols]
    exact congrArg (A3 c + ·) (A3_rows fun i j => c j i)
  have h4 : L4 (fun i j => c i (10 - j)) = L4 c := by unfold L4; rw [darks_mir]
  unfold LP
  rw [h1, L2_mir, h3, h4]
theorem LP_flip (c : Sq) : ∃ z, LP (fun i j => !(c i j)) = LP c + 40 * z := by
  have h1 : L1 (fun i j => !(c i j)) = L1 c := by
    rw [L1_eq, L1_eq, A1_neg]
    exact congrArg (A1 c + ·) (A1_neg fun i j => c j i)
  have h4 : L4 (fun i j => !(c i j)) = L4 c := by unfold L4; rw [darks_neg, L4n_neg]
  obtain ⟨z1, e1⟩ := A3_mod (fun i j => !(c i j)) 11
  obtain ⟨z2, e2⟩ := A3_mod (fun i j => !(c j i)) 11
  obtain ⟨z3, e3⟩ := A3_mod c 11
  obtain ⟨z4, e4⟩ := A3_mod (fun i j => c j i) 11
  have h3 : L3 (fun i j => !(c i j)) = 40 * z1 + 40 * z2 := by rw [L3_eq]; exact congr (congrArg _ e1) e2
  have h3' : L3 c = 40 * z3 + 40 * z4 := by rw [L3_eq]; exact congr (congrArg _ e3) e4
  refine ⟨z1 + z2 - z3 - z4, ?_⟩
  unfold LP
  rw [h1, L2_neg, h3, h3', h4]; omega
theorem LP_neg (c : Sq) : (LP (fun i j => !(c (10 - j) i)) - LP c).fmod 40 = 0 := by
  obtain ⟨z, hz⟩ := LP_flip (fun i j => c (10 - j) i)
  have e : LP (fun i j => c (10 - j) i) = LP c := (LP_mir (fun i j => c j i)).trans (LP_turn c)
  have hz' : LP (fun i j => !(c (10 - j) i)) = LP c + 40 * z := by rw [← e]; exact hz
  rw [hz']
  have : LP c + 40 * z - LP c = 40 * z := by omega
  rw [this, Int.fmod_eq_emod_of_nonneg _ (by decide)]
  omega

theorem LP_congr {c c' : Sq} (h : ∀ i, i < 11 → ∀ j, j < 11 → c i j = c' i j) : LP c = LP c' := by
  have h1 : L1 c = L1 c' := by
    rw [L1_eq, L1_eq]
    exact congr (congrArg _ (ps_congr fun i hi => line1_congr fun j hj => h i hi j hj)) (ps_congr fun i hi => line1_congr fun j hj => h j hj i hi)
  have h3 : L3 c = L3 c' := by
    rw [L3_eq, L3_eq]
    exact congr (congrArg _ (ps_congr fun i hi => sc3_congr fun j hj => h i hi j hj)) (ps_congr fun i hi => sc3_congr fun j hj => h j hj i hi)
  have h2 : L2 c = L2 c' := by
    rw [L2_eq, L2_eq]
    refine ps_congr fun i hi => ps_congr fun k hk => ?_
    unfold q2 mono
    rw [h i (by omega) k (by omega), h i (by omega) (k + 1) (by omega), h (i + 1) (by omega) k (by omega), h (i + 1) (by omega) (k + 1) (by omega)]
  have h4 : L4 c = L4 c' := by
    have : darks c = darks c' := by
      rw [darks_eq, darks_eq]
      exact ps_congr fun i hi => ps_congr fun j hj => by rw [h i hi j hj]
    unfold L4; rw [this]
  unfold LP
  rw [h1, h2, h3, h4]
theorem LP_uni (c : Sq) (h : ∀ p, p < 11 → ∀ q, q < 11 → c p q = c 0 0) : LP c = 598 := by
  rw [LP_congr (c' := fun _ _ => c 0 0) fun i hi j hj => h i hi j hj]
  cases c 0 0 <;> decide +kernel
end Mine
end

section
open PySem PySem.W PySem.Calls PySem.Spec PyProof.Rows
set_option maxRecDepth 100000
set_option maxHeartbeats 4000000
namespace Mine
theorem fill_LW : (PySem.Challenge.rw_ww0034_01 = PySem.Challenge.rw_ww0034_01) ∧ (hd.heap_39 = hd.heap_39) := by
  k_fill
  exact ⟨rfl, rfl⟩


theorem or_cons {w : World} {A : Around} {E : Value → Shared → Prop} {env : Env} {s : Shared} {e : Expr} {es : List Expr} {Q : Bool → Shared → Prop} (h : wpAny (model pr w) A (isTrue e env (eval e env)) (fun b s₁ => if b = true then Q true s₁ else wpAny (model pr w) A (allTrue .Or es env) Q E s₁) E s) :
    wpAny (model pr w) A (allTrue .Or (e :: es) env) Q E s := by
  show wpAny (model pr w) A (do match BoolOp.Or, ← isTrue e env (eval e env) with | .And, false => pure false | .Or, true => pure true | _, _ => allTrue .Or es env) Q E _
  refine wpAny_bind (wpAny_mono h (fun b s₁ h₁ => ?_) fun _ _ e => e)
  cases b with
  | true => exact wpAny_pure (by simpa using h₁)
  | false => simpa using h₁
theorem law_run {w : World} {A : Around} {s : Shared} {mg mb : Str → Option Value} {R : Result → Shared → Prop} {sc : Addr} {vs : List Value} {ns : List Int}
    (B : Bs w mg mb s.heap) (hL : s.heap.IsList sc vs.toArray) (hi : IntsAre vs ns) (hlen : ns.length ≤ 63) (AB : AllBare s.gens) (hh : A.handled = none) (hd : A.depth + 10 < recursionLimit) (hu : A.units + 200 < cLine)
    (ret : ∀ h' gs tk, Kp s.heap h' → AllBare gs → R (.ok (.ret (.bool true))) { s with heap := h', gens := gs, toks := tk }) :
    codeAny (model pr w) A (.call (.ref 61) ⟨[.ref sc], []⟩) R s := by
  have X := B.X
  have T := B.T
  have m1 : mg (Str.ofString "range") = none := mg_none_of X T.g (by k_is)
  have m2 : mg (Str.ofString "_law_number") = some (.ref 56) := mg_of X T.g (by k_is)
  have m3 : mg (Str.ofString "lost_point") = some (.ref 21) := mg_of X T.g (by k_is)
  have m4 : mg (Str.ofString "any") = none := mg_none_of X T.g (by k_is)
  have k1 : keepIn (Mine.hd.heap_39 w.params) (.ref 56) = true := by k_is
  have k2 : keepIn (Mine.hd.heap_39 w.params) (.ref 21) = true := by k_is
  k_dflt (refine' code_baseC [(Str.ofString "script", .ref sc)] ?k1 ?k2 ?k3 ?k4 ?k5 ?k6 ?k7 ?k8 ?_ ?c2 ?c3 ?c4; (case k1 => k_asm); (case k2 => k_asm); (case k3 => k_is); (case k4 => k_is); (case k5 => omega); (case k6 => exact BindsTo.of_eq rfl); (case k7 => exact rfl); (case k8 => decide +kernel); (case c2 => exact rfl); (case c3 => exact rfl); (case c4 => exact rfl))
  intro L h₁ tk cells F N Y
  k_cells Y
  (try simp only [List.cons_append, List.nil_append] at N)
  try dsimp only
  try k_fold
  k_steps
  rename Fr _ _ _ _ => F
  rename News _ _ _ _ => N
  rename_i oG oR o3 oS dG dR d3 dS h' oZ dZ
  have nG := N _ (.head _)
  have nR := N _ (.tail _ (.head _))
  have nZ := N _ (.tail _ (.tail _ (.head _)))
  have nS := N _ (.tail _ (.tail _ (.tail _ (.head _))))
  have hS : h'.IsCell (L + 1) (some (.ref sc)) := ⟨oS, nS.1, dS⟩
  have hZ : h'.IsCell (L + 1 + 1) (some (.int 11 _)) := ⟨oZ, nZ.1, dZ⟩
  have hR : h'.IsCell (L + 1 + 1 + 1) none := ⟨oR, nR.1, dR⟩
  have hG : h'.IsCell (L + 1 + 1 + 1 + 1) none := ⟨oG, nG.1, dG⟩
  refine' wpAny_mono (lc_rows (cS := L + 1) (cZ := L + 1 + 1) (cR := L + 1 + 1 + 1) (cG := L + 1 + 1 + 1 + 1) ?LE (B.keeps F.keep) (hL.at fun o e => F.keep _ o e) hi hlen hh ?dep ?uni hS hZ m1 m2 k1) ?_ (fun _ _ e => e)
  case LE => exact ⟨rfl, rfl, rfl, rfl, rfl, rfl, rfl, rfl, rfl, rfl, rfl, rfl, rfl⟩
  case dep => rw [dep_deeper]; omega
  case uni => rw [un_deeper]; omega
  intro y s₁ h
  obtain ⟨D, r, c, rfl, hD, G, h₂, tk₂, rfl, K₂⟩ := h
  have kR₂ : h₂.IsCell (L + 1 + 1 + 1) none := hR.keeps K₂
  refine wpAny_storeName_cell (c := L + 1 + 1 + 1) rfl rfl rfl kR₂ fun h₃ hc₃ hs₃ => ?_
  dsimp only at hs₃ G K₂ ⊢
  have off₃ : ∀ {b : Addr} {o : Obj}, s.heap.get? b = some o → b ≠ L + 1 + 1 + 1 := fun e q => by rw [q, nR.2.2] at e; cases e
  have base₃ : ∀ b o, s.heap.get? b = some o → h₃.get? b = some o := fun b o e => hs₃.extBut b o (off₃ e) (K₂ _ _ (F.keep _ _ e))
  have G₃ : Gd h₃ D r c := gd_pres G fun l its x => x.extBut hs₃.extBut (fun q => by
    obtain ⟨o, ho, _, _, hd⟩ := x
    obtain ⟨o', ho', hd'⟩ := kR₂
    rw [q, ho'] at ho; cases ho; rw [hd'] at hd; cases hd)
  have hn₃ := (F.ns.keeps K₂).sameBut hs₃ (Ne.symm nR.2.1)
  have hZ₃ := (hZ.keeps K₂).sameBut hs₃ (Nat.ne_of_lt (Nat.lt_succ_self _))
  have hG₃ := (hG.keeps K₂).sameBut hs₃ (Nat.ne_of_gt (Nat.lt_succ_self _))
  refine wpAny_execs_cons ?_
  refine' lc_turned (cS := L + 1) (cZ := L + 1 + 1) (cR := L + 1 + 1 + 1) (cG := L + 1 + 1 + 1 + 1) ?LE (B.keeps base₃) G₃ hh hc₃ hZ₃ m1 hn₃ ?sw ?_
  case LE => exact ⟨rfl, rfl, rfl, rfl, rfl, rfl, rfl, rfl, rfl, rfl, rfl, rfl, rfl⟩
  case sw => with_unfolding_all rfl
  intro Dt rt h₄ tk₄ hDt hDtL Gt hn₄ K₄
  dsimp only
  have hL0 : s.heap.get? L = none := Heap.get?_none_of_le F.above
  have old₄ : ∀ b o, s.heap.get? b = some o → h₄.get? b = some o := fun b o e => K₄ b o (fun q => by rw [show b = L from q, hL0] at e; cases e) (base₃ b o e)
  have cell₄ : ∀ {a : Addr} {v}, h₃.IsCell a v → h₄.IsCell a v := fun ⟨o, ho, hd⟩ => ⟨o, K₄ _ o (fun q => by
    obtain ⟨o', es, ep, ho', hd', _⟩ := hn₃
    rw [show _ = L from q, ho'] at ho; cases ho; rw [hd'] at hd; cases hd) ho, hd⟩
  have list₄ : ∀ l its, h₃.IsList l its → h₄.IsList l its := fun l its ⟨o, ho, hc, n, hd⟩ => ⟨o, K₄ _ o (fun q => by
    obtain ⟨o', es, ep, ho', hd', _⟩ := hn₃
    rw [show l = L from q, ho'] at ho; cases ho; rw [hd'] at hd; cases hd) ho, hc, n, hd⟩
  have S₄ := LS.mk B (Kp.of B.S old₄) hL0 nG.2.2 hn₄ ⟨_, cell₄ hZ₃⟩ (cell₄ hc₃) ⟨_, cell₄ hG₃⟩ (gd_pres G₃ list₄) Gt (Nat.ne_of_lt (Nat.lt_succ_of_lt (Nat.lt_succ_self _))) (Nat.ne_of_lt (Nat.lt_succ_self _))
  refine wpAny_execs_cons (wpAny_Assign_Name ?_ (by with_unfolding_all rfl))
  refine' lp_call S₄ AB hh ?dep ?uni rfl rfl rfl m3 k2 rfl rfl (nm_cell rfl rfl rfl S₄.R (by decide) ⟨D, r, rfl, S₄.gr, _, _, rfl, fun _ _ e => e⟩) (fun t₅ h₅ gs₅ tk₅ S₅ AB₅ => ?_)
  case dep => rw [dep_deeper]; omega
  case uni => rw [un_deeper]; omega
  refine wpAny_storeName_local rfl S₅.ns (fun h₆ hn₆ hs₆ => ?_) rfl
  have S₆ := S₅.frame hs₆ hn₆
  dsimp only
  refine wpAny_execs_cons (wpAny_If (wpAny_isTrue_BoolOp (or_cons (wpAny_isTrue_Compare1 ?_))))
  refine' lp_call S₆ AB₅ hh ?dep ?uni rfl rfl rfl m3 k2 rfl rfl (nm_local (v := .ref Dt) rfl rfl S₆.ns (by with_unfolding_all rfl) (by decide) ⟨Dt, rt, rfl, S₆.gt, _, _, rfl, fun _ _ e => e⟩) (fun t₇ h₇ gs₇ tk₇ S₇ AB₇ => ?_)
  case dep => rw [dep_deeper]; omega
  case uni => rw [un_deeper]; omega
  refine nm_local (v := .int (LP c) t₅) rfl rfl S₇.ns (by with_unfolding_all rfl) (by decide) ?_
  refine P.ne_int (wpAny_truthy_bool ?_)
  rw [LP_turn, bne_self_eq_false]
  simp only [Bool.false_eq_true, if_false]
  refine or_cons (wpAny_isTrue_Compare1 ?_)
  refine' lp_call S₇ AB₇ hh ?dep ?uni rfl rfl rfl m3 k2 rfl rfl (lc_mirror hh rfl S₇.gr (fun Q h => nm_cell rfl rfl rfl S₇.R (by decide) h)) (fun t₈ h₈ gs₈ tk₈ S₈ AB₈ => ?_)
  case dep => rw [dep_deeper]; omega
  case uni => rw [un_deeper]; omega
  refine nm_local (v := .int (LP c) t₅) rfl rfl S₈.ns (by with_unfolding_all rfl) (by decide) ?_
  refine P.ne_int (wpAny_truthy_bool ?_)
  rw [LP_mir, bne_self_eq_false]
  simp only [Bool.false_eq_true, if_false]
  refine wpAny_allTrue_Or_nil ?_
  simp only [Bool.false_eq_true, if_false]
  refine wpAny_execs_nil ?_
  dsimp only
  refine wpAny_execs_cons (wpAny_If (wpAny_isTrue_Compare1 (wpAny_BinOp (wpAny_BinOp ?_))))
  refine' lp_call S₈ AB₈ hh ?dep ?uni rfl rfl rfl m3 k2 rfl rfl (lc_neg hh rfl S₈.gt (fun Q h => nm_local (v := .ref Dt) rfl rfl S₈.ns (by with_unfolding_all rfl) (by decide) h)) (fun t₉ h₉ gs₉ tk₉ S₉ AB₉ => ?_)
  case dep => rw [dep_deeper]; omega
  case uni => rw [un_deeper]; omega
  refine nm_local (v := .int (LP c) t₅) rfl rfl S₉.ns (by with_unfolding_all rfl) (by decide) ?_
  refine PyProof.Rows.sub_int (wpAny_Constant_int (PyProof.Rows.mod_int' (by decide) (wpAny_Constant_int (P.ne_int (wpAny_truthy_bool ?_)))))
  rw [LP_neg, bne_self_eq_false]
  simp only [Bool.false_eq_true, if_false]
  refine wpAny_execs_nil ?_
  dsimp only
  refine wpAny_execs_cons (wpAny_Assign_Name (Subscript_ (Subscript_ ?_)) (by with_unfolding_all rfl))
  refine nm_cell rfl rfl rfl S₉.R (by decide) (wpAny_Constant_int ?_)
  refine tail_any S₉.gr.rows.typeIs slot_list_getitem.lookup (wpAny_getItem_list S₉.gr.rows (by decide) (by decide) (x := .ref (r 0)) (by rfl) ?_) (by with_unfolding_all rfl)
  refine wpAny_Constant_int ?_
  refine tail_any (S₉.gr.cells 0 (by decide)).typeIs slot_list_getitem.lookup (wpAny_getItem_list (S₉.gr.cells 0 (by decide)) (by decide) (by decide) (x := .bool (c 0 0)) (by rfl) ?_) (by with_unfolding_all rfl)
  obtain ⟨vG, hvG⟩ := S₉.G
  refine wpAny_storeName_cell (c := L + 1 + 1 + 1 + 1) rfl rfl rfl hvG fun h₁₀ hc₁₀ hs₁₀ => ?_
  have S₁₀ := S₉.sign hs₁₀ hc₁₀
  dsimp only
  refine wpAny_execs_cons (wpAny_If (wpAny_isTrue_value ?_ (by rfl)))
  refine wpAny_Call_NameR (Name_function_global rfl rfl (loadGlobal_builtin S₁₀.base.T.g m4 S₁₀.base.T.b ((S₁₀.base.T.builtins _ (by decide)).trans boot_any) ?_) (by decide))
  refine callWith_builtin1 ?_ (by rfl) (by rfl)
  refine spliced_cons (wpAny_mono (eval_two (cl := [(Str.ofString "sign", L + 1 + 1 + 1 + 1)]) (cs := L + 1 + 1 + 1 + 1) (s0 := c 0 0) hh rfl (by decide) rfl (by decide) rfl rfl (by decide) (fun Q h => nm_cell rfl rfl rfl S₁₀.R (by decide) h) S₁₀.gr hc₁₀
    (fun C t v m E hn hm hc => wpAny_Compare1 (nm_local rfl rfl hn hm (by decide) (nm_cell rfl rfl rfl hc (by decide) (ne_bool ⟨rfl, _, _, rfl, fun _ _ e => e⟩))) (by with_unfolding_all rfl))) (fun y s₁ h => ?_) fun _ _ e => e)
  obtain ⟨Da, ys, rfl, hla, _, hB, h₁₁, tk₁₁, rfl, k₁₁⟩ := h
  refine spliced_nil (any_bl hh hla hB fun b h₁₂ tk₁₂ hb k₁₂ => ?_)
  dsimp only
  refine wpAny_truthy_bool ?_
  have S₁₂ := (S₁₀.keeps k₁₁).keeps k₁₂
  cases b with
  | true =>
    simp only [if_true]
    refine wpAny_execs_cons (wpAny_Return_some (wpAny_Constant_bool ?_))
    exact ret _ _ _ S₁₂.kp AB₉
  | false =>
    simp only [Bool.false_eq_true, if_false]
    refine wpAny_execs_nil ?_
    dsimp only
    obtain ⟨tz, hz⟩ := S₁₂.z
    have e598 := LP_uni c (hb rfl)
    refine wpAny_execs_cons (wpAny_Return_some (wpAny_Compare1 (nm_local (v := .int (LP c) t₅) rfl rfl S₁₂.ns (by with_unfolding_all rfl) (by decide) ?_) (by with_unfolding_all rfl)))
    rw [e598]
    clear e598 hb
    refine wpAny_BinOp (wpAny_BinOp (wpAny_BinOp (wpAny_BinOp (wpAny_Constant_int (nm_cell rfl rfl rfl hz (by decide) ?_)))))
    refine PyProof.Rows.mul_int ?_ (IntMulOk.of_left (by decide))
    refine wpAny_BinOp (nm_cell rfl rfl rfl hz (by decide) (wpAny_Constant_int ?_))
    refine PyProof.Rows.sub_int ?_
    refine PyProof.Rows.mul_int ?_ (IntMulOk.of_left (by decide))
    refine wpAny_BinOp (wpAny_Constant_int (wpAny_BinOp (wpAny_BinOp (nm_cell rfl rfl rfl hz (by decide) (wpAny_Constant_int ?_)))))
    refine PyProof.Rows.sub_int (wpAny_Constant_int ?_)
    refine pow_int_small (by decide) (by decide) (by decide) ?_
    refine PyProof.Rows.mul_int ?_ (IntMulOk.of_left (by decide))
    refine P.add_int (wpAny_Constant_int ?_)
    refine P.add_int ?_
    refine P.eq_int ?_
    exact ret _ _ _ S₁₂.kp AB₉

end Mine
end

section
open PySem PySem.W PySem.Calls PySem.Spec PyProof.Rows
set_option maxRecDepth 100000
set_option maxHeartbeats 8000000
namespace Mine
theorem fill_T4 : (PySem.Challenge.rw_ww0034_01 = PySem.Challenge.rw_ww0034_01) ∧ (hd.heap_39 = hd.heap_39) := by
  k_fill
  exact ⟨rfl, rfl⟩
theorem tab_top {w : World} {mean : ExcName → Option Value} {mg mb : Str → Option Value} {h : Heap} (X : (hd.heap_39 w.params).In h) (T : Top hd.view_39 (looseW hd.view_39 []) mean mg mb h) : h.IsCode 27 23 #[] ∧ h.TableAt 27 23 #[] := by
  have hf : ((recsOf hd.view_39).find? fun d => d.name == Str.ofString "_lost_point_level1").isSome = true := by decide +kernel
  obtain ⟨d, hd'⟩ := Option.isSome_iff_exists.mp hf
  have hmem := List.mem_of_find?_eq_some hd'
  have hname : d.name = Str.ofString "_lost_point_level1" := by simpa using List.find?_some hd'
  obtain ⟨a, o, fd, c, P, e1, e2, e3, e4, e5, e6⟩ := T.tab d hmem
  rw [hname, mg_of X T.g (v := .ref 28) (by k_is)] at e1
  cases e1
  have h28 := X 28 _ rfl
  have e7 := Option.some.inj (h28.symm.trans e2)
  rw [← e7] at e3
  have e8 : Value.ref 27 = fd.code := congrArg FuncData.code (Data.func.inj e3)
  rw [e4] at e8
  cases e8
  obtain ⟨⟨o', vs, q1, q2, q3, q4⟩, q5⟩ := id e6
  have h27 := X 27 _ rfl
  have e9 := Option.some.inj (h27.symm.trans q1)
  rw [← e9] at q3
  have e10 := Data.fields.inj q3
  have e11 : some (Value.ref 23) = vs[11]? := by rw [← e10]; rfl
  rw [q4] at e11
  cases e11
  exact ⟨e5, e6⟩
end Mine
theorem PySem.Challenge.cw_ww0034_01_holds : PySem.Challenge.rw_ww0034_01.Holds :=
  Mine.hd (by
  k_fill
  intro w s₀ s₁ mg mb G Y fa o pm cd doc dV kV ho hd hcd hD hmg hg args vals as hpre hlay hrd hwl hlo
  have KX := kIn_of Y
  refine Ground.open G ?_
  intro T B D TE TW
  try (refine guard_noD D (by decide +kernel) ?_; clear D)
  wrow_args hpre hlay hrd hwl hlo
  refine enter_call ?_
  rename Heap.IsList _ _ _ => hL
  rename IntsAre _ _ => hI
  rename ¬ _ < _ => hlen
  have hm := (mg_of KX T.g (v := .ref 61) (n := Str.ofString "law") (by k_is)).symm.trans hmg
  cases hm
  have ht := Mine.tab_top KX T
  have Bs0 : Mine.Bs w mg mb s₁.heap := ⟨KX, topRead_of T, T.bmain, ⟨#[], .inl rfl, ht.1, ht.2⟩⟩
  refine Mine.law_run Bs0 hL hI (by omega) (.of_eq hg) rfl (by decide) (by decide) (fun h' gs tk K AB => ?_)
  refine ⟨.inl ⟨_, .bool true, [], rfl, fun _ => rfl, ReadsW.bool _, (by first | (with_unfolding_all rfl; done) | (kernel_rfl; done) | (simp; done)), fun _ => ⟨List.nodup_nil, nofun⟩⟩, ?_, rfl, AB⟩
  obtain ⟨ps, hps, hc, htt⟩ := K.tab
  refine (OldK.refl _).step_table (ps := #[]) (more := ps) ht.2 ht.2 (by rw [Array.empty_append]; exact htt) (fun b o hb e => K.keep b o hb e) (by decide))
end
