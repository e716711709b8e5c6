import PyProof.Rows.All
import Wide.All
import OpenK.AllK
import Wide.FinOn
import PySem.Challenge.RW_aj5040_01
set_option Elab.async false

/-! AjTop -/
section
open PySem PySem.W PyProof.Rows
namespace Aj
set_option maxRecDepth 100000 in
set_option maxHeartbeats 8000000 in
open_top hd for PySem.Challenge.rw_aj5040_01
end Aj
end

/-! AjText -/
section
open PySem PySem.W PySem.Spec PySem.Calls PyProof.Rows PyProof.V
namespace Aj
/-- every sign of the text is below 128 -/
def Asc (x : Str) : Prop := ∀ c ∈ x.cps.toList, c < 128
theorem asc_append {a b : Str} (ha : Asc a) (hb : Asc b) : Asc (a ++ b) := by
  intro c hc
  have e : (a ++ b).cps.toList = a.cps.toList ++ b.cps.toList := by rw [Str.cps_append]; simp
  rw [e] at hc
  rcases List.mem_append.mp hc with h | h
  · exact ha c h
  · exact hb c h
theorem join_mem (sep : Str) : ∀ (parts : List Str) (p : Str), p ∈ parts → ∀ c ∈ p.cps.toList, c ∈ (Str.join sep parts).cps.toList
  | [], _, h, _, _ => nomatch h
  | [q], p, h, c, hc => by
    rw [List.mem_singleton.mp h] at hc
    simpa [Str.join] using hc
  | q :: r :: rs, p, h, c, hc => by
    have e : (Str.join sep (q :: r :: rs)).cps.toList = q.cps.toList ++ sep.cps.toList ++ (Str.join sep (r :: rs)).cps.toList := by
      show ((q ++ sep) ++ Str.join sep (r :: rs)).cps.toList = _
      rw [Str.cps_append, Str.cps_append]; simp
    rw [e]
    rcases List.mem_cons.mp h with rfl | h
    · simp [hc]
    · exact List.mem_append.mpr (.inr (join_mem sep (r :: rs) p h c hc))
theorem asc_join {sep : Str} (hs : Asc sep) : ∀ {parts : List Str}, (∀ p ∈ parts, Asc p) → Asc (Str.join sep parts)
  | [], _ => by intro c hc; simp [Str.join, Str.empty] at hc
  | [q], h => by intro c hc; exact h q (.head _) c (by simpa [Str.join] using hc)
  | q :: r :: rs, h => by
    have e : Str.join sep (q :: r :: rs) = (q ++ sep) ++ Str.join sep (r :: rs) := rfl
    rw [e]
    exact asc_append (asc_append (h q (.head _)) hs) (asc_join hs fun p hp => h p (.tail _ hp))
theorem asc_split {x y : Str} (hx : Asc x) : ∀ p ∈ Txt.split x y, Asc p := by
  intro p hp c hc
  have := join_mem y (Txt.split x y) p hp c hc
  rw [StrLaws.join_split] at this
  exact hx c this
theorem lowerOf_lt : ∀ c, c < 128 → ∀ d ∈ Unicode.lowerOf c, d < 128 := by
  have h : (List.range 128).all (fun c => (Unicode.lowerOf c).all (· < 128)) = true := by decide +kernel
  intro c hc d hd
  have h1 := List.all_eq_true.mp h c (List.mem_range.mpr hc)
  simpa using List.all_eq_true.mp h1 d hd
theorem asc_lower {x : Str} (hx : Asc x) : Asc (Txt.lower x) := by
  intro d hd
  have e : (Txt.lower x).cps = (x.cps.mapIdx fun i _ => (Unicode.lowerAt x.cps i).toArray).flatten := rfl
  rw [e, Array.mem_toList_iff, Array.mem_flatten] at hd
  obtain ⟨a, ha, hd⟩ := hd
  rw [Array.mem_mapIdx] at ha
  obtain ⟨i, hi, rfl⟩ := ha
  have hd' : d ∈ Unicode.lowerAt x.cps i := by simpa using hd
  have hg : x.cps[i]? = some x.cps[i] := Array.getElem?_eq_getElem hi
  have hc : x.cps[i] < 128 := hx _ (by simp)
  unfold Unicode.lowerAt at hd'
  rw [hg] at hd'
  dsimp only at hd'
  split at hd'
  · rename_i hq
    have : x.cps[i] = 931 := by simpa using (Bool.and_eq_true_iff.mp hq).1
    omega
  · exact lowerOf_lt _ hc d hd'
theorem asc_replace {x z : Str} {c : Nat} (hx : Asc x) (hz : Asc z) : Asc (Txt.replace x ⟨#[c]⟩ z) := by
  rw [StrLaws.replace_one]
  exact asc_join hz (asc_split hx)
theorem asc_canLay {x : Str} (h : Asc x) : PyData.canLay0 (.str x) = true := by
  have : PyData.strOk x = true := by
    unfold PyData.strOk
    rw [Array.all_eq_true_iff_forall_mem]
    intro c hc
    have := h c (Array.mem_toList_iff.mpr hc)
    simp only [decide_eq_true_eq]; omega
  simpa [PyData.canLay0] using this
theorem strs_canLay : ∀ {xs : List Str}, (∀ z ∈ xs, Asc z) → PyData.canLayAll0 (xs.map PyData.str) = true
  | [], _ => rfl
  | x :: r, h => by
    simp only [List.map_cons, PyData.canLayAll0, Bool.and_eq_true]
    exact ⟨asc_canLay (h x (.head _)), strs_canLay fun z hz => h z (.tail _ hz)⟩
theorem strs_depth : ∀ xs : List Str, PyData.depthAll (xs.map PyData.str) = 0
  | [] => rfl
  | _ :: r => by simp [PyData.depthAll, PyData.depth, strs_depth r]
theorem strs_shaped {xs : List Str} (h : ∀ z ∈ xs, Asc z) : SeqAt.shaped (.list (xs.map PyData.str)) = true := by
  simp [SeqAt.shaped, PyData.canLay0, PyData.depth, strs_canLay h, strs_depth]
theorem strs_sameAll : ∀ xs ys : List Str, PySem.Spec.sameAll (xs.map PyData.str) (ys.map PyData.str) = decide (xs = ys)
  | [], [] => by simp [PySem.Spec.sameAll]
  | [], _ :: _ => by simp [PySem.Spec.sameAll]
  | _ :: _, [] => by simp [PySem.Spec.sameAll]
  | a :: r, b :: t => by
    simp only [List.map_cons, PySem.Spec.sameAll, PySem.Spec.same, strs_sameAll r t]
    by_cases h : a = b <;> by_cases h' : r = t <;> simp [h, h']
theorem strs_same (xs ys : List Str) : PySem.Spec.same (.list (xs.map PyData.str)) (.list (ys.map PyData.str)) = decide (xs = ys) := by
  simp only [PySem.Spec.same]; exact strs_sameAll xs ys
section
variable {prog : Program} {w : World} {A : Around} {E : Value → Shared → Prop} {s : Shared} {a b : Addr} {xs ys : List Value} {ns ms : List Str} {Q : Value → Shared → Prop}
theorem ne_strs (ha : s.heap.IsList a xs.toArray) (hb : s.heap.IsList b ys.toArray) (hi : StrsAre xs ns) (hj : StrsAre ys ms) (oi : ∀ z ∈ ns, Asc z) (oj : ∀ z ∈ ms, Asc z) (hu : A.units + 64 < cLine) (h : Q (.bool (!decide (ns = ms))) s) :
    wpAny (model prog w) A (compareOp .NotEq (.ref a) (.ref b)) Q E s :=
  ne_dataH_same (reads_newData ha hi.carried) (reads_newData hb hj.carried) (strs_shaped oi) (strs_shaped oj) hu (SeqAt.noMix_of_shape (.list .str) rfl _ _ (list_map_has fun _ => rfl) (list_map_has fun _ => rfl)) (by rw [strs_same]; exact h)
end
end Aj
end

/-! AjRules -/
section
open PySem PySem.W PySem.Spec PySem.Calls PyProof.Rows PyProof.V
namespace Aj
section
variable {prog : Program} {w : World} {A : Around} {h₀ : Heap} {L : Addr} {m : Str → Option Value} {env : Env} {elt : PySem.Expr} {x : Str} {scope : Scope} {cl : List (Str × Addr)} {s : Shared} {S : List (Addr × Obj) → Prop} {Fin : List Value → List (Addr × Obj) → Prop} {news : List (Addr × Obj)}
/-- a comprehension over a list by what holds between the turns -/
theorem comp_inv {n : Nat} {P : Nat → Value → Prop} (Inv : Nat → List Value → List (Addr × Obj) → Prop) (h0 : Inv 0 [] news)
    (turn : ∀ i v ys nw I oI C oC D m₂ h tk (E' : Value → Shared → Prop), i < n → P i v → Inv i ys nw → LCg.NsObj oC m₂ → m₂ x = some v → Fr h₀ L h m → News h₀ L h ((I, oI) :: (C, oC) :: (D, LCg.lst ys) :: nw) → LCg.Off3 I C D nw → ((@Ne Nat I C) ∧ (@Ne Nat I D) ∧ (@Ne Nat C D)) →
      wpAny (model prog w) A (eval elt (compEnvC scope cl C env)) (LCg.CompEnd h₀ L m { s with heap := h, toks := tk } I oI C oC D (LCg.lst ys) S (fun y nw' => Inv (i + 1) (ys ++ [y]) nw')) E' { s with heap := h, toks := tk })
    (fin : ∀ ys nw, Inv n ys nw → Fin ys nw) : LCg.CompRest prog w A h₀ L m env elt x scope cl s S P Fin n 0 [] news := by
  have key : ∀ (j i : Nat) (ys : List Value) (nw : List (Addr × Obj)), i + j = n → Inv i ys nw → LCg.CompRest prog w A h₀ L m env elt x scope cl s S P Fin j i ys nw := by
    intro j
    induction j with
    | zero =>
      intro i ys nw hi hy
      obtain rfl : i = n := by omega
      exact LCg.CompRest.zero (fin ys nw hy)
    | succ j ih =>
      intro i ys nw hi hy
      refine LCg.CompRest.succ ?_
      intro v I oI C oC D m₂ h tk E' hv hC hx F N off ne
      refine wpAny_mono (turn i v ys nw I oI C oC D m₂ h tk E' (by omega) hv hy hC hx F N off ne) (fun y s₂ hq => ?_) fun _ _ e => e
      obtain ⟨h', tk', nw', e, F', N', off', hS, hI⟩ := hq
      exact ⟨h', tk', nw', e, F', N', off', hS, ih (i + 1) _ _ (by omega) hI⟩
  exact key n 0 [] news (by omega) h0
/-- texts to texts: the element makes nothing -/
theorem comp_strs {vs : List Value} {xs : List Str} (g : Str → Str) (hi : StrsAre vs xs) (hS : S news)
    (turn : ∀ z t I oI C oC D m₂ ys h tk (E' : Value → Shared → Prop), z ∈ xs → LCg.NsObj oC m₂ → m₂ x = some (.str z t) → Fr h₀ L h m → News h₀ L h ((I, oI) :: (C, oC) :: (D, LCg.lst ys) :: news) →
      wpAny (model prog w) A (eval elt (compEnvC scope cl C env)) (fun y s₂ => ∃ h' tk' t', s₂ = { s with heap := h', toks := tk' } ∧ Fr h₀ L h' m ∧ News h₀ L h' ((I, oI) :: (C, oC) :: (D, LCg.lst ys) :: news) ∧ y = .str (g z) t') E' { s with heap := h, toks := tk })
    (fin : ∀ ys, StrsAre ys (xs.map g) → Fin ys news) : LCg.CompRest prog w A h₀ L m env elt x scope cl s S (fun i v => vs.toArray[i]? = some v) Fin vs.toArray.size 0 [] news := by
  refine comp_inv (fun i ys nw => nw = news ∧ StrsAre ys ((xs.take i).map g)) ⟨rfl, by simpa using StrsAre.nil⟩ ?_ ?_
  · rintro i v ys nw I oI C oC D m₂ h tk E' hin hv ⟨rfl, hy⟩ hC hx F N off ne
    obtain ⟨z, t, rfl, hz⟩ := StrsAre.item hi i v (by simpa using hv)
    refine wpAny_mono (turn z t I oI C oC D m₂ ys h tk E' (List.mem_of_getElem? hz) hC hx F N) (fun y s₂ hq => ?_) fun _ _ e => e
    obtain ⟨h', tk', t', rfl, F', N', rfl⟩ := hq
    refine ⟨h', tk', _, rfl, F', N', off, hS, rfl, ?_⟩
    rw [List.take_add_one, hz]
    simpa using hy.append' (StrsAre.cons (g z) t' .nil)
  · rintro ys nw ⟨rfl, hy⟩
    have e : vs.toArray.size = xs.length := by simpa using hi.length
    rw [e, List.take_length] at hy
    exact fin ys hy
end
theorem slice1 (vs : List Value) : slicePick vs.toArray (some 1) none none = (vs.drop 1).toArray := by
  simpa using slicePick_from' vs.toArray 1
end Aj
end

/-! AjLoop -/
section
open PySem PySem.W PySem.Spec PySem.Calls PyProof.Rows PyProof.V
namespace Aj
/-- a turn's end: it may leave by a return or a break; else the iterator stands and the invariant holds -/
def TurnEnd (h₀ : Heap) (L I : Addr) (oI : Obj) (Jn : (Str → Option Value) → List (Addr × Obj) → Prop) (Q : Flow → Shared → Prop) (s₁ : Shared) (f : Flow) (s₂ : Shared) : Prop :=
  match f with
  | .ret v => Q (.ret v) s₂
  | .brk => Q .next s₂
  | _ => ∃ h' tk m₂ nw₂, s₂ = { s₁ with heap := h', toks := tk } ∧ Fr h₀ L h' m₂ ∧ News h₀ L h' ((I, oI) :: nw₂) ∧ (∀ p ∈ nw₂, p.1 ≠ I) ∧ Jn m₂ nw₂
/-- the loop stands before its iterable's value -/
def LoopSrc (prog : Program) (w : World) (A : Around) (env : Env) (target : PySem.Expr) (body : List Stmt) (Q : Flow → Shared → Prop) (E : Value → Shared → Prop) (xv : Value) (s₁ : Shared) : Prop :=
  wpAny (model prog w) A (pyIter xv) (fun it s₂ => codeAny (model prog w) A (.forLoop target it body [] env) (fun r s' => match r with | .ok f => Q f s' | .error e => cameBackBy (model prog w) A env E e s') s₂) E s₁
section
variable {prog : Program} {w : World} {A : Around} {s : Shared} {env : Env} {h₀ : Heap} {E : Value → Shared → Prop} {Q : Flow → Shared → Prop} {target iter : PySem.Expr} {pos : Pos} {body : List Stmt}
theorem for_src (h : wpAny (model prog w) A (eval iter env) (LoopSrc prog w A env target body Q E) E s) (hs : ∀ x, foldedSetIterable iter env x = pure x) :
    wpAny (model prog w) A (exec (.For target iter body [] pos) env) Q E s := wpAny_For h hs

theorem loop_src {I : Addr} {fp : List Addr} {n : Nat} {P : Nat → Value → Prop} {St : Nat → Heap → Prop} {m : Str → Option Value} {news : List (Addr × Obj)} {s : Shared}
    (W : Walks prog w A I fp [I] n P St) (hIo : ∀ i h, St i h → ∃ o, h.get? I = some o)
    (J : Nat → (Str → Option Value) → List (Addr × Obj) → Prop)
    (hLI : env.locals ≠ I) (hI₀ : h₀.get? I = none) (hoff : ∀ p ∈ news, p.1 ≠ I)
    (hst : St 0 s.heap) (F : Fr h₀ env.locals s.heap m) (N : News h₀ env.locals s.heap news)
    (hgo : ∀ i (s' : Shared) v (Q' : Unit → Shared → Prop), St i s'.heap → Q' () s' → wpAny (model prog w) A (letOwnedTupleGo target (.ref I) v) Q' E s') (h0 : J 0 m news)
    (turn : ∀ i v m₁ nw oI h tk, i < n → P i v → J i m₁ nw → (∀ p ∈ nw, p.1 ≠ I) → Fr h₀ env.locals h m₁ → News h₀ env.locals h ((I, oI) :: nw) →
      wpAny (model prog w) A (assign target env v) (fun _ s₃ => wpAny (model prog w) A (execs body env) (TurnEnd h₀ env.locals I oI (J (i + 1)) Q { s with heap := h, toks := tk }) E s₃) E { s with heap := h, toks := tk })
    (done : ∀ m₁ nw h tk, J n m₁ nw → Fr h₀ env.locals h m₁ → News h₀ env.locals h nw → Q .next { s with heap := h, toks := tk })
    (hJ1 : ∀ i m nw oI h', St (i + 1) h' → h'.get? I = some oI → ∀ h'', h''.get? I = some oI → News h₀ env.locals h'' nw → J (i + 1) m nw → St (i + 1) h'')
    (hE : PassesOwn (model prog w) A env E) :
    codeAny (model prog w) A (.forLoop target (.ref I) body [] env) (fun r s' => match r with | .ok f => Q f s' | .error e => cameBackBy (model prog w) A env E e s') s := by
  have old : ∀ b o, h₀.get? b = some o → b ≠ I := fun b o e hb => by rw [hb, hI₀] at e; cases e
  refine codeAny_forLoop_any
    (fun k s' => ∃ h' tk m' news' i, s' = { s with heap := h', toks := tk } ∧ St i h' ∧ Fr h₀ env.locals h' m' ∧ News h₀ env.locals h' news' ∧ (∀ p ∈ news', p.1 ≠ I) ∧ J i m' news' ∧ i ≤ n ∧ k = n + 1 - i) ?_ (n + 1)
    ⟨s.heap, s.toks, m, news, 0, rfl, hst, F, N, hoff, h0, Nat.zero_le _, rfl⟩
  rintro k s' ⟨h', tk, m', news', i, rfl, hst', F', N', hnw', hJ, hi, rfl⟩
  have next : ∀ h₁ : Heap, (∀ b o, b ∉ [I] → h'.get? b = some o → h₁.get? b = some o) → Fr h₀ env.locals h₁ m' ∧ News h₀ env.locals h₁ news' := fun h₁ hk₁ =>
    ⟨⟨F'.ns.at' fun o e => hk₁ _ o (by simpa using hLI) e, fun b o e => hk₁ b o (by simpa using old b o e) (F'.keep b o e), F'.above⟩, fun p hp => ⟨hk₁ _ _ (by simpa using hnw' p hp) (N' p hp).1, (N' p hp).2⟩⟩
  by_cases hlt : i < n
  · refine W.item i _ _ _ hlt hst' fun v h₁ tk₁ hP hst₁ hk₁ => ?_
    obtain ⟨F₁, N₁⟩ := next h₁ hk₁
    refine wpAny_passesOwn hE (hgo (i + 1) _ v _ hst₁ ?_)
    obtain ⟨oI, hoI⟩ := hIo _ _ hst₁
    refine wpAny_mono (turn i v m' news' oI h₁ tk₁ hlt hP hJ hnw' F₁ fun p hp => ?_) (fun _ s₂ h₂ => wpAny_mono h₂ (fun f s₃ h₃ => ?_) hE) hE
    · rcases List.mem_cons.mp hp with rfl | hp
      · exact ⟨hoI, Ne.symm hLI, hI₀⟩
      · exact N₁ p hp
    · cases f with
      | ret v => exact h₃
      | brk => exact h₃
      | next =>
        obtain ⟨h₃', tk₃, m₂, nw₂, rfl, F₃, N₃, off₃, hJ₃⟩ := h₃
        exact ⟨n + 1 - (i + 1), by omega, h₃', tk₃, m₂, nw₂, i + 1, rfl, hJ1 _ _ _ _ _ hst₁ hoI _ (N₃ _ (.head _)).1 (fun p hp => N₃ p (.tail _ hp)) hJ₃, F₃, fun p hp => N₃ p (.tail _ hp), off₃, hJ₃, hlt, rfl⟩
      | cont =>
        obtain ⟨h₃', tk₃, m₂, nw₂, rfl, F₃, N₃, off₃, hJ₃⟩ := h₃
        exact ⟨n + 1 - (i + 1), by omega, h₃', tk₃, m₂, nw₂, i + 1, rfl, hJ1 _ _ _ _ _ hst₁ hoI _ (N₃ _ (.head _)).1 (fun p hp => N₃ p (.tail _ hp)) hJ₃, F₃, fun p hp => N₃ p (.tail _ hp), off₃, hJ₃, hlt, rfl⟩
  · have hin : i = n := by omega
    subst hin
    refine W.done _ _ _ hst' fun h₁ tk₁ hk₁ => wpAny_execs_nil ?_
    obtain ⟨F₁, N₁⟩ := next h₁ hk₁
    exact done m' news' h₁ tk₁ hJ F₁ N₁
/-- a loop over a tuple of the ledger, by what holds between the turns -/
theorem LoopSrc.tuple {ax : Addr} {items : Array Value} {k : Nat} {m : Str → Option Value} {news : List (Addr × Obj)} {s : Shared}
    (J : Nat → (Str → Option Value) → List (Addr × Obj) → Prop) (hh : A.handled = none) (hE : PassesOwn (model prog w) A env E)
    (F : Fr h₀ env.locals s.heap m) (N : News h₀ env.locals s.heap news) (hsrc : ∀ i m nw, J i m nw → (ax, ({ cls := .type "tuple", data := .seq items k } : Obj)) ∈ nw) (h0 : J 0 m news)
    (turn : ∀ i v m₁ nw I oI h tk, items[i]? = some v → J i m₁ nw → (∀ p ∈ nw, p.1 ≠ I) → Fr h₀ env.locals h m₁ → News h₀ env.locals h ((I, oI) :: nw) →
      wpAny (model prog w) A (assign target env v) (fun _ s₃ => wpAny (model prog w) A (execs body env) (TurnEnd h₀ env.locals I oI (J (i + 1)) Q { s with heap := h, toks := tk }) E s₃) E { s with heap := h, toks := tk })
    (done : ∀ m₁ nw h tk, J items.size m₁ nw → Fr h₀ env.locals h m₁ → News h₀ env.locals h nw → Q .next { s with heap := h, toks := tk }) :
    LoopSrc prog w A env target body Q E (.ref ax) s := by
  have hax := hsrc _ _ _ h0
  have hT : s.heap.IsTuple ax items := ⟨_, (N _ hax).1, rfl, k, rfl⟩
  have hlt : ax < s.heap.objs.size := Heap.lt_size (N _ hax).1
  refine wpAny_pyIter_tuple hT ?_
  have up : ∀ b o, s.heap.get? b = some o → (s.heap.push { cls := .type "tuple_iterator", data := .fields #[.ref ax, .int 0 0] }).get? b = some o := fun b o e => Heap.get?_push_of_some _ e
  have st_of : ∀ i (h h' : Heap) o m nw, (h.IsTupleIter s.heap.objs.size ax i ∧ h.IsTuple ax items) → h.get? s.heap.objs.size = some o → h'.get? s.heap.objs.size = some o → News h₀ env.locals h' nw → (∃ j, J j m nw) → (h'.IsTupleIter s.heap.objs.size ax i ∧ h'.IsTuple ax items) := by
    rintro i h h' o m nw st e e' N' ⟨j, hJ⟩
    refine ⟨?_, ⟨_, (N' _ (hsrc _ _ _ hJ)).1, rfl, k, rfl⟩⟩
    obtain ⟨o', q, r⟩ := st.1
    rw [e] at q; cases q
    exact ⟨o, e', r⟩
  refine loop_src (Walks.tuple hh s.heap.objs.size ax (Nat.ne_of_lt hlt) items) (fun i h st => by obtain ⟨o, e, _⟩ := st.1; exact ⟨o, e⟩) J
    (Nat.ne_of_lt F.ns.lt) (next_is_new F) (fun p hp => Nat.ne_of_lt (Heap.lt_size (N p hp).1)) ⟨⟨_, Heap.get?_push_size _ rfl, rfl, rfl⟩, ⟨_, up _ _ (N _ hax).1, rfl, k, rfl⟩⟩ (F.keeps up) (N.grown up)
    (fun i s' v Q' st hQ' => letGo_tupleiter st.1 hQ') h0 (fun i v m₁ nw oI h tk _ hP hJ hoff F' N' => turn i v m₁ nw _ oI h tk hP hJ hoff F' N') done
    (fun i m nw oI h' st e h'' e' N' hJ => st_of (i + 1) h' h'' oI m nw st e e' N' ⟨_, hJ⟩) hE
/-- the same over a list -/
theorem LoopSrc.list {ax : Addr} {items : Array Value} {k : Nat} {m : Str → Option Value} {news : List (Addr × Obj)} {s : Shared}
    (J : Nat → (Str → Option Value) → List (Addr × Obj) → Prop) (hh : A.handled = none) (hE : PassesOwn (model prog w) A env E)
    (F : Fr h₀ env.locals s.heap m) (N : News h₀ env.locals s.heap news) (hsrc : ∀ i m nw, J i m nw → (ax, ({ cls := .type "list", data := .seq items k } : Obj)) ∈ nw) (h0 : J 0 m news)
    (turn : ∀ i v m₁ nw I oI h tk, items[i]? = some v → J i m₁ nw → (∀ p ∈ nw, p.1 ≠ I) → Fr h₀ env.locals h m₁ → News h₀ env.locals h ((I, oI) :: nw) →
      wpAny (model prog w) A (assign target env v) (fun _ s₃ => wpAny (model prog w) A (execs body env) (TurnEnd h₀ env.locals I oI (J (i + 1)) Q { s with heap := h, toks := tk }) E s₃) E { s with heap := h, toks := tk })
    (done : ∀ m₁ nw h tk, J items.size m₁ nw → Fr h₀ env.locals h m₁ → News h₀ env.locals h nw → Q .next { s with heap := h, toks := tk }) :
    LoopSrc prog w A env target body Q E (.ref ax) s := by
  have hax := hsrc _ _ _ h0
  have hT : s.heap.IsList ax items := ⟨_, (N _ hax).1, rfl, k, rfl⟩
  have hlt : ax < s.heap.objs.size := Heap.lt_size (N _ hax).1
  refine wpAny_pyIter_list hT ?_
  have up : ∀ b o, s.heap.get? b = some o → (s.heap.push { cls := .type "list_iterator", data := .fields #[.ref ax, .int 0 0] }).get? b = some o := fun b o e => Heap.get?_push_of_some _ e
  have st_of : ∀ i (h h' : Heap) o m nw, (h.IsListIter s.heap.objs.size ax i ∧ h.IsList ax items) → h.get? s.heap.objs.size = some o → h'.get? s.heap.objs.size = some o → News h₀ env.locals h' nw → (∃ j, J j m nw) → (h'.IsListIter s.heap.objs.size ax i ∧ h'.IsList ax items) := by
    rintro i h h' o m nw st e e' N' ⟨j, hJ⟩
    refine ⟨?_, ⟨_, (N' _ (hsrc _ _ _ hJ)).1, rfl, k, rfl⟩⟩
    obtain ⟨o', q, r⟩ := st.1
    rw [e] at q; cases q
    exact ⟨o, e', r⟩
  refine loop_src (Walks.list hh s.heap.objs.size ax (Nat.ne_of_lt hlt) items) (fun i h st => by obtain ⟨o, e, _⟩ := st.1; exact ⟨o, e⟩) J
    (Nat.ne_of_lt F.ns.lt) (next_is_new F) (fun p hp => Nat.ne_of_lt (Heap.lt_size (N p hp).1)) ⟨⟨_, Heap.get?_push_size _ rfl, rfl, rfl⟩, ⟨_, up _ _ (N _ hax).1, rfl, k, rfl⟩⟩ (F.keeps up) (N.grown up)
    (fun i s' v Q' st hQ' => letGo_listiter st.1 hQ') h0 (fun i v m₁ nw oI h tk _ hP hJ hoff F' N' => turn i v m₁ nw _ oI h tk hP hJ hoff F' N') done
    (fun i m nw oI h' st e h'' e' N' hJ => st_of (i + 1) h' h'' oI m nw st e e' N' ⟨_, hJ⟩) hE
end
end Aj
end

/-! AjDns -/
section
open PySem PySem.W PyProof.Rows
namespace Aj
/-- what _dnsname_match gives: none where it raises CertificateError -/
def dnsM (x y : Str) : Option Bool :=
  if (x.length : Int) = 0 then some false else
  if 1 < Txt.count (((Txt.split x (Str.ofString "."))[0]?).getD Str.empty) (Str.ofString "*") then none else
  if Txt.count (((Txt.split x (Str.ofString "."))[0]?).getD Str.empty) (Str.ofString "*") = 0 then some (Txt.lower x == Txt.lower y) else
  if ¬ ((Txt.split x (Str.ofString ".")).drop 1).map Txt.lower = (Txt.split (Txt.lower y) (Str.ofString ".")).drop 1 then some false else
  if ((((Txt.split x (Str.ofString "."))[0]?).getD Str.empty) == (Str.ofString "*")) = true then some (decide (0 < ((((Txt.split (Txt.lower y) (Str.ofString "."))[0]?).getD Str.empty).length : Int))) else
  if Txt.startswith (((Txt.split x (Str.ofString "."))[0]?).getD Str.empty) (Str.ofString "xn--") = true then some (Txt.lower (((Txt.split x (Str.ofString "."))[0]?).getD Str.empty) == (((Txt.split (Txt.lower y) (Str.ofString "."))[0]?).getD Str.empty)) else
  if Txt.startswith y (Str.ofString "xn--") = true then some (Txt.lower (((Txt.split x (Str.ofString "."))[0]?).getD Str.empty) == (((Txt.split (Txt.lower y) (Str.ofString "."))[0]?).getD Str.empty)) else
  if ((((Txt.split (Txt.lower y) (Str.ofString "."))[0]?).getD Str.empty).length : Int) < ((Txt.partition (Txt.lower (((Txt.split x (Str.ofString "."))[0]?).getD Str.empty)) (Str.ofString "*")).fst.length : Int) + ((Txt.partition (Txt.lower (((Txt.split x (Str.ofString "."))[0]?).getD Str.empty)) (Str.ofString "*")).snd.snd.length : Int) then some false else
  if Txt.startswith (((Txt.split (Txt.lower y) (Str.ofString "."))[0]?).getD Str.empty) (Txt.partition (Txt.lower (((Txt.split x (Str.ofString "."))[0]?).getD Str.empty)) (Str.ofString "*")).fst = true then some (Txt.endswith (((Txt.split (Txt.lower y) (Str.ofString "."))[0]?).getD Str.empty) (Txt.partition (Txt.lower (((Txt.split x (Str.ofString "."))[0]?).getD Str.empty)) (Str.ofString "*")).snd.snd) else some false
section
variable {x y l q q1 q2 : Str} {ps qs : List Str}
theorem dnsM_empty (h : (x.length : Int) = 0) : dnsM x y = some false := by unfold dnsM; rw [if_pos h]
theorem dnsM_many (h0 : (x.length : Int) ≠ 0) (hp : ps = Txt.split x (Str.ofString ".")) (hl : ps[Int.toNat 0]? = some l) (h1 : 1 < Txt.count l (Str.ofString "*")) : dnsM x y = none := by
  subst hp
  have hl' : (Txt.split x (Str.ofString "."))[0]? = some l := hl
  unfold dnsM; rw [hl', Option.getD_some, if_neg h0, if_pos h1]
theorem dnsM_none (h0 : (x.length : Int) ≠ 0) (hp : ps = Txt.split x (Str.ofString ".")) (hl : ps[Int.toNat 0]? = some l) (h1 : ¬ 1 < Txt.count l (Str.ofString "*")) (h2 : Txt.count l (Str.ofString "*") = 0) : dnsM x y = some (Txt.lower x == Txt.lower y) := by
  subst hp
  have hl' : (Txt.split x (Str.ofString "."))[0]? = some l := hl
  unfold dnsM; rw [hl', Option.getD_some, if_neg h0, if_neg h1, if_pos h2]
theorem dnsM_rest (h0 : (x.length : Int) ≠ 0) (hp : ps = Txt.split x (Str.ofString ".")) (hl : ps[Int.toNat 0]? = some l) (h1 : ¬ 1 < Txt.count l (Str.ofString "*")) (h2 : Txt.count l (Str.ofString "*") ≠ 0)
    (hq : qs = Txt.split (Txt.lower y) (Str.ofString ".")) (h3 : ¬ (ps.drop 1).map Txt.lower = qs.drop 1) : dnsM x y = some false := by
  subst hp; subst hq
  have hl' : (Txt.split x (Str.ofString "."))[0]? = some l := hl
  unfold dnsM; rw [hl', Option.getD_some, if_neg h0, if_neg h1, if_neg h2, if_pos h3]
theorem dnsM_star (h0 : (x.length : Int) ≠ 0) (hp : ps = Txt.split x (Str.ofString ".")) (hl : ps[Int.toNat 0]? = some l) (h1 : ¬ 1 < Txt.count l (Str.ofString "*")) (h2 : Txt.count l (Str.ofString "*") ≠ 0)
    (hq : qs = Txt.split (Txt.lower y) (Str.ofString ".")) (h3 : (ps.drop 1).map Txt.lower = qs.drop 1) (h4 : (l == (Str.ofString "*")) = true) (hq0 : qs[Int.toNat 0]? = some q) : dnsM x y = some (decide (0 < (q.length : Int))) := by
  subst hp; subst hq
  have hl' : (Txt.split x (Str.ofString "."))[0]? = some l := hl
  have hq' : (Txt.split (Txt.lower y) (Str.ofString "."))[0]? = some q := hq0
  unfold dnsM; rw [hl', hq', Option.getD_some, Option.getD_some, if_neg h0, if_neg h1, if_neg h2, if_neg (not_not_intro h3), if_pos h4]
theorem dnsM_xn1 (h0 : (x.length : Int) ≠ 0) (hp : ps = Txt.split x (Str.ofString ".")) (hl : ps[Int.toNat 0]? = some l) (h1 : ¬ 1 < Txt.count l (Str.ofString "*")) (h2 : Txt.count l (Str.ofString "*") ≠ 0)
    (hq : qs = Txt.split (Txt.lower y) (Str.ofString ".")) (h3 : (ps.drop 1).map Txt.lower = qs.drop 1) (h4 : (l == (Str.ofString "*")) = false) (hq0 : qs[Int.toNat 0]? = some q) (h5 : Txt.startswith l (Str.ofString "xn--") = true) : dnsM x y = some (Txt.lower l == q) := by
  subst hp; subst hq
  have hl' : (Txt.split x (Str.ofString "."))[0]? = some l := hl
  have hq' : (Txt.split (Txt.lower y) (Str.ofString "."))[0]? = some q := hq0
  unfold dnsM; rw [hl', hq', Option.getD_some, Option.getD_some, if_neg h0, if_neg h1, if_neg h2, if_neg (not_not_intro h3), if_neg (by rw [h4]; exact Bool.false_ne_true), if_pos h5]
theorem dnsM_xn2 (h0 : (x.length : Int) ≠ 0) (hp : ps = Txt.split x (Str.ofString ".")) (hl : ps[Int.toNat 0]? = some l) (h1 : ¬ 1 < Txt.count l (Str.ofString "*")) (h2 : Txt.count l (Str.ofString "*") ≠ 0)
    (hq : qs = Txt.split (Txt.lower y) (Str.ofString ".")) (h3 : (ps.drop 1).map Txt.lower = qs.drop 1) (h4 : (l == (Str.ofString "*")) = false) (hq0 : qs[Int.toNat 0]? = some q) (h5 : Txt.startswith l (Str.ofString "xn--") = false) (h6 : Txt.startswith y (Str.ofString "xn--") = true) : dnsM x y = some (Txt.lower l == q) := by
  subst hp; subst hq
  have hl' : (Txt.split x (Str.ofString "."))[0]? = some l := hl
  have hq' : (Txt.split (Txt.lower y) (Str.ofString "."))[0]? = some q := hq0
  unfold dnsM; rw [hl', hq', Option.getD_some, Option.getD_some, if_neg h0, if_neg h1, if_neg h2, if_neg (not_not_intro h3), if_neg (by rw [h4]; exact Bool.false_ne_true), if_neg (by rw [h5]; exact Bool.false_ne_true), if_pos h6]
theorem dnsM_tail (h0 : (x.length : Int) ≠ 0) (hp : ps = Txt.split x (Str.ofString ".")) (hl : ps[Int.toNat 0]? = some l) (h1 : ¬ 1 < Txt.count l (Str.ofString "*")) (h2 : Txt.count l (Str.ofString "*") ≠ 0)
    (hq : qs = Txt.split (Txt.lower y) (Str.ofString ".")) (h3 : (ps.drop 1).map Txt.lower = qs.drop 1) (h4 : (l == (Str.ofString "*")) = false) (hq0 : qs[Int.toNat 0]? = some q) (h5 : Txt.startswith l (Str.ofString "xn--") = false) (h6 : Txt.startswith y (Str.ofString "xn--") = false) :
    dnsM x y = if (q.length : Int) < ((Txt.partition (Txt.lower l) (Str.ofString "*")).fst.length : Int) + ((Txt.partition (Txt.lower l) (Str.ofString "*")).snd.snd.length : Int) then some false else
      if Txt.startswith q (Txt.partition (Txt.lower l) (Str.ofString "*")).fst = true then some (Txt.endswith q (Txt.partition (Txt.lower l) (Str.ofString "*")).snd.snd) else some false := by
  subst hp; subst hq
  have hl' : (Txt.split x (Str.ofString "."))[0]? = some l := hl
  have hq' : (Txt.split (Txt.lower y) (Str.ofString "."))[0]? = some q := hq0
  unfold dnsM; rw [hl', hq', Option.getD_some, Option.getD_some, if_neg h0, if_neg h1, if_neg h2, if_neg (not_not_intro h3), if_neg (by rw [h4]; exact Bool.false_ne_true), if_neg (by rw [h5]; exact Bool.false_ne_true), if_neg (by rw [h6]; exact Bool.false_ne_true)]
theorem dnsM_short (h0 : (x.length : Int) ≠ 0) (hp : ps = Txt.split x (Str.ofString ".")) (hl : ps[Int.toNat 0]? = some l) (h1 : ¬ 1 < Txt.count l (Str.ofString "*")) (h2 : Txt.count l (Str.ofString "*") ≠ 0)
    (hq : qs = Txt.split (Txt.lower y) (Str.ofString ".")) (h3 : (ps.drop 1).map Txt.lower = qs.drop 1) (h4 : (l == (Str.ofString "*")) = false) (hq0 : qs[Int.toNat 0]? = some q) (h5 : Txt.startswith l (Str.ofString "xn--") = false) (h6 : Txt.startswith y (Str.ofString "xn--") = false)
    (h7 : (q.length : Int) < ((Txt.partition (Txt.lower l) (Str.ofString "*")).fst.length : Int) + ((Txt.partition (Txt.lower l) (Str.ofString "*")).snd.snd.length : Int)) : dnsM x y = some false := by
  rw [dnsM_tail h0 hp hl h1 h2 hq h3 h4 hq0 h5 h6, if_pos h7]
theorem dnsM_ends (h7 : ¬ (q.length : Int) < ((Txt.partition (Txt.lower l) (Str.ofString "*")).fst.length : Int) + ((Txt.partition (Txt.lower l) (Str.ofString "*")).snd.snd.length : Int)) (h8 : Txt.startswith q1 (Txt.partition (Txt.lower l) (Str.ofString "*")).fst = true) (h0 : (x.length : Int) ≠ 0) (hp : ps = Txt.split x (Str.ofString ".")) (hl : ps[Int.toNat 0]? = some l) (h1 : ¬ 1 < Txt.count l (Str.ofString "*")) (h2 : Txt.count l (Str.ofString "*") ≠ 0)
    (hq : qs = Txt.split (Txt.lower y) (Str.ofString ".")) (h3 : (ps.drop 1).map Txt.lower = qs.drop 1) (h4 : (l == (Str.ofString "*")) = false) (hq0 : qs[Int.toNat 0]? = some q) (h5 : Txt.startswith l (Str.ofString "xn--") = false) (h6 : Txt.startswith y (Str.ofString "xn--") = false)
    (hq1 : qs[Int.toNat 0]? = some q1) (hq2 : qs[Int.toNat 0]? = some q2) : dnsM x y = some (Txt.endswith q2 (Txt.partition (Txt.lower l) (Str.ofString "*")).snd.snd) := by
  obtain rfl : q = q1 := Option.some.inj (hq0.symm.trans hq1)
  obtain rfl : q = q2 := Option.some.inj (hq0.symm.trans hq2)
  rw [dnsM_tail h0 hp hl h1 h2 hq h3 h4 hq0 h5 h6, if_neg h7, if_pos h8]
theorem dnsM_starts (h7 : ¬ (q.length : Int) < ((Txt.partition (Txt.lower l) (Str.ofString "*")).fst.length : Int) + ((Txt.partition (Txt.lower l) (Str.ofString "*")).snd.snd.length : Int)) (h8 : Txt.startswith q1 (Txt.partition (Txt.lower l) (Str.ofString "*")).fst = false) (h0 : (x.length : Int) ≠ 0) (hp : ps = Txt.split x (Str.ofString ".")) (hl : ps[Int.toNat 0]? = some l) (h1 : ¬ 1 < Txt.count l (Str.ofString "*")) (h2 : Txt.count l (Str.ofString "*") ≠ 0)
    (hq : qs = Txt.split (Txt.lower y) (Str.ofString ".")) (h3 : (ps.drop 1).map Txt.lower = qs.drop 1) (h4 : (l == (Str.ofString "*")) = false) (hq0 : qs[Int.toNat 0]? = some q) (h5 : Txt.startswith l (Str.ofString "xn--") = false) (h6 : Txt.startswith y (Str.ofString "xn--") = false)
    (hq1 : qs[Int.toNat 0]? = some q1) : dnsM x y = some (Txt.startswith q1 (Txt.partition (Txt.lower l) (Str.ofString "*")).fst) := by
  obtain rfl : q = q1 := Option.some.inj (hq0.symm.trans hq1)
  rw [dnsM_tail h0 hp hl h1 h2 hq h3 h4 hq0 h5 h6, if_neg h7, if_neg (by rw [h8]; exact Bool.false_ne_true), h8]
end

theorem parts_fit {l : List (Str × Tok)} {x y : Str} (h : l.map (·.1) = Txt.split x y) (hx : x.length ≤ 700) : ((strValues l).drop 1).toArray.size ≤ sizeLine := by
  have h1 := len_le_of_split h
  rw [List.size_toArray, List.length_drop]
  unfold strValues
  rw [List.length_map, sizeLine_eq]; omega
theorem part_le {l : List (Str × Tok)} {x : Str} {z : Str} (h : ∀ a ∈ l.map (·.1), a.length ≤ x.length) (hx : x.length ≤ 200) (hz : z ∈ (l.map (·.1)).drop 1) : z.length ≤ 200 := Nat.le_trans (h z (List.mem_of_mem_drop hz)) hx
theorem parts_asc {l : List (Str × Tok)} {x d : Str} (h : l.map (·.1) = Txt.split x d) (hx : Asc x) : ∀ z ∈ (l.map (·.1)).drop 1, Asc z := fun z hz => asc_split hx z (h ▸ List.mem_of_mem_drop hz)
theorem parts_low {l : List (Str × Tok)} {x d : Str} (h : l.map (·.1) = Txt.split x d) (hx : Asc x) : ∀ z ∈ ((l.map (·.1)).drop 1).map Txt.lower, Asc z := fun z hz => by
  obtain ⟨u, hu, rfl⟩ := List.mem_map.mp hz
  exact asc_lower (parts_asc h hx u hu)
theorem hd_le {l : List (Str × Tok)} {x : Str} {z : Str} {k : Nat} (h : ∀ a ∈ l.map (·.1), a.length ≤ x.length) (hz : (l.map (·.1))[k]? = some z) : z.length ≤ x.length := h z (List.mem_of_getElem? hz)
theorem part1_le (x y : Str) : (Txt.partition x y).1.length ≤ x.length := by
  unfold Txt.partition
  split
  · exact le_strSub _ _ _
  · exact Nat.le_refl _
theorem part2_le (x y : Str) : (Txt.partition x y).2.2.length ≤ x.length := by
  unfold Txt.partition
  split
  · exact le_strSub _ _ _
  · exact Nat.zero_le _
theorem raised_sub {base G : Heap} {l : List Env} {e : Addr} {cls : Value} {t : Addr} {vs : List Value} {news news' : List (Addr × Obj)} {h : Heap} (R : RaisedS base G l e cls t vs news h) (hs : ∀ p ∈ news', p ∈ news) : RaisedS base G l e cls t vs news' h := by
  obtain ⟨⟨B, h1, h2, h3, h4, h5⟩, h6⟩ := R
  exact ⟨⟨B, h1, h2, fun q hq => h3 q (hs q hq), h4, h5⟩, h6⟩

local macro_rules | `(tactic| walk_at "compareOp NotEq ref ref") => `(tactic| (k_here; (rename News _ _ _ _ => N9); (simp only [slice1] at N9); k_dflt (refine ne_strs (News.isList (by k_asm) (by k_mem)) (News.isList (by k_asm) (by k_mem)) (by assumption) (StrsAre.drop' (by assumption) 1) (parts_low (by assumption) (by assumption)) (parts_asc (by assumption) (asc_lower (by assumption))) (by first | units_room | ktr_units) ?_)))
local macro_rules | `(tactic| walk_at "call builtin:str.lower") => `(tactic| ((with_reducible rename ((List.map _ _)[_]? = some _) => hq9); (have hq8 := hd_le (by assumption) hq9); (refine SCL.lower (by omega) ?_); intro _))
local macro_rules | `(tactic| walk_at "call builtin:len") => `(tactic| ((with_reducible rename ((List.map _ _)[_]? = some _) => hq9); (have hq8 := hd_le (by assumption) hq9); (refine SBL.len (by omega) ?_)))
local macro_rules | `(tactic| walk_at "call builtin:len") => `(tactic| ((with_reducible show wpAny _ _ (call (Value.builtin "len") [Value.str (Prod.fst (Txt.partition _ _)) _]) _ _ _); (refine SBL.len (Int.lt_of_le_of_lt (Int.ofNat_le.mpr (part1_le _ _)) (by omega)) ?_)))
local macro_rules | `(tactic| walk_at "call builtin:len") => `(tactic| ((with_reducible show wpAny _ _ (call (Value.builtin "len") [Value.str (Prod.snd (Prod.snd (Txt.partition _ _))) _]) _ _ _); (refine SBL.len (Int.lt_of_le_of_lt (Int.ofNat_le.mpr (part2_le _ _)) (by omega)) ?_)))
local macro_rules | `(tactic| size_fits) => `(tactic| first | ((with_reducible show PySem.Str.length (PySem.reprText _) ≤ _); (rw [sizeLine_eq]; omega)) | fail "size_fits: no repr of an Ok text")
local macro_rules | `(tactic| walk_at "eval ListComp") => `(tactic| (k_here; (rename News _ _ _ _ => N9); (simp only [slice1] at N9); k_dflt (refine LCg.ListComp_U (F₀ := by k_asm) (by rfl) (by decide) (by rfl) (by decide) (by rfl) ?_)))
local macro_rules | `(tactic| walk_at "CompSrc") => `(tactic| (k_here; k_dflt (refine LCg.CompSrc.ledger (by rfl) (by k_asm) (by k_asm) (by k_mem) (parts_fit (by assumption) (by omega)) ?_); (intro g9); (refine comp_strs Txt.lower (StrsAre.drop' (by assumption) 1) (Or.inr ⟨_, by k_mem, rfl, _, rfl⟩) (fun z t I oI C oC D m₂ ys h tk E' hz hC hx F' N' => (have hzl := part_le (by assumption) (by assumption) hz; ?_)) (fun ys hys => ?_))))
local macro_rules | `(tactic| walk_at "leaving ref") => `(tactic| (k_here; first | (refine' leave_raiseS ?k1 ?k0 ?k2 ?k3 ?_; (case k0 => first | assumption | exact Heap.MadeExc.of (by assumption)); (case k2 => assumption); (case k1 => assumption); (case k3 => k_asm); k_whole; intro h' t' S' R' U'; (try dsimp only at S' R' U' ⊢)) | (refine' leave_onS ?k1 ?k2 ?k3 ?k4 ?_; (case k3 => assumption); (case k2 => assumption); (case k1 => assumption); (case k4 => assumption); k_whole; intro h' S' R' U'; (try dsimp only at S' R' U' ⊢))))
set_option maxRecDepth 100000 in
set_option maxHeartbeats 8000000 in
/-- the contract of _dnsname_match -/
theorem dns_call {w : World} {mean : ExcName → Option Value} {mg mb : Str → Option Value} {dp un : Nat} {gd : Option (List Code)} {cn : Str} {cs : Scope} {a : Addr} {ccd : Value} {cl : List (Str × Addr)} {outer : List Env} {A₀ : Around} {base h₀ : Heap} {L : Addr} {m : Str → Option Value} {news : List (Addr × Obj)} {s : Shared} {Q E : Value → Shared → Prop} (x y : Str) (t1 t2 : Tok)
    (B : Below A₀ base outer h₀) (F : Fr h₀ L s.heap m) (X : (hd.heap_39 w.params).In h₀) (N : News h₀ L s.heap news) (T : Top hd.view_39 (looseW hd.view_39 [Str.ofString "_dnsname_match", Str.ofString "match_hostname", Str.ofString "_law_signs"]) mean mg mb h₀) (hk : cs.kind = .function) (hdp : dp + 3 < recursionLimit) (hun : un + 200 < cLine) (hx : Asc x) (hy : Asc y) (hxl : x.length ≤ 200) (hyl : y.length ≤ 200) (hxr : (reprText x).length ≤ 2002)
    (hret : ∀ b, dnsM x y = some b → ∀ h' tk', Fr h₀ L h' m → News h₀ L h' news → Q (.bool b) { s with heap := h', toks := tk' })
    (hexc : dnsM x y = none → ∀ e t vs g h' tk', RaisedS base g (envX cn cs L a ccd cl :: outer) e (.ref 24) t vs news h' → Fr h₀ L g m → g.UpToSlots h' → E (.ref e) { s with heap := h', toks := tk' }) :
    wpAny (model PySem.Challenge.rw_aj5040_01.row.prog w) (ktrTop dp un gd cn cs L a ccd cl outer) (call (.ref 33) [.str x t1, .str y t2]) Q E s := by
  w_top off; revert X; k_fill; intro X
  (refine wpAny_call ?_); k_dflt (refine' code_def ?k1 ?k2 ?k3 ?k4 ?k5 ?kA ?kF ?kK ?k6 ?k7 ?k8 ?k9 ?kB ?_ ?c2 ?c3 ?c4 ?c5; (case kA => exact rfl); (case kF => exact rfl); (case kK => assumption); (case k1 => k_asm); (case k2 => k_asm); (case k3 => k_asm); (case k4 => k_asm); (case k5 => k_asm); (case k6 => k_is); (case k7 => k_is); (case k8 => ktr_room); (case k9 => first | exact BindsTo.of_eq rfl | exact binds_K (by k_in) rfl (by k_is) rfl rfl rfl); (case c5 => decide); (case kB => exact locs rfl); (case c2 => exact rfl); (case c3 => exact rfl); (case c4 => exact rfl); k_whole; intro g' L' h' FG' F' N' B' X' T'; (try dsimp only); (try k_fold))
  repeat' first
    | exact ⟨_, _, _, rfl, by assumption, by assumption, rfl⟩
    | (with_reducible refine hexc (dnsM_many (by assumption) (by assumption) (by assumption) (by assumption)) _ _ _ _ _ _ (raised_sub (by assumption) ?_) (by assumption) (by assumption); exact fun p hp => by simp only [List.mem_cons]; exact Or.inr (Or.inr hp))
    | ((with_reducible refine hret _ ?_ _ _ ?_ ?_); (focus (first | exact dnsM_empty (by assumption) | exact dnsM_none (by assumption) (by assumption) (by assumption) (by assumption) (by assumption) | exact dnsM_ends (by assumption) (by assumption) (by assumption) (by assumption) (by assumption) (by assumption) (by assumption) (by assumption) (by assumption) (by assumption) (by assumption) (by assumption) (by assumption) (by assumption) (by assumption) | exact dnsM_starts (by assumption) (by assumption) (by assumption) (by assumption) (by assumption) (by assumption) (by assumption) (by assumption) (by assumption) (by assumption) (by assumption) (by assumption) (by assumption) (by assumption) | exact dnsM_short (by assumption) (by assumption) (by assumption) (by assumption) (by assumption) (by assumption) (by assumption) (by assumption) (by assumption) (by assumption) (by assumption) (by assumption) | exact dnsM_xn1 (by assumption) (by assumption) (by assumption) (by assumption) (by assumption) (by assumption) (by assumption) (by assumption) (by assumption) (by assumption) | exact dnsM_xn2 (by assumption) (by assumption) (by assumption) (by assumption) (by assumption) (by assumption) (by assumption) (by assumption) (by assumption) (by assumption) (by assumption) | exact dnsM_star (by assumption) (by assumption) (by assumption) (by assumption) (by assumption) (by assumption) (by assumption) (by assumption) (by assumption) | exact dnsM_rest (by assumption) (by assumption) (by assumption) (by assumption) (by assumption) (by assumption) (by assumption))); (focus k_asm); (focus (first | k_asm | (refine cb_drop (by assumption) ?_; kcj_all))))
    | (k_unfold; (try dsimp only))
    | (k_end; wrow_close)
    | walk1
    | (dsimp only; walk1)
    | (leave1; walk_say "STEP leave1"; try dsimp only)
end Aj
end

/-! AjSpec -/
section
open PySem PySem.W PySem.Spec PySem.Calls PyProof.Rows PyProof.V
namespace Aj
abbrev tup (vs : List Value) (n : Nat) : Obj := { cls := .type "tuple", data := .seq vs.toArray n }
/-- the ledger bears the pairs of texts -/
inductive PairsIn (news : List (Addr × Obj)) : List Value → List (Str × Str) → Prop
  | nil : PairsIn news [] []
  | cons {a : Addr} {n : Nat} {k v : Str} {t u : Tok} {vs : List Value} {ps : List (Str × Str)} : (a, tup [.str k t, .str v u] n) ∈ news → PairsIn news vs ps → PairsIn news (.ref a :: vs) ((k, v) :: ps)
theorem PairsIn.mono {news news' : List (Addr × Obj)} (hs : ∀ p ∈ news, p ∈ news') {vs : List Value} {ps : List (Str × Str)} (h : PairsIn news vs ps) : PairsIn news' vs ps := by
  induction h with
  | nil => exact .nil
  | cons hm _ ih => exact .cons (hs _ hm) ih
theorem PairsIn.length {news : List (Addr × Obj)} {vs : List Value} {ps : List (Str × Str)} (h : PairsIn news vs ps) : vs.length = ps.length := by
  induction h with
  | nil => rfl
  | cons _ _ ih => rw [List.length_cons, List.length_cons, ih]
theorem PairsIn.item {news : List (Addr × Obj)} {vs : List Value} {ps : List (Str × Str)} (h : PairsIn news vs ps) : ∀ (i : Nat) (v : Value), vs[i]? = some v →
    ∃ a n k x t u, v = .ref a ∧ (a, tup [.str k t, .str x u] n) ∈ news ∧ ps[i]? = some (k, x) ∧ ps.drop i = (k, x) :: ps.drop (i + 1) := by
  induction h with
  | nil => intro i v hv; simp at hv
  | cons hm _ ih =>
    intro i v hv
    cases i with
    | zero => simp at hv; subst hv; exact ⟨_, _, _, _, _, _, rfl, hm, by simp, by simp⟩
    | succ i =>
      obtain ⟨a, n, k, x, t, u, h1, h2, h3, h4⟩ := ih i v (by simpa using hv)
      exact ⟨a, n, k, x, t, u, h1, h2, by simpa using h3, by simpa using h4⟩
/-- the ledger bears rows of pairs -/
inductive RowsIn (news : List (Addr × Obj)) : List Value → List (List (Str × Str)) → Prop
  | nil : RowsIn news [] []
  | cons {a : Addr} {n : Nat} {us vs : List Value} {r : List (Str × Str)} {rs : List (List (Str × Str))} : (a, tup us n) ∈ news → PairsIn news us r → RowsIn news vs rs → RowsIn news (.ref a :: vs) (r :: rs)
theorem RowsIn.mono {news news' : List (Addr × Obj)} (hs : ∀ p ∈ news, p ∈ news') {vs : List Value} {rs : List (List (Str × Str))} (h : RowsIn news vs rs) : RowsIn news' vs rs := by
  induction h with
  | nil => exact .nil
  | cons hm hp _ ih => exact .cons (hs _ hm) (hp.mono hs) ih
theorem RowsIn.length {news : List (Addr × Obj)} {vs : List Value} {rs : List (List (Str × Str))} (h : RowsIn news vs rs) : vs.length = rs.length := by
  induction h with
  | nil => rfl
  | cons _ _ _ ih => rw [List.length_cons, List.length_cons, ih]
theorem RowsIn.item {news : List (Addr × Obj)} {vs : List Value} {rs : List (List (Str × Str))} (h : RowsIn news vs rs) : ∀ (i : Nat) (v : Value), vs[i]? = some v →
    ∃ a n us r, v = .ref a ∧ (a, tup us n) ∈ news ∧ PairsIn news us r ∧ rs[i]? = some r ∧ rs.drop i = r :: rs.drop (i + 1) := by
  induction h with
  | nil => intro i v hv; simp at hv
  | cons hm hp _ ih =>
    intro i v hv
    cases i with
    | zero => simp at hv; subst hv; exact ⟨_, _, _, _, rfl, hm, hp, by simp, by simp⟩
    | succ i =>
      obtain ⟨a, n, us, r, h1, h2, h3, h4, h5⟩ := ih i v (by simpa using hv)
      exact ⟨a, n, us, r, h1, h2, h3, by simpa using h4, by simpa using h5⟩

/-- how a walk over the pairs ends -/
inductive Out where
  | taken
  | raised
  | rest (names : List Str)
def sanW (y : Str) : List (Str × Str) → List Str → Out
  | [], acc => .rest acc
  | (k, v) :: r, acc => if (k == Str.ofString "DNS") = true then (match dnsM v y with | none => .raised | some true => .taken | some false => sanW y r (acc ++ [v]))
      else if (k == Str.ofString "IP Address") = true then sanW y r (acc ++ [v]) else sanW y r acc
def rowW (y : Str) : List (Str × Str) → List Str → Out
  | [], acc => .rest acc
  | (k, v) :: r, acc => if (k == Str.ofString "commonName") = true then (match dnsM v y with | none => .raised | some true => .taken | some false => rowW y r (acc ++ [v]))
      else rowW y r acc
def rowsW (y : Str) : List (List (Str × Str)) → List Str → Out
  | [], acc => .rest acc
  | r :: rs, acc => match rowW y r acc with | .rest acc' => rowsW y rs acc' | o => o
/-- how match_hostname ends -/
def mhW (y : Str) (b : Bool) (ps : List (Str × Str)) (rows : List (List (Str × Str))) : Out :=
  match sanW y ps [] with
  | .rest acc => if b = true ∧ acc = [] then rowsW y rows [] else .rest acc
  | o => o
def Good (x : Str) : Prop := Asc x ∧ x.length ≤ 200
theorem Good.repr {x : Str} (h : Good x) : (reprText x).length ≤ 2002 := by
  have := StrLaws.reprText_len x (fun c hc => Nat.lt_trans (h.1 c hc) (by decide))
  have := h.2
  omega
section
variable {y k v : Str} {r : List (Str × Str)} {acc : List Str} {o : Out}
theorem sanW_taken (hk : (k == Str.ofString "DNS") = true) (hm : dnsM v y = some true) : sanW y ((k, v) :: r) acc = .taken := by simp only [sanW]; rw [if_pos hk, hm]
theorem sanW_raised (hk : (k == Str.ofString "DNS") = true) (hm : dnsM v y = none) : sanW y ((k, v) :: r) acc = .raised := by simp only [sanW]; rw [if_pos hk, hm]
theorem sanW_on (hk : (k == Str.ofString "DNS") = true) (hm : dnsM v y = some false) : sanW y ((k, v) :: r) acc = sanW y r (acc ++ [v]) := by simp only [sanW]; rw [if_pos hk, hm]
theorem sanW_ip (hk : (k == Str.ofString "DNS") = false) (hi : (k == Str.ofString "IP Address") = true) : sanW y ((k, v) :: r) acc = sanW y r (acc ++ [v]) := by simp only [sanW]; rw [if_neg (by rw [hk]; exact Bool.false_ne_true), if_pos hi]
theorem sanW_off (hk : (k == Str.ofString "DNS") = false) (hi : (k == Str.ofString "IP Address") = false) : sanW y ((k, v) :: r) acc = sanW y r acc := by simp only [sanW]; rw [if_neg (by rw [hk]; exact Bool.false_ne_true), if_neg (by rw [hi]; exact Bool.false_ne_true)]
theorem rowW_taken (hk : (k == Str.ofString "commonName") = true) (hm : dnsM v y = some true) : rowW y ((k, v) :: r) acc = .taken := by simp only [rowW]; rw [if_pos hk, hm]
theorem rowW_raised (hk : (k == Str.ofString "commonName") = true) (hm : dnsM v y = none) : rowW y ((k, v) :: r) acc = .raised := by simp only [rowW]; rw [if_pos hk, hm]
theorem rowW_on (hk : (k == Str.ofString "commonName") = true) (hm : dnsM v y = some false) : rowW y ((k, v) :: r) acc = rowW y r (acc ++ [v]) := by simp only [rowW]; rw [if_pos hk, hm]
theorem rowW_off (hk : (k == Str.ofString "commonName") = false) : rowW y ((k, v) :: r) acc = rowW y r acc := by simp only [rowW]; rw [if_neg (by rw [hk]; exact Bool.false_ne_true)]
end
section
variable {y k x : Str} {rest ps : List (Str × Str)} {rows : List (List (Str × Str))} {acc : List Str} {total : Out} {b bb : Bool} {n : Nat}
/-- what holds between the turns: the walk's end, a bound, the texts gathered are good -/
def Inv (W : List (Str × Str) → List Str → Out) (total : Out) (n : Nat) (r : List (Str × Str)) (acc : List Str) : Prop := W r acc = total ∧ acc.length + r.length ≤ n ∧ ∀ z ∈ acc, Good z
theorem inv_push {W : List (Str × Str) → List Str → Out} (e : W ((k, x) :: rest) acc = W rest (acc ++ [x])) (h : Inv W total n ((k, x) :: rest) acc) (hg : Good x) : Inv W total n rest (acc ++ [x]) := by
  obtain ⟨h1, h2, h3⟩ := h
  refine ⟨e ▸ h1, ?_, ?_⟩
  · simp only [List.length_cons, List.length_append, List.length_nil] at h2 ⊢; omega
  · intro z hz
    rcases List.mem_append.mp hz with hz | hz
    · exact h3 z hz
    · rw [List.mem_singleton.mp hz]; exact hg
theorem inv_keep {W : List (Str × Str) → List Str → Out} (e : W ((k, x) :: rest) acc = W rest acc) (h : Inv W total n ((k, x) :: rest) acc) : Inv W total n rest acc := by
  obtain ⟨h1, h2, h3⟩ := h
  refine ⟨e ▸ h1, ?_, h3⟩
  simp only [List.length_cons] at h2; omega
theorem san_on (hk : (k == Str.ofString "DNS") = true) (hm : dnsM x y = some b) (hb : b = false) (h : Inv (sanW y) total n ((k, x) :: rest) acc) (hg : Good x) : Inv (sanW y) total n rest (acc ++ [x]) := inv_push (sanW_on hk (hb ▸ hm)) h hg
theorem san_ip (hk : (k == Str.ofString "DNS") = false) (hi : (k == Str.ofString "IP Address") = true) (h : Inv (sanW y) total n ((k, x) :: rest) acc) (hg : Good x) : Inv (sanW y) total n rest (acc ++ [x]) := inv_push (sanW_ip hk hi) h hg
theorem san_off (hk : (k == Str.ofString "DNS") = false) (hi : (k == Str.ofString "IP Address") = false) (h : Inv (sanW y) total n ((k, x) :: rest) acc) : Inv (sanW y) total n rest acc := inv_keep (sanW_off hk hi) h
theorem san_taken (hk : (k == Str.ofString "DNS") = true) (hm : dnsM x y = some b) (hb : b = true) (h : Inv (sanW y) (sanW y ps []) n ((k, x) :: rest) acc) : mhW y bb ps rows = .taken := by
  have := h.1
  rw [sanW_taken hk (hb ▸ hm)] at this
  unfold mhW; rw [← this]
theorem san_raised (hk : (k == Str.ofString "DNS") = true) (hm : dnsM x y = none) (h : Inv (sanW y) (sanW y ps []) n ((k, x) :: rest) acc) : mhW y bb ps rows ≠ .taken := by
  have := h.1
  rw [sanW_raised hk hm] at this
  unfold mhW; rw [← this]
  exact fun e => nomatch e
theorem row_on (hk : (k == Str.ofString "commonName") = true) (hm : dnsM x y = some b) (hb : b = false) (h : Inv (rowW y) total n ((k, x) :: rest) acc) (hg : Good x) : Inv (rowW y) total n rest (acc ++ [x]) := inv_push (rowW_on hk (hb ▸ hm)) h hg
theorem row_off (hk : (k == Str.ofString "commonName") = false) (h : Inv (rowW y) total n ((k, x) :: rest) acc) : Inv (rowW y) total n rest acc := inv_keep (rowW_off hk) h
end
end Aj
end

/-! AjPairs -/
section
open PySem PySem.W PySem.Spec PySem.Calls PyProof.Rows PyProof.V
namespace Aj
abbrev lsO (dv : List Value) (c : Nat) : Obj := { cls := .type "list", data := .seq dv.toArray c }
/-- a turn of the loop over pairs has ended -/
def PairEnd (h₀ : Heap) (L I : Addr) (oI : Obj) (l : Addr) (cst : List (Addr × Obj)) (m₀ : Str → Option Value) (R : List Str → Prop) (Q : Flow → Shared → Prop) (s₁ : Shared) (f : Flow) (s₂ : Shared) : Prop :=
  match f with
  | .ret v => Q (.ret v) s₂
  | .brk => Q .next s₂
  | _ => ∃ h' tk u1 u2 dv c acc, s₂ = { s₁ with heap := h', toks := tk } ∧ Fr h₀ L h' (fun z => if z = Str.ofString "value" then u2 else if z = Str.ofString "key" then u1 else m₀ z) ∧ News h₀ L h' ((I, oI) :: (l, lsO dv c) :: cst) ∧ StrsAre dv acc ∧ R acc
section
variable {prog : Program} {w : World} {A : Around} {s : Shared} {env : Env} {h₀ : Heap} {E : Value → Shared → Prop} {Q : Flow → Shared → Prop} {target : PySem.Expr} {body : List Stmt}
theorem PairEnd.intro {L I : Addr} {oI : Obj} {l : Addr} {cst all : List (Addr × Obj)} {m₀ m' : Str → Option Value} {R : List Str → Prop} {s₁ : Shared} {f : Flow} {h' : Heap} {tk : Nat} {dv : List Value} {c : Nat} {acc : List Str}
    (hf : f = .next ∨ f = .cont) (F : Fr h₀ L h' m') (N : News h₀ L h' all) (hs : ∀ p ∈ (I, oI) :: (l, lsO dv c) :: cst, p ∈ all) (hm : ∀ z, z ≠ Str.ofString "value" → z ≠ Str.ofString "key" → m' z = m₀ z) (hd : StrsAre dv acc) (hR : R acc) :
    PairEnd h₀ L I oI l cst m₀ R Q s₁ f { s₁ with heap := h', toks := tk } := by
  have e : m' = fun z => if z = Str.ofString "value" then m' (Str.ofString "value") else if z = Str.ofString "key" then m' (Str.ofString "key") else m₀ z := by
    funext z
    by_cases h1 : z = Str.ofString "value"
    · rw [if_pos h1, h1]
    · rw [if_neg h1]
      by_cases h2 : z = Str.ofString "key"
      · rw [if_pos h2, h2]
      · rw [if_neg h2, hm z h1 h2]
  rw [e] at F
  rcases hf with rfl | rfl
  · exact ⟨h', tk, _, _, dv, c, acc, rfl, F, fun p hp => N p (hs p hp), hd, hR⟩
  · exact ⟨h', tk, _, _, dv, c, acc, rfl, F, fun p hp => N p (hs p hp), hd, hR⟩
/-- a loop over a tuple of pairs that gathers texts into one list -/
theorem loop_pairs {ax l : Addr} {vs dv₀ : List Value} {nt c₀ : Nat} {ps : List (Str × Str)} {acc₀ : List Str} {m₀ : Str → Option Value} {cst : List (Addr × Obj)} {s : Shared} (R : List (Str × Str) → List Str → Prop)
    (hh : A.handled = none) (hE : PassesOwn (model prog w) A env E)
    (hax : (ax, tup vs nt) ∈ cst) (hps : PairsIn cst vs ps) (F : Fr h₀ env.locals s.heap m₀) (N : News h₀ env.locals s.heap ((l, lsO dv₀ c₀) :: cst)) (hd : StrsAre dv₀ acc₀) (hR : R ps acc₀)
    (turn : ∀ k x t u a n u1 u2 dv c acc rest I oI h tk, (k, x) ∈ ps → (a, tup [.str k t, .str x u] n) ∈ cst → StrsAre dv acc → R ((k, x) :: rest) acc → (@Ne Nat l I) → (∀ p ∈ cst, p.1 ≠ I) →
      Fr h₀ env.locals h (fun z => if z = Str.ofString "value" then u2 else if z = Str.ofString "key" then u1 else m₀ z) → News h₀ env.locals h ((I, oI) :: (l, lsO dv c) :: cst) →
      wpAny (model prog w) A (assign target env (.ref a)) (fun _ s₃ => wpAny (model prog w) A (execs body env) (PairEnd h₀ env.locals I oI l cst m₀ (R rest) Q { s with heap := h, toks := tk }) E s₃) E { s with heap := h, toks := tk })
    (done : ∀ u1 u2 dv c acc h tk, StrsAre dv acc → R [] acc → Fr h₀ env.locals h (fun z => if z = Str.ofString "value" then u2 else if z = Str.ofString "key" then u1 else m₀ z) → News h₀ env.locals h ((l, lsO dv c) :: cst) → Q .next { s with heap := h, toks := tk }) :
    LoopSrc prog w A env target body Q E (.ref ax) s := by
  have e0 : ∀ m : Str → Option Value, m = fun z => if z = Str.ofString "value" then m (Str.ofString "value") else if z = Str.ofString "key" then m (Str.ofString "key") else m z := by
    intro m
    funext z
    by_cases h1 : z = Str.ofString "value"
    · rw [if_pos h1, h1]
    · rw [if_neg h1]
      by_cases h2 : z = Str.ofString "key"
      · rw [if_pos h2, h2]
      · rw [if_neg h2]
  refine LoopSrc.tuple (items := vs.toArray) (k := nt) (fun i m nw => ∃ u1 u2 dv c acc, m = (fun z => if z = Str.ofString "value" then u2 else if z = Str.ofString "key" then u1 else m₀ z) ∧ nw = (l, lsO dv c) :: cst ∧ StrsAre dv acc ∧ R (ps.drop i) acc) hh hE F N ?_ ?_ ?_ ?_
  · rintro i m nw ⟨_, _, _, _, _, _, rfl, _, _⟩
    exact List.mem_cons_of_mem _ hax
  · exact ⟨_, _, dv₀, c₀, acc₀, e0 m₀, rfl, hd, by simpa using hR⟩
  · rintro i v m₁ nw I oI h tk hv ⟨u1, u2, dv, c, acc, rfl, rfl, hd', hR'⟩ hoff F' N'
    obtain ⟨a, n, k, x, t, u, rfl, hm, hi, hdrop⟩ := hps.item i v (by simpa using hv)
    rw [hdrop] at hR'
    refine wpAny_mono (turn k x t u a n u1 u2 dv c acc _ I oI h tk (List.mem_of_getElem? hi) hm hd' hR' (hoff _ List.mem_cons_self) (fun p hp => hoff p (List.mem_cons_of_mem _ hp)) F' N') (fun _ s₃ h₃ => wpAny_mono h₃ (fun f s₄ h₄ => ?_) fun _ _ e => e) fun _ _ e => e
    cases f with
    | ret v => exact h₄
    | brk => exact h₄
    | next =>
      obtain ⟨h', tk', u1', u2', dv', c', acc', rfl, F₄, N₄, hd₄, hR₄⟩ := h₄
      exact ⟨h', tk', _, _, rfl, F₄, N₄, hoff_of hoff, _, _, dv', c', acc', rfl, rfl, hd₄, hR₄⟩
    | cont =>
      obtain ⟨h', tk', u1', u2', dv', c', acc', rfl, F₄, N₄, hd₄, hR₄⟩ := h₄
      exact ⟨h', tk', _, _, rfl, F₄, N₄, hoff_of hoff, _, _, dv', c', acc', rfl, rfl, hd₄, hR₄⟩
  · rintro m₁ nw h tk ⟨u1, u2, dv, c, acc, rfl, rfl, hd', hR'⟩ F' N'
    refine done u1 u2 dv c acc h tk hd' ?_ F' N'
    have e : vs.toArray.size = ps.length := by simpa using hps.length
    rw [e, List.drop_length] at hR'
    exact hR'
where
  hoff_of {I l : Addr} {o o' : Obj} {cst : List (Addr × Obj)} (hoff : ∀ p ∈ (l, o) :: cst, p.1 ≠ I) : ∀ p ∈ (l, o') :: cst, p.1 ≠ I := fun p hp => by
    rcases List.mem_cons.mp hp with rfl | hp
    · exact hoff (l, o) List.mem_cons_self
    · exact hoff p (List.mem_cons_of_mem _ hp)
/-- what dict.get gives: a tuple of pairs of the ledger, or nothing -/
def SanIs (news : List (Addr × Obj)) (x1 : Option Value) (ps : List (Str × Str)) : Prop :=
  (∃ tv vs nt, x1 = some (.ref tv) ∧ (tv, tup vs nt) ∈ news ∧ PairsIn news vs ps) ∨ (x1 = none ∧ ps = [])
theorem loop_opt {x1 : Option Value} {D0 l : Addr} {dv₀ : List Value} {n0 c₀ : Nat} {ps : List (Str × Str)} {acc₀ : List Str} {m₀ : Str → Option Value} {news : List (Addr × Obj)} {s : Shared} (R : List (Str × Str) → List Str → Prop)
    (hx : SanIs news x1 ps) (hh : A.handled = none) (hE : PassesOwn (model prog w) A env E)
    (F : Fr h₀ env.locals s.heap m₀) (N : News h₀ env.locals s.heap ((D0, tup [] n0) :: (l, lsO dv₀ c₀) :: news)) (hd : StrsAre dv₀ acc₀) (hR : R ps acc₀)
    (turn : ∀ k x t u a n u1 u2 dv c acc rest I oI h tk, (k, x) ∈ ps → (a, tup [.str k t, .str x u] n) ∈ (D0, tup [] n0) :: news → StrsAre dv acc → R ((k, x) :: rest) acc → (@Ne Nat l I) → (∀ p ∈ (D0, tup [] n0) :: news, p.1 ≠ I) →
      Fr h₀ env.locals h (fun z => if z = Str.ofString "value" then u2 else if z = Str.ofString "key" then u1 else m₀ z) → News h₀ env.locals h ((I, oI) :: (l, lsO dv c) :: (D0, tup [] n0) :: news) →
      wpAny (model prog w) A (assign target env (.ref a)) (fun _ s₃ => wpAny (model prog w) A (execs body env) (PairEnd h₀ env.locals I oI l ((D0, tup [] n0) :: news) m₀ (R rest) Q { s with heap := h, toks := tk }) E s₃) E { s with heap := h, toks := tk })
    (done : ∀ l1, l1 = l → ∀ u1 u2 dv c acc h tk, StrsAre dv acc → R [] acc → Fr h₀ env.locals h (fun z => if z = Str.ofString "value" then u2 else if z = Str.ofString "key" then u1 else m₀ z) → News h₀ env.locals h ((l, lsO dv c) :: (D0, tup [] n0) :: news) → Q .next { s with heap := h, toks := tk }) :
    LoopSrc prog w A env target body Q E (x1.getD (.ref D0)) s := by
  have N' : News h₀ env.locals s.heap ((l, lsO dv₀ c₀) :: (D0, tup [] n0) :: news) := fun p hp => N p (by
    rcases List.mem_cons.mp hp with rfl | hp
    · exact .tail _ (.head _)
    · rcases List.mem_cons.mp hp with rfl | hp
      · exact .head _
      · exact .tail _ (.tail _ hp))
  rcases hx with ⟨tv, vs, nt, rfl, hm, hp⟩ | ⟨rfl, rfl⟩
  · exact loop_pairs R hh hE (List.mem_cons_of_mem _ hm) (hp.mono fun p hp => List.mem_cons_of_mem _ hp) F N' hd hR turn (done l rfl)
  · exact loop_pairs R hh hE (vs := []) List.mem_cons_self .nil F N' hd hR turn (done l rfl)
end
end Aj
end

/-! AjRows -/
section
open PySem PySem.W PySem.Spec PySem.Calls PyProof.Rows PyProof.V
namespace Aj
/-- a turn of the loop over rows has ended -/
def RowEnd (h₀ : Heap) (L I : Addr) (oI : Obj) (l : Addr) (cst : List (Addr × Obj)) (m₀ : Str → Option Value) (R : List Str → Prop) (Q : Flow → Shared → Prop) (s₁ : Shared) (f : Flow) (s₂ : Shared) : Prop :=
  match f with
  | .ret v => Q (.ret v) s₂
  | .brk => Q .next s₂
  | _ => ∃ h' tk u0 u1 u2 dv c acc, s₂ = { s₁ with heap := h', toks := tk } ∧ Fr h₀ L h' (fun z => if z = Str.ofString "sub" then u0 else if z = Str.ofString "value" then u2 else if z = Str.ofString "key" then u1 else m₀ z) ∧ News h₀ L h' ((I, oI) :: (l, lsO dv c) :: cst) ∧ StrsAre dv acc ∧ R acc
theorem three (m' m₀ : Str → Option Value) (hm : ∀ z, z ≠ Str.ofString "sub" → z ≠ Str.ofString "value" → z ≠ Str.ofString "key" → m' z = m₀ z) :
    m' = fun z => if z = Str.ofString "sub" then m' (Str.ofString "sub") else if z = Str.ofString "value" then m' (Str.ofString "value") else if z = Str.ofString "key" then m' (Str.ofString "key") else m₀ z := by
  funext z
  by_cases h0 : z = Str.ofString "sub"
  · rw [if_pos h0, h0]
  · rw [if_neg h0]
    by_cases h1 : z = Str.ofString "value"
    · rw [if_pos h1, h1]
    · rw [if_neg h1]
      by_cases h2 : z = Str.ofString "key"
      · rw [if_pos h2, h2]
      · rw [if_neg h2, hm z h0 h1 h2]
section
variable {prog : Program} {w : World} {A : Around} {s : Shared} {env : Env} {h₀ : Heap} {E : Value → Shared → Prop} {Q : Flow → Shared → Prop} {target : PySem.Expr} {body : List Stmt}
theorem RowEnd.intro {L I : Addr} {oI : Obj} {l : Addr} {cst all : List (Addr × Obj)} {m₀ m' : Str → Option Value} {R : List Str → Prop} {s₁ : Shared} {f : Flow} {h' : Heap} {tk : Nat} {dv : List Value} {c : Nat} {acc : List Str}
    (hf : f = .next ∨ f = .cont) (F : Fr h₀ L h' m') (N : News h₀ L h' all) (hs : ∀ p ∈ (I, oI) :: (l, lsO dv c) :: cst, p ∈ all) (hm : ∀ z, z ≠ Str.ofString "sub" → z ≠ Str.ofString "value" → z ≠ Str.ofString "key" → m' z = m₀ z) (hd : StrsAre dv acc) (hR : R acc) :
    RowEnd h₀ L I oI l cst m₀ R Q s₁ f { s₁ with heap := h', toks := tk } := by
  rw [three m' m₀ hm] at F
  rcases hf with rfl | rfl
  · exact ⟨h', tk, _, _, _, dv, c, acc, rfl, F, fun p hp => N p (hs p hp), hd, hR⟩
  · exact ⟨h', tk, _, _, _, dv, c, acc, rfl, F, fun p hp => N p (hs p hp), hd, hR⟩
/-- what dict.get gives: a tuple of rows of the ledger, or nothing -/
def SubIs (news : List (Addr × Obj)) (x2 : Option Value) (rows : List (List (Str × Str))) : Prop :=
  (∃ sv rs nt, x2 = some (.ref sv) ∧ (sv, tup rs nt) ∈ news ∧ RowsIn news rs rows) ∨ (x2 = none ∧ rows = [])
theorem loop_rows {ax l : Addr} {vs dv₀ : List Value} {nt c₀ : Nat} {rows : List (List (Str × Str))} {acc₀ : List Str} {m₀ : Str → Option Value} {cst : List (Addr × Obj)} {s : Shared} (R : List (List (Str × Str)) → List Str → Prop)
    (hh : A.handled = none) (hE : PassesOwn (model prog w) A env E)
    (hax : (ax, tup vs nt) ∈ cst) (hps : RowsIn cst vs rows) (F : Fr h₀ env.locals s.heap m₀) (N : News h₀ env.locals s.heap ((l, lsO dv₀ c₀) :: cst)) (hd : StrsAre dv₀ acc₀) (hR : R rows acc₀)
    (turn : ∀ r us a n u0 u1 u2 dv c acc rest I oI h tk, r ∈ rows → (a, tup us n) ∈ cst → PairsIn cst us r → StrsAre dv acc → R (r :: rest) acc → (@Ne Nat l I) → (∀ p ∈ cst, p.1 ≠ I) →
      Fr h₀ env.locals h (fun z => if z = Str.ofString "sub" then u0 else if z = Str.ofString "value" then u2 else if z = Str.ofString "key" then u1 else m₀ z) → News h₀ env.locals h ((I, oI) :: (l, lsO dv c) :: cst) →
      wpAny (model prog w) A (assign target env (.ref a)) (fun _ s₃ => wpAny (model prog w) A (execs body env) (RowEnd h₀ env.locals I oI l cst m₀ (R rest) Q { s with heap := h, toks := tk }) E s₃) E { s with heap := h, toks := tk })
    (done : ∀ u0 u1 u2 dv c acc h tk, StrsAre dv acc → R [] acc → Fr h₀ env.locals h (fun z => if z = Str.ofString "sub" then u0 else if z = Str.ofString "value" then u2 else if z = Str.ofString "key" then u1 else m₀ z) → News h₀ env.locals h ((l, lsO dv c) :: cst) → Q .next { s with heap := h, toks := tk }) :
    LoopSrc prog w A env target body Q E (.ref ax) s := by
  refine LoopSrc.tuple (items := vs.toArray) (k := nt) (fun i m nw => ∃ u0 u1 u2 dv c acc, m = (fun z => if z = Str.ofString "sub" then u0 else if z = Str.ofString "value" then u2 else if z = Str.ofString "key" then u1 else m₀ z) ∧ nw = (l, lsO dv c) :: cst ∧ StrsAre dv acc ∧ R (rows.drop i) acc) hh hE F N ?_ ?_ ?_ ?_
  · rintro i m nw ⟨_, _, _, _, _, _, _, rfl, _, _⟩
    exact List.mem_cons_of_mem _ hax
  · exact ⟨_, _, _, dv₀, c₀, acc₀, three m₀ m₀ (fun _ _ _ _ => rfl), rfl, hd, by simpa using hR⟩
  · rintro i v m₁ nw I oI h tk hv ⟨u0, u1, u2, dv, c, acc, rfl, rfl, hd', hR'⟩ hoff F' N'
    obtain ⟨a, n, us, r, rfl, hm, hp, hi, hdrop⟩ := hps.item i v (by simpa using hv)
    rw [hdrop] at hR'
    refine wpAny_mono (turn r us a n u0 u1 u2 dv c acc _ I oI h tk (List.mem_of_getElem? hi) hm hp hd' hR' (hoff _ List.mem_cons_self) (fun p hp => hoff p (List.mem_cons_of_mem _ hp)) F' N') (fun _ s₃ h₃ => wpAny_mono h₃ (fun f s₄ h₄ => ?_) fun _ _ e => e) fun _ _ e => e
    cases f with
    | ret v => exact h₄
    | brk => exact h₄
    | next =>
      obtain ⟨h', tk', u0', u1', u2', dv', c', acc', rfl, F₄, N₄, hd₄, hR₄⟩ := h₄
      exact ⟨h', tk', _, _, rfl, F₄, N₄, loop_pairs.hoff_of hoff, _, _, _, dv', c', acc', rfl, rfl, hd₄, hR₄⟩
    | cont =>
      obtain ⟨h', tk', u0', u1', u2', dv', c', acc', rfl, F₄, N₄, hd₄, hR₄⟩ := h₄
      exact ⟨h', tk', _, _, rfl, F₄, N₄, loop_pairs.hoff_of hoff, _, _, _, dv', c', acc', rfl, rfl, hd₄, hR₄⟩
  · rintro m₁ nw h tk ⟨u0, u1, u2, dv, c, acc, rfl, rfl, hd', hR'⟩ F' N'
    refine done u0 u1 u2 dv c acc h tk hd' ?_ F' N'
    have e : vs.toArray.size = rows.length := by simpa using hps.length
    rw [e, List.drop_length] at hR'
    exact hR'
theorem rows_opt {x2 : Option Value} {D1 l : Addr} {dv₀ : List Value} {n1 c₀ : Nat} {rows : List (List (Str × Str))} {acc₀ : List Str} {m₀ : Str → Option Value} {news : List (Addr × Obj)} {s : Shared} (R : List (List (Str × Str)) → List Str → Prop)
    (hx : SubIs news x2 rows) (hh : A.handled = none) (hE : PassesOwn (model prog w) A env E)
    (F : Fr h₀ env.locals s.heap m₀) (N : News h₀ env.locals s.heap ((D1, tup [] n1) :: (l, lsO dv₀ c₀) :: news)) (hd : StrsAre dv₀ acc₀) (hR : R rows acc₀)
    (turn : ∀ r us a n u0 u1 u2 dv c acc rest I oI h tk, r ∈ rows → (a, tup us n) ∈ (D1, tup [] n1) :: news → PairsIn ((D1, tup [] n1) :: news) us r → StrsAre dv acc → R (r :: rest) acc → (@Ne Nat l I) → (∀ p ∈ (D1, tup [] n1) :: news, p.1 ≠ I) →
      Fr h₀ env.locals h (fun z => if z = Str.ofString "sub" then u0 else if z = Str.ofString "value" then u2 else if z = Str.ofString "key" then u1 else m₀ z) → News h₀ env.locals h ((I, oI) :: (l, lsO dv c) :: (D1, tup [] n1) :: news) →
      wpAny (model prog w) A (assign target env (.ref a)) (fun _ s₃ => wpAny (model prog w) A (execs body env) (RowEnd h₀ env.locals I oI l ((D1, tup [] n1) :: news) m₀ (R rest) Q { s with heap := h, toks := tk }) E s₃) E { s with heap := h, toks := tk })
    (done : ∀ u0 u1 u2 dv c acc h tk, StrsAre dv acc → R [] acc → Fr h₀ env.locals h (fun z => if z = Str.ofString "sub" then u0 else if z = Str.ofString "value" then u2 else if z = Str.ofString "key" then u1 else m₀ z) → News h₀ env.locals h ((l, lsO dv c) :: (D1, tup [] n1) :: news) → Q .next { s with heap := h, toks := tk }) :
    LoopSrc prog w A env target body Q E (x2.getD (.ref D1)) s := by
  have N' : News h₀ env.locals s.heap ((l, lsO dv₀ c₀) :: (D1, tup [] n1) :: news) := fun p hp => N p (by
    rcases List.mem_cons.mp hp with rfl | hp
    · exact .tail _ (.head _)
    · rcases List.mem_cons.mp hp with rfl | hp
      · exact .head _
      · exact .tail _ (.tail _ hp))
  rcases hx with ⟨tv, vs, nt, rfl, hm, hp⟩ | ⟨rfl, rfl⟩
  · exact loop_rows R hh hE (List.mem_cons_of_mem _ hm) (hp.mono fun p hp => List.mem_cons_of_mem _ hp) F N' hd hR turn done
  · exact loop_rows R hh hE (vs := []) List.mem_cons_self .nil F N' hd hR turn done
/-- cut a suite behind its first statement -/
theorem execs_cut {M : Model} {A : Around} {E : Value → Shared → Prop} {s : Shared} {env : Env} {st : Stmt} {rest : List Stmt} {Q : Flow → Shared → Prop} (P : Shared → Prop)
    (h1 : wpAny M A (exec st env) (fun f s' => match f with | .next => P s' | f => Q f s') E s) (h2 : ∀ s', P s' → wpAny M A (execs rest env) Q E s') : wpAny M A (execs (st :: rest) env) Q E s := by
  refine wpAny_execs_cons (wpAny_mono h1 (fun f s' h => ?_) fun _ _ e => e)
  cases f with
  | next => exact h2 s' h
  | _ => exact h
/-- what stands between the two suites of match_hostname -/
def MhCut (g : Heap) (L l : Addr) (y : Str) (ty : Tok) (news : List (Addr × Obj)) (s : Shared) (X : Prop) (s9 : Shared) : Prop :=
  ∃ (h9 : Heap) (tk9 : Nat) (m9 : Str → Option Value) (dv9 : List Value) (c9 : Nat) (acc9 : List Str), s9 = { s with heap := h9, toks := tk9 } ∧ Fr g L h9 (fun z => if z = Str.ofString "dnsnames" then some (.ref l) else if z = Str.ofString "hostname" then some (.str y ty) else m9 z) ∧ News g L h9 ((l, lsO dv9 c9) :: news) ∧ StrsAre dv9 acc9 ∧ acc9.length ≤ 30 ∧ (∀ z ∈ acc9, Good z) ∧ X
theorem SubIs.mono {news news' : List (Addr × Obj)} {x2 : Option Value} {rows : List (List (Str × Str))} (h : SubIs news x2 rows) (hs : ∀ p ∈ news, p ∈ news') : SubIs news' x2 rows := by
  rcases h with ⟨sv, rs, nt, e, hm, hr⟩ | h
  · exact .inl ⟨sv, rs, nt, e, hs _ hm, hr.mono hs⟩
  · exact .inr h
theorem SanIs.mono {news news' : List (Addr × Obj)} {x1 : Option Value} {ps : List (Str × Str)} (h : SanIs news x1 ps) (hs : ∀ p ∈ news, p ∈ news') : SanIs news' x1 ps := by
  rcases h with ⟨sv, rs, nt, e, hm, hr⟩ | h
  · exact .inl ⟨sv, rs, nt, e, hs _ hm, hr.mono hs⟩
  · exact .inr h
theorem news_swap {L : Addr} {h : Heap} {a b : Addr × Obj} {r : List (Addr × Obj)} (N : News h₀ L h (a :: b :: r)) : News h₀ L h (b :: a :: r) := fun p hp => N p (by
  rcases List.mem_cons.mp hp with rfl | hp
  · exact .tail _ (.head _)
  · rcases List.mem_cons.mp hp with rfl | hp
    · exact .head _
    · exact .tail _ (.tail _ hp))
theorem fr_two {L : Addr} {h : Heap} {m : Str → Option Value} {a b : Str} {v u : Value} (F : Fr h₀ L h m) (ha : m a = some v) (hb : m b = some u) : Fr h₀ L h (fun z => if z = a then some v else if z = b then some u else m z) := by
  have e : (fun z => if z = a then some v else if z = b then some u else m z) = m := by
    funext z
    by_cases h1 : z = a
    · rw [if_pos h1, h1, ha]
    · rw [if_neg h1]
      by_cases h2 : z = b
      · rw [if_pos h2, h2, hb]
      · rw [if_neg h2]
  rw [e]; exact F
theorem MhCut.intro {g h : Heap} {L l : Addr} {y : Str} {ty : Tok} {news all : List (Addr × Obj)} {s : Shared} {X : Prop} {m : Str → Option Value} {dv : List Value} {c : Nat} {acc : List Str} {tk : Nat}
    (hd : StrsAre dv acc) (hl : acc.length ≤ 30) (hg : ∀ z ∈ acc, Good z) (hX : X) (F : Fr g L h m) (h1 : m (Str.ofString "dnsnames") = some (.ref l)) (h2 : m (Str.ofString "hostname") = some (.str y ty)) (N : News g L h all) (hs : ∀ p ∈ (l, lsO dv c) :: news, p ∈ all) :
    MhCut g L l y ty news s X { s with heap := h, toks := tk } := ⟨h, tk, m, dv, c, acc, rfl, fr_two F h1 h2, fun p hp => N p (hs p hp), hd, hl, hg, hX⟩
end
section
variable {y k x : Str} {rest : List (Str × Str)} {ps r : List (Str × Str)} {rows rrest : List (List (Str × Str))} {acc acc0 acc' : List Str} {total : Out} {b bb : Bool} {n n' : Nat}
/-- what holds between the turns over the rows -/
def Inv2 (y : Str) (total : Out) (n : Nat) (rs : List (List (Str × Str))) (acc : List Str) : Prop := rowsW y rs acc = total ∧ acc.length + (rs.map List.length).sum ≤ n ∧ ∀ z ∈ acc, Good z
theorem inv2_start (h : Inv2 y total n (r :: rrest) acc0) : Inv (rowW y) (rowW y r acc0) (acc0.length + r.length) r acc0 := ⟨rfl, Nat.le_refl _, h.2.2⟩
theorem inv2_next (h : Inv2 y total n (r :: rrest) acc0) (hi : Inv (rowW y) (rowW y r acc0) (acc0.length + r.length) [] acc) : Inv2 y total n rrest acc := by
  obtain ⟨h1, h2, h3⟩ := h
  obtain ⟨i1, i2, i3⟩ := hi
  have e : rowW y r acc0 = .rest acc := by rw [← i1]; simp only [rowW]
  refine ⟨?_, ?_, i3⟩
  · rw [← h1]; simp only [rowsW]; rw [e]
  · simp only [List.map_cons, List.sum_cons, List.length_nil] at h2 i2; omega
theorem rows_taken (h : Inv2 y total n (r :: rrest) acc0) (hk : (k == Str.ofString "commonName") = true) (hm : dnsM x y = some b) (hb : b = true) (hi : Inv (rowW y) (rowW y r acc0) n' ((k, x) :: rest) acc) : total = .taken := by
  have e := hi.1
  rw [rowW_taken hk (hb ▸ hm)] at e
  rw [← h.1]; simp only [rowsW]; rw [← e]
theorem rows_raised (h : Inv2 y total n (r :: rrest) acc0) (hk : (k == Str.ofString "commonName") = true) (hm : dnsM x y = none) (hi : Inv (rowW y) (rowW y r acc0) n' ((k, x) :: rest) acc) : total = .raised := by
  have e := hi.1
  rw [rowW_raised hk hm] at e
  rw [← h.1]; simp only [rowsW]; rw [← e]
theorem san_done (h : Inv (sanW y) (sanW y ps []) n [] acc) : sanW y ps [] = .rest acc := by rw [← h.1]; simp only [sanW]
theorem mh_off (h : Inv (sanW y) (sanW y ps []) n [] acc) (hb : bb = false) : mhW y bb ps rows ≠ .taken := by
  unfold mhW; rw [san_done h, hb]
  simp
theorem mh_some (h : Inv (sanW y) (sanW y ps []) n [] acc) (ha : 0 < acc.length) : mhW y bb ps rows ≠ .taken := by
  unfold mhW; rw [san_done h]
  have : acc ≠ [] := fun e => by rw [e] at ha; exact Nat.lt_irrefl _ ha
  simp [this]
theorem mh_rows (h : Inv (sanW y) (sanW y ps []) n [] acc) (hb : bb = true) (ha : ¬ 0 < acc.length) : mhW y bb ps rows = rowsW y rows [] := by
  have e : acc = [] := List.eq_nil_of_length_eq_zero (by omega)
  unfold mhW; rw [san_done h, e]
  simp [hb]
theorem rows_end (h : Inv2 y total n [] acc) : total ≠ .taken := by rw [← h.1]; simp only [rowsW]; exact fun e => nomatch e
end
end Aj
end

/-! AjMhRules -/
section
open PySem PySem.W PySem.Spec PySem.Calls PyProof.Rows PyProof.V
namespace Aj
section
variable {prog : Program} {w : World} {A : Around} {E : Value → Shared → Prop} {s : Shared} {h₀ : Heap} {L d l D : Addr} {news : List (Addr × Obj)} {o : Obj} {kvs : List (Str × Value)}
theorem truthy_cert {Q : Bool → Shared → Prop}
    (N : News h₀ L s.heap news) (hp : (d, o) ∈ news) (hd : o.IsDictOf (PySem.strKind prog w) kvs) (lo : (d == sysModules) = false) (hf : kvs.length ≤ 10) (hne : kvs.isEmpty = false) (h : Q true { s with toks := s.toks + 1 + 1 }) :
    wpAny (model prog w) A (truthy (.ref d)) Q E s :=
  wpAny_truthy_dict lo (kda_dict N hp hd) (by omega) (by rw [hne]; exact h)
theorem get_key {Q : Value → Shared → Prop} {k : Str} {t : Tok} {dflt : Value} {x : Option Value}
    (N : News h₀ L s.heap news) (hp : (d, o) ∈ news) (hd : o.IsDictOf (PySem.strKind prog w) kvs) (lo : (d == sysModules) = false) (hl : valueAt kvs k = x) (h : Q (x.getD dflt) { s with toks := s.toks + 1 }) :
    wpAny (model prog w) A (call (.builtin "dict.get") [.ref d, .str k t, dflt]) Q E s :=
  kdg_get2 N hp hd lo (by simp [PySem.strKind, Value.isStrOf]) x hl h
theorem truthy_names {dv : List Value} {c : Nat} {acc : List Str} {Q : Bool → Shared → Prop}
    (N : News h₀ L s.heap news) (hp : (l, lsO dv c) ∈ news) (hd : StrsAre dv acc) (hl : acc.length ≤ 30) (h : Q (decide (0 < acc.length)) { s with toks := s.toks + 1 + 1 }) :
    wpAny (model prog w) A (truthy (.ref l)) Q E s :=
  truthy_list_made (N.isList hp) hd.carried (by rw [List.length_map]; omega) (by rw [List.length_map]; exact h)
theorem join_names {ys : List Value} {k : Nat} {texts : List Str} {x : Str} {t : Tok} {Q : Value → Shared → Prop}
    (N : News h₀ L s.heap news) (hp : (D, lsO ys k) ∈ news) (hd : StrsAre ys texts) (hl : texts.length ≤ 30) (hB : ∀ z ∈ texts, z.length ≤ 2002) (hx : x.length ≤ 10)
    (h : ∀ t' k, (Txt.join x texts).length ≤ 70000 → Q (.str (Txt.join x texts) t') { s with toks := k }) : wpAny (model prog w) A (call (.builtin "str.join") [.str x t, .ref D]) Q E s := by
  have h2 := StrLaws.sumLen_le texts hB
  have h3 : texts.length * x.length ≤ 30 * 10 := Nat.mul_le_mul hl hx
  have h4 : texts.length * 2002 ≤ 30 * 2002 := Nat.mul_le_mul_right _ hl
  have hj : (Txt.join x texts).length ≤ 70000 := by
    unfold Txt.join
    rw [StrLaws.glued_eq_join]
    have h1 := StrLaws.join_length_le x texts
    omega
  exact join_list (N.isList hp) (by simpa using hd) (by omega) (fun t' k => h t' k hj)
end
theorem comp_fit {dv : List Value} {acc : List Str} (h : StrsAre dv acc) (hl : acc.length ≤ 30) : dv.toArray.size ≤ sizeLine := by
  rw [List.size_toArray, h.length, sizeLine_eq]; omega
theorem good_of {acc : List Str} {z : Str} (h : ∀ z ∈ acc, Good z) (hz : z ∈ acc) : Good z := h z hz
theorem reprs_le {acc : List Str} (h : ∀ z ∈ acc, Good z) : ∀ z ∈ acc.map reprText, z.length ≤ 2002 := fun z hz => by
  obtain ⟨u, hu, rfl⟩ := List.mem_map.mp hz
  exact (h u hu).repr
theorem getD_repr {acc : List Str} (h : ∀ z ∈ acc, Good z) (i : Nat) : (reprText (acc.getD i Str.empty)).length ≤ 2002 := by
  by_cases hi : i < acc.length
  · have : acc.getD i Str.empty ∈ acc := by
      have e : acc.getD i Str.empty = acc[i] := by rw [List.getD_eq_getElem?_getD, List.getElem?_eq_getElem hi]; rfl
      rw [e]; exact List.getElem_mem hi
    exact (h _ this).repr
  · have e : acc.getD i Str.empty = Str.empty := by rw [List.getD_eq_getElem?_getD, List.getElem?_eq_none (by omega)]; rfl
    rw [e]
    have := StrLaws.reprText_len Str.empty (fun c hc => by simp [Str.empty] at hc)
    have e : Str.empty.length = 0 := rfl
    omega
end Aj
end

/-! AjMh -/
section
open PySem PySem.W PyProof.Rows
namespace Aj
local macro_rules | `(tactic| k_mem) => `(tactic| first | assumption | exact List.mem_cons_self | (refine List.mem_cons_of_mem _ ?_; k_mem))
local macro_rules | `(tactic| walk_at "getMethod ref") => `(tactic| (k_here; (with_reducible rename Obj.IsDictOf _ _ _ => hD9); refine kdg_method (by k_asm) (by k_mem) hD9 ?_))
local macro_rules | `(tactic| walk_at "call builtin:dict.get") => `(tactic| (k_here; (with_reducible rename Obj.IsDictOf _ _ _ => hD9); refine get_key (by k_asm) (by k_mem) hD9 (by assumption) (by assumption) ?_))
local macro_rules | `(tactic| walk_at "exec For Name Call cons nil") => `(tactic| (k_here; k_dflt (refine for_src ?_ (by intro _; rfl))))
local macro_rules | `(tactic| walk_at "exec For") => `(tactic| (k_here; k_dflt (refine for_src ?_ (by intro _; rfl))))
local macro_rules | `(tactic| walk_at "truthy ref") => `(tactic| (k_here; (with_reducible rename Obj.IsDictOf _ _ _ => hD9); refine truthy_cert (by k_asm) (by k_mem) hD9 (by assumption) (by assumption) (by assumption) ?_))
local macro_rules | `(tactic| walk_at "truthy ref") => `(tactic| (k_here; (with_reducible rename StrsAre _ _ => hS9); refine truthy_names (by k_asm) (by k_mem) hS9 (by omega) ?_))
local macro_rules | `(tactic| walk_at "call ref") => `(tactic| (k_here; (with_reducible show wpAny _ _ (call (Value.ref 33) [Value.str _ _, Value.str _ _]) _ _ _); refine dns_call _ _ _ _ (by k_asm) (by k_asm) (by k_asm) (by k_asm) (by k_asm) (by first | exact rfl | assumption) (by ktr_room) (by ktr_units) (by first | assumption | exact Good.repr (by assumption) | exact And.left (by assumption) | exact And.right (by assumption)) (by first | assumption | exact Good.repr (by assumption) | exact And.left (by assumption) | exact And.right (by assumption)) (by first | assumption | exact Good.repr (by assumption) | exact And.left (by assumption) | exact And.right (by assumption)) (by first | assumption | exact Good.repr (by assumption) | exact And.left (by assumption) | exact And.right (by assumption)) (by first | assumption | exact Good.repr (by assumption) | exact And.left (by assumption) | exact And.right (by assumption)) (fun b9 hb9 h9 tk9 F9 N9 => ?_) (fun hb9 e9 t9 vs9 g9 h9 tk9 R9 F9 U9 => ?_) <;> (try dsimp only) <;> (try k_fold)))
local macro_rules | `(tactic| walk_at "PairEnd") => `(tactic| first
  | ((with_reducible show PairEnd _ _ _ _ _ _ _ _ _ _ (Flow.ret _) _); unfold PairEnd; dsimp only)
  | ((rename News _ _ _ _ => N8); (try simp only [List.push_toArray] at N8); refine PairEnd.intro (.inl rfl) (by k_asm) N8 (fun _ hp => hp) (by intro z h1 h2; simp only [if_neg h1, if_neg h2]) (by first | assumption | exact StrsAre.append' (by assumption) (.cons _ _ .nil)) ?_))
local macro_rules | `(tactic| walk_at "eval ListComp") => `(tactic| (k_here; k_dflt (refine LCg.ListComp_U (F₀ := by k_asm) (by rfl) (by decide) (by rfl) (by decide) (by rfl) ?_)))
local macro_rules | `(tactic| walk_at "CompSrc") => `(tactic| (k_here; (with_reducible rename StrsAre _ _ => hS9); k_dflt (refine LCg.CompSrc.ledger (by rfl) (by k_asm) (by k_asm) (by k_mem) (comp_fit hS9 (by omega)) ?_); (intro g9); (refine comp_strs reprText hS9 (Or.inr ⟨_, by k_mem, rfl, _, rfl⟩) (fun z t I oI C oC D m₂ ys h tk E' hz hC hx F' N' => (have hzr := Good.repr (good_of (by assumption) hz); ?_)) (fun ys hys => ?_))))
local macro_rules | `(tactic| walk_at "call builtin:str.join") => `(tactic| (k_here; refine join_names (by k_asm) (by k_mem) (by assumption) (by rw [List.length_map]; omega) (reprs_le (by assumption)) (by decide) ?_; intro t9 k9 hj9))
local macro_rules | `(tactic| size_fits) => `(tactic| first | ((with_reducible show PySem.Str.length (PySem.reprText (List.getD _ _ _)) ≤ _); (rw [sizeLine_eq]; exact Nat.le_trans (getD_repr (by assumption) _) (by decide))) | ((with_reducible show PySem.Str.length (PySem.reprText _) ≤ _); (rw [sizeLine_eq]; omega)) | fail "size_fits: no repr of an Ok text")
local macro_rules | `(tactic| walk_at "RowEnd") => `(tactic| first | ((with_reducible show RowEnd _ _ _ _ _ _ _ _ _ _ (Flow.ret _) _); unfold RowEnd; dsimp only) | (refine RowEnd.intro (.inl rfl) (by k_asm) (news_swap (by k_asm)) (fun _ hp => hp) (by intro z h0 h1 h2; simp only [if_neg h0, if_neg h1, if_neg h2]) (by assumption) ?_))
local macro_rules | `(tactic| walk_at "leaving ref") => `(tactic| (k_here; first | (refine' leave_raiseS ?k1 ?k0 ?k2 ?k3 ?_; (case k0 => first | assumption | exact Heap.MadeExc.of (by assumption)); (case k2 => assumption); (case k1 => assumption); (case k3 => k_asm); k_whole; intro h' t' S' R' U'; (try dsimp only at S' R' U' ⊢)) | (refine' leave_onS ?k1 ?k2 ?k3 ?k4 ?_; (case k3 => assumption); (case k2 => assumption); (case k1 => assumption); (case k4 => assumption); k_whole; intro h' S' R' U'; (try dsimp only at S' R' U' ⊢))))
set_option maxRecDepth 100000 in
set_option maxHeartbeats 8000000 in
/-- the contract of match_hostname -/
theorem mh_call {w : World} {mean : ExcName → Option Value} {mg mb : Str → Option Value} {dp un : Nat} {gd : Option (List Code)} {cn : Str} {cs : Scope} {a : Addr} {ccd : Value} {cl : List (Str × Addr)} {outer : List Env} {A₀ : Around} {base h₀ : Heap} {L : Addr} {m : Str → Option Value} {news : List (Addr × Obj)} {s : Shared} {Q E : Value → Shared → Prop} {c : Addr} {oc : Obj} {kvs : List (Str × Value)} {x1 x2 : Option Value} {ps : List (Str × Str)} {rows : List (List (Str × Str))} {y : Str} {ty : Tok} {b : Bool}
    (B : Below A₀ base outer h₀) (F : Fr h₀ L s.heap m) (X : (hd.heap_39 w.params).In h₀) (N : News h₀ L s.heap news) (T : Top hd.view_39 (looseW hd.view_39 [Str.ofString "_dnsname_match", Str.ofString "match_hostname", Str.ofString "_law_signs"]) mean mg mb h₀) (hk : cs.kind = .function) (hdp : dp + 8 < recursionLimit) (hun : un + 300 < cLine) (hy : Asc y) (hyl : y.length ≤ 200) (hyr : (reprText y).length ≤ 2002)
    (hc : (c, oc) ∈ news) (hcd : oc.IsDictOf (PySem.strKind PySem.Challenge.rw_aj5040_01.row.prog w) kvs) (hclo : (c == sysModules) = false) (hkl : kvs.length ≤ 10) (hkn : kvs.isEmpty = false)
    (hx1 : valueAt kvs (Str.ofString "subjectAltName") = x1) (hx2 : valueAt kvs (Str.ofString "subject") = x2)
    (hs1 : SanIs news x1 ps) (hps : ∀ p ∈ ps, Good p.2) (hpl : ps.length ≤ 10)
    (hs2 : SubIs news x2 rows) (hrs : ∀ r ∈ rows, ∀ p ∈ r, Good p.2) (hrl : (rows.map List.length).sum ≤ 10)
    (hret : mhW y b ps rows = .taken → ∀ h' tk', Fr h₀ L h' m → News h₀ L h' news → Q .none { s with heap := h', toks := tk' })
    (hexc : mhW y b ps rows ≠ .taken → ∀ e t vs g h' tk', RaisedS base g (envX cn cs L a ccd cl :: outer) e (.ref 24) t vs news h' → Fr h₀ L g m → g.UpToSlots h' → E (.ref e) { s with heap := h', toks := tk' }) :
    wpAny (model PySem.Challenge.rw_aj5040_01.row.prog w) (ktrTop dp un gd cn cs L a ccd cl outer) (call (.ref 39) [.ref c, .str y ty, .bool b]) Q E s := by
  w_top off; revert X; k_fill; intro X
  have hMk := kstMark
  (refine wpAny_call ?_); k_dflt (refine' code_def ?k1 ?k2 ?k3 ?k4 ?k5 ?kA ?kF ?kK ?k6 ?k7 ?k8 ?k9 ?kB ?_ ?c2 ?c3 ?c4 ?c5; (case kA => exact rfl); (case kF => exact rfl); (case kK => assumption); (case k1 => k_asm); (case k2 => k_asm); (case k3 => k_asm); (case k4 => k_asm); (case k5 => k_asm); (case k6 => k_is); (case k7 => k_is); (case k8 => ktr_room); (case k9 => first | exact BindsTo.of_eq rfl | exact binds_K (by k_in) rfl (by k_is) rfl rfl rfl); (case c5 => decide); (case kB => exact locs rfl); (case c2 => exact rfl); (case c3 => exact rfl); (case c4 => exact rfl); k_whole; intro g' L' h' FG' F' N' B' X' T'; (try dsimp only); (try k_fold))
  repeat' first | (k_unfold; (try dsimp only)) | (k_end; wrow_close) | walk1 | (dsimp only; walk1) | (leave1; walk_say "STEP leave1"; try dsimp only)
  refine loop_opt (Inv (sanW y) (sanW y ps []) ps.length) hs1 rfl (by passes_own) (by k_asm) (by k_asm) .nil ⟨rfl, by simp, by simp⟩ ?_ ?_
  · intro k x t u a n u1 u2 dv c acc rest I oI h tk hmem ha hdv hR hlI hoff F2 N2
    have hgx : Good x := hps _ hmem
    have hal := hR.2.1
    have hgxl := hgx.2
    have hgxr := hgx.repr
    repeat' first
      | (with_reducible refine hret (san_taken (by assumption) (by assumption) (by assumption) hR) _ _ (by k_asm) ?_; refine cb_drop (by assumption) ?_; kcj_all)
      | (with_reducible refine hexc (san_raised (by assumption) (by assumption) hR) _ _ _ _ _ _ (raised_sub (by assumption) ?_) (by assumption) (by assumption); kcj_all)
      | (with_reducible exact san_on (by assumption) (by assumption) (by assumption) hR hgx)
      | (with_reducible exact san_ip (by assumption) (by assumption) hR hgx)
      | (with_reducible exact san_off (by assumption) (by assumption) hR)
      | (k_unfold; (try dsimp only)) | (k_end; wrow_close) | walk1 | (dsimp only; walk1) | (leave1; walk_say "STEP leave1"; try dsimp only)
  · intro l9 hl9 u1 u2 dv c acc h tk hdv hR F2 N2
    subst hl9
    have hal := hR.2.1
    have hgood := hR.2.2
    have hal2 : acc.length ≤ 30 := by simp only [List.length_nil] at hal; omega
    dsimp only
    refine execs_cut (MhCut g' L' l9 y ty news s (mhW y b ps rows ≠ .taken)) ?_ ?_
    · repeat' first
        | (exact MhCut.intro (c := c) (by assumption) hal2 hgood (mh_off hR (by assumption)) (by k_asm) rfl rfl (by k_asm) (by kcj_all))
        | (exact MhCut.intro (c := c) (by assumption) hal2 hgood (mh_some hR (by assumption)) (by k_asm) rfl rfl (by k_asm) (by kcj_all))
        | (k_unfold; (try dsimp only)) | (k_end; wrow_close) | walk1 | (dsimp only; walk1) | (leave1; walk_say "STEP leave1"; try dsimp only)
      rename (¬ 0 < acc.length) => ha0
      rename (b = true) => hb0
      have e0 : acc = [] := List.eq_nil_of_length_eq_zero (by omega)
      have hmr : mhW y b ps rows = rowsW y rows [] := mh_rows hR hb0 ha0
      refine rows_opt (dv₀ := dv) (acc₀ := acc) (Inv2 y (rowsW y rows []) (rows.map List.length).sum) (hs2.mono fun p hp => List.mem_cons_of_mem _ hp) rfl (by passes_own) (by k_asm) (by k_asm) (by assumption) ⟨by rw [e0], by rw [e0]; simp, hgood⟩ ?_ ?_
      · intro r us a n u0 u1 u2 dv2 c2 acc2 rest I oI h2 tk2 hr hm hp hd2 hR2 hlI hoff F3 N3
        repeat' first | (k_unfold; (try dsimp only)) | (k_end; wrow_close) | walk1 | (dsimp only; walk1) | (leave1; walk_say "STEP leave1"; try dsimp only)
        refine loop_pairs (Inv (rowW y) (rowW y r acc2) (acc2.length + r.length)) rfl (by passes_own) (List.mem_cons_of_mem _ hm) (hp.mono fun p hp => List.mem_cons_of_mem _ hp) (by k_asm) (news_swap (by k_asm)) hd2 (inv2_start hR2) ?_ ?_
        · intro k x t u a3 n3 u3 u4 dv3 c3 acc3 rest3 I3 oI3 h3 tk3 hmem ha hdv3 hR3 hlI3 hoff3 F4 N4
          have hgx : Good x := hrs r hr _ hmem
          have hal3 := hR3.2.1
          have hal4 := hR2.2.1
          simp only [List.map_cons, List.sum_cons] at hal4
          have hgxl := hgx.2
          have hgxr := hgx.repr
          repeat' first
            | (with_reducible refine hret (hmr.trans (rows_taken hR2 (by assumption) (by assumption) (by assumption) hR3)) _ _ (by k_asm) ?_; refine cb_drop (by assumption) ?_; kcj_all)
            | (with_reducible refine hexc (fun e => nomatch ((rows_raised hR2 (by assumption) (by assumption) hR3).symm.trans (hmr.symm.trans e))) _ _ _ _ _ _ (raised_sub (by assumption) ?_) (by assumption) (by assumption); kcj_all)
            | (with_reducible exact row_on (by assumption) (by assumption) (by assumption) hR3 hgx)
            | (with_reducible exact row_off (by assumption) hR3)
            | (k_unfold; (try dsimp only)) | (k_end; wrow_close) | walk1 | (dsimp only; walk1) | (leave1; walk_say "STEP leave1"; try dsimp only)
        · intro u3 u4 dv3 c3 acc3 h3 tk3 hdv3 hR3 F4 N4
          dsimp only
          repeat' first
            | (with_reducible exact inv2_next hR2 hR3)
            | (k_unfold; (try dsimp only)) | (k_end; wrow_close) | walk1 | (dsimp only; walk1) | (leave1; walk_say "STEP leave1"; try dsimp only)
      · intro u0 u1 u2 dv3 c3 acc3 h3 tk3 hdv3 hR3 F4 N4
        dsimp only
        have hal5 := hR3.2.1
        have hal6 : acc3.length ≤ 30 := by simp only [List.map_nil, List.sum_nil] at hal5; omega
        repeat' first
          | (exact MhCut.intro (c := c3) hdv3 hal6 hR3.2.2 (fun e => rows_end hR3 (hmr.symm.trans e)) (by k_asm) rfl rfl (by k_asm) (by kcj_all))
          | (k_unfold; (try dsimp only)) | (k_end; wrow_close) | walk1 | (dsimp only; walk1) | (leave1; walk_say "STEP leave1"; try dsimp only)
    · rintro s9 ⟨h9, tk9, m9, dv9, c9, acc9, rfl, F9, N9, hd9, hl9, hg9, hno⟩
      have hgr := getD_repr hg9 (Int.toNat 0)
      clear hgood hal2 hal hdv hR F2 N2
      repeat' first
        | exact ⟨_, _, _, rfl, by assumption, by assumption, rfl⟩
        | (with_reducible refine hexc hno _ _ _ _ _ _ (raised_sub (by assumption) ?_) (by assumption) (by assumption); kcj_all)
        | (k_unfold; (try dsimp only)) | (k_end; wrow_close) | walk1 | (dsimp only; walk1) | (leave1; walk_say "STEP leave1"; try dsimp only)
end Aj
end

/-! AjTurn -/
section
open PySem PySem.W PySem.Spec PySem.Calls PyProof.Rows PyProof.V
namespace Aj
/-- what a caller's frame and ledger are worth behind a def that caught: its own frame may bear other notes -/
theorem back_home {h₀ g g' h' : Heap} {L L' : Addr} {m m' : Str → Option Value} {news' : List (Addr × Obj)} {fs : List Addr} (F : Fr h₀ L g m) (hfs : fs = [L]) (T : KtsTurn fs g g') (F' : Fr g' L' h' m') (N' : News g' L' h' news') :
    Fr h₀ L h' m ∧ News h₀ L h' news' := by
  subst hfs
  have nL : h₀.get? L = none := kts_self F
  obtain ⟨oL, es, ep, hL, hd, hs, hf⟩ := F.ns
  obtain ⟨sl, hsl⟩ := T.up hL
  refine ⟨⟨⟨_, es, ep, F'.keep _ _ hsl, hd, hs, hf⟩, fun b o e => F'.keep b o (T.other b o (F.keep b o e) fun q => ?_), F.above⟩, fun p hp => ⟨(N' p hp).1, fun q => ?_, ?_⟩⟩
  · rw [List.mem_singleton.mp q, nL] at e; cases e
  · have h1 := (N' p hp).2.2
    rw [q, hsl] at h1; cases h1
  · have h1 := (N' p hp).2.2
    cases q : h₀.get? p.1 with
    | none => rfl
    | some o =>
      obtain ⟨sl', hs'⟩ := T.up (F.keep _ _ q)
      rw [hs'] at h1; cases h1
section
variable {prog : Program} {w : World} {A₀ A : Around} {s : Shared} {base h₀ : Heap} {L : Addr} {m : Str → Option Value} {env : Env} {news : List (Addr × Obj)} {K : Frag} {p : Program} {loose : List Str} {mean : ExcName → Option Value} {mg mb : Str → Option Value}
    {R : Result → Shared → Prop} {name qual : Str} {params : Arguments} {body : List Stmt} {scope : Scope} {dV kV doc pm cdv ct oc : Value} {an od : Option Addr} {osl : Array (Option Value)} {f : Addr} {args : Args} {binds : List (Str × Value)}
/-- a def with a try is entered from a frame of any cells -/
theorem code_turn (B : Below A₀ base [] h₀) (F : Fr h₀ L s.heap m) (X₀ : K.In h₀) (N : News h₀ L s.heap news) (T : Top p loose mean mg mb h₀) (hA : A.frames = some [env]) (hf : env.frame = some L) (hke : env.scope.kind = .function)
    (ho : K.lookup f = some ⟨oc, od, .func (fnOf name qual params body scope dV kV doc pm an cdv ct), osl⟩) (hcd : codeIn K cdv qual = true) (hroom : A.depth < recursionLimit)
    (hbind : BindsTo s (fnOf name qual params body scope dV kV doc pm an cdv ct) args binds) (hloc : ∀ y ∈ binds, scope.names.lookup y.1 = some .local)
    (h : ∀ g L' h₁, Fr h₀ L g m → Fr g L' h₁ (fun y => binds.reverse.lookup y) → News g L' h₁ news → Below A base [env] g → K.In g → Top p loose mean mg mb g → KtsDicts ([env].filterMap (·.frame)) g →
      wpAny (model prog w) (A.deeper (envOf qual scope L' f cdv)) (execs body (envOf qual scope L' f cdv))
        (fun fl s' => LeaveS0 ([env].filterMap (·.frame)) h₀ L m g R (match fl with | .ret v => v | _ => .none) s')
        (fun e s' => wpAny (model prog w) (A.deeper (envOf qual scope L' f cdv)) (leaving (envOf qual scope L' f cdv) e) (fun _ s'' => R (.error e) s'') (fun e' s'' => R (.error e') s'') s')
        { s with heap := h₁, toks := s.toks + binds.length })
    (hco : scope.isCoroutine = false) (hgen : scope.isGenerator = false) (hk : scope.kind = .function)
    (hcell : ∀ x ∈ scope.names, x.2 ≠ .cell) : codeAny (model prog w) A (.call (.ref f) args) R s := by
  have hfs : [env].filterMap (·.frame) = [L] := by simp [hf]
  have X := X₀.keeps F.keep
  obtain ⟨FG, BG, st, _⟩ := groundX (R := R) B F N hA hf hke
  refine codeAny_call_def (fd := fnOf name qual params body scope dV kV doc pm an cdv ct) (body := body) (binds := binds) hroom (X _ _ ho) rfl (T.nolimit.keeps F.keep) (codeRec_of X hcd) rfl hbind hcell hloc (fun h₁ hns hk₁ => ?_) hco hgen hk
  have F₁ : Fr (hideAll s.heap (news.map (·.1))) s.heap.objs.size h₁ (fun y => binds.reverse.lookup y) := ⟨hns, fun b o e => hk₁ b o (of_hideAll _ e), Nat.le_of_eq (hideAll_size _ _)⟩
  have N₁ : News (hideAll s.heap (news.map (·.1))) s.heap.objs.size h₁ news := fun p hp => ⟨hk₁ _ _ (N p hp).1, Nat.ne_of_lt (Heap.lt_size (N p hp).1), hideAll_none _ (List.mem_map_of_mem hp)⟩
  have D₁ : KtsDicts ([env].filterMap (·.frame)) (hideAll s.heap (news.map (·.1))) := fun b hb => by
    rw [hfs] at hb
    rw [List.mem_singleton.mp hb]
    obtain ⟨oL, es, ep, hL, hd, _, _⟩ := FG.ns
    exact ⟨oL, es, ep, hL, hd⟩
  refine wpAny_mono (h _ _ h₁ FG F₁ N₁ BG (X₀.keeps st) (T.keeps st) D₁) (fun fl s' hl => ?_) fun _ _ y => y
  obtain ⟨g', L', m', news', T', F', N', k⟩ := hl
  obtain ⟨F₂, N₂⟩ := back_home FG hfs T' F' N'
  exact k F₂ N₂
end
end Aj
end

/-! AjTaken -/
section
open PySem PySem.W PyProof.Rows
namespace Aj
/-- what _law_taken gives -/
def takenB (y : Str) (b : Bool) (ps : List (Str × Str)) (rows : List (List (Str × Str))) : Bool := match mhW y b ps rows with | .taken => true | _ => false
theorem takenB_true {y : Str} {b : Bool} {ps : List (Str × Str)} {rows : List (List (Str × Str))} (h : mhW y b ps rows = .taken) : takenB y b ps rows = true := by unfold takenB; rw [h]
theorem takenB_false {y : Str} {b : Bool} {ps : List (Str × Str)} {rows : List (List (Str × Str))} (h : mhW y b ps rows ≠ .taken) : takenB y b ps rows = false := by
  unfold takenB
  cases e : mhW y b ps rows with
  | taken => exact absurd e h
  | raised => rfl
  | rest _ => rfl
local macro_rules | `(tactic| walk_at "call ref") => `(tactic| (k_here; (with_reducible show wpAny _ _ (call (Value.ref 39) [Value.ref _, Value.str _ _, Value.bool _]) _ _ _); refine mh_call (by k_asm) (by k_asm) (by k_asm) (by k_asm) (by k_asm) (by first | exact rfl | assumption) (by ktr_room) (by ktr_units) (by assumption) (by assumption) (by assumption) (by assumption) (by assumption) (by assumption) (by assumption) (by assumption) (by assumption) (by assumption) (by assumption) (by assumption) (by assumption) (by assumption) (by assumption) (by assumption) (fun hb9 h9 tk9 F9 N9 => ?_) (fun hb9 e9 t9 vs9 g9 h9 tk9 R9 F9 U9 => ?_) <;> (try dsimp only) <;> (try k_fold)))
set_option maxRecDepth 100000 in
set_option maxHeartbeats 8000000 in
/-- the contract of _law_taken -/
theorem taken_call {w : World} {mean : ExcName → Option Value} {mg mb : Str → Option Value} {dp un : Nat} {gd : Option (List Code)} {cn : Str} {cs : Scope} {a : Addr} {ccd : Value} {cl : List (Str × Addr)} {A₀ : Around} {h₀ : Heap} {L : Addr} {m : Str → Option Value} {news : List (Addr × Obj)} {s : Shared} {Q E : Value → Shared → Prop} {c : Addr} {oc : Obj} {kvs : List (Str × Value)} {x1 x2 : Option Value} {ps : List (Str × Str)} {rows : List (List (Str × Str))} {y : Str} {ty : Tok} {b : Bool}
    (B : Below A₀ h₀ [] h₀) (F : Fr h₀ L s.heap m) (X : (hd.heap_39 w.params).In h₀) (N : News h₀ L s.heap news) (T : Top hd.view_39 (looseW hd.view_39 [Str.ofString "_dnsname_match", Str.ofString "match_hostname", Str.ofString "_law_signs"]) mean mg mb h₀) (hk : cs.kind = .function) (hdp : dp + 12 < recursionLimit) (hun : un + 400 < cLine) (hy : Asc y) (hyl : y.length ≤ 200) (hyr : (reprText y).length ≤ 2002)
    (hc : (c, oc) ∈ news) (hcd : oc.IsDictOf (PySem.strKind PySem.Challenge.rw_aj5040_01.row.prog w) kvs) (hclo : (c == sysModules) = false) (hkl : kvs.length ≤ 10) (hkn : kvs.isEmpty = false)
    (hx1 : valueAt kvs (Str.ofString "subjectAltName") = x1) (hx2 : valueAt kvs (Str.ofString "subject") = x2)
    (hs1 : SanIs news x1 ps) (hps : ∀ p ∈ ps, Good p.2) (hpl : ps.length ≤ 10)
    (hs2 : SubIs news x2 rows) (hrs : ∀ r ∈ rows, ∀ p ∈ r, Good p.2) (hrl : (rows.map List.length).sum ≤ 10)
    (hret : ∀ h' tk', Fr h₀ L h' m → News h₀ L h' news → Q (.bool (takenB y b ps rows)) { s with heap := h', toks := tk' }) :
    wpAny (model PySem.Challenge.rw_aj5040_01.row.prog w) (ktrTop dp un gd cn cs L a ccd cl []) (call (.ref 66) [.ref c, .str y ty, .bool b]) Q E s := by
  w_top off; revert X; k_fill; intro X
  have hMk := kstMark
  (refine wpAny_call ?_); k_dflt (refine' code_turn ?k1 ?k2 ?k3 ?k4 ?k5 ?kA ?kF ?kK ?k6 ?k7 ?k8 ?k9 ?kB ?_ ?c2 ?c3 ?c4 ?c5; (case kA => exact rfl); (case kF => exact rfl); (case kK => assumption); (case k1 => k_asm); (case k2 => k_asm); (case k3 => k_asm); (case k4 => k_asm); (case k5 => k_asm); (case k6 => k_is); (case k7 => k_is); (case k8 => ktr_room); (case k9 => first | exact BindsTo.of_eq rfl | exact binds_K (by k_in) rfl (by k_is) rfl rfl rfl); (case c5 => decide); (case kB => exact locs rfl); (case c2 => exact rfl); (case c3 => exact rfl); (case c4 => exact rfl); k_whole; intro g' L' h' FG' F' N' B' X' T' D'; (try dsimp only); (try k_fold))
  repeat' first | (k_unfold; (try dsimp only)) | (k_end; wrow_close) | walk1 | (dsimp only; walk1) | (leave1; walk_say "STEP leave1"; try dsimp only)
  · rw [takenB_true (by assumption)] at hret
    exact hret _ _ (by k_asm) (by k_asm)
  · rw [takenB_false (by assumption)] at hret
    exact hret _ _ (by k_asm) (by k_asm)
end Aj
end

/-! AjRange -/
section
open PySem PySem.W PySem.Spec PySem.Calls PyProof.Rows PyProof.V
namespace Aj
section
variable {prog : Program} {w : World} {A : Around} {s : Shared} {env : Env} {h₀ : Heap} {E : Value → Shared → Prop} {Q : Flow → Shared → Prop} {target iter : PySem.Expr} {pos : Pos} {body : List Stmt}
/-- the same over a short range, into one name -/
theorem LoopSrc.range {r : Addr} {a b : Int} {t u v : Tok} {n : Nat} {x : Str} {px : Pos} {m : Str → Option Value} {news : List (Addr × Obj)} {s : Shared}
    (J : Nat → (Str → Option Value) → List (Addr × Obj) → Prop) (hh : A.handled = none) (hE : PassesOwn (model prog w) A env E)
    (hr : IsRange s.heap r a b 1 t u v) (hsm : Builtin.Range.small a b 1 = true) (hn : Builtin.Range.rangeSize a b 1 = ((n : Nat) : Int))
    (F : Fr h₀ env.locals s.heap m) (N : News h₀ env.locals s.heap news) (h0 : J 0 m news)
    (turn : ∀ i tk₁ m₁ nw I oI h tk, i < n → J i m₁ nw → (∀ p ∈ nw, p.1 ≠ I) → Fr h₀ env.locals h m₁ → News h₀ env.locals h ((I, oI) :: nw) →
      wpAny (model prog w) A (assign (.Name x px) env (.int (a + (i : Int)) tk₁)) (fun _ s₃ => wpAny (model prog w) A (execs body env) (TurnEnd h₀ env.locals I oI (J (i + 1)) Q { s with heap := h, toks := tk }) E s₃) E { s with heap := h, toks := tk })
    (done : ∀ m₁ nw h tk, J n m₁ nw → Fr h₀ env.locals h m₁ → News h₀ env.locals h nw → Q .next { s with heap := h, toks := tk }) :
    LoopSrc prog w A env (.Name x px) body Q E (.ref r) s := by
  refine wpAny_pyIter_range hr hsm ?_
  have up : ∀ b' o, s.heap.get? b' = some o → (s.heap.push { cls := .type "range_iterator", data := .fields #[rawInt a, rawInt (Builtin.Range.rangeSize a b 1), rawInt 1] }).get? b' = some o := fun b' o e => Heap.get?_push_of_some _ e
  refine loop_src (LCg.range_walks hh a n) (fun i h st => ⟨_, st⟩) J
    (Nat.ne_of_lt F.ns.lt) (next_is_new F) (fun p hp => Nat.ne_of_lt (Heap.lt_size (N p hp).1)) (by show IsRangeIter _ _ _ _ _; rw [hn]; simpa using Heap.get?_push_size _ rfl) (F.keeps up) (N.grown up)
    (fun i s' v Q' st hQ' => wpAny_pure hQ') h0 (fun i v m₁ nw oI h tk hi hP hJ hoff F' N' => by obtain ⟨tk₁, rfl⟩ := hP; exact turn i tk₁ m₁ nw _ oI h tk hi hJ hoff F' N') done
    (fun i m nw oI h' st e h'' e' N' hJ => by
      have st' : h'.get? _ = some _ := st
      show h''.get? _ = some _
      rw [e', ← e]; exact st') hE
end
end Aj
end

/-! AjDig0 -/
section
open PySem PySem.W PySem.Spec PySem.Calls PyProof.Rows PyProof.V
namespace Aj
/-- digits: each from 0 to 4095 -/
def Digs (ds : List Int) : Prop := ∀ d ∈ ds, 0 ≤ d ∧ d < 4096
theorem digs_snoc {ds : List Int} {d : Int} (h : Digs ds) (h0 : 0 ≤ d) (h1 : d < 4096) : Digs (ds ++ [d]) := by
  intro z hz
  rcases List.mem_append.mp hz with hz | hz
  · exact h z hz
  · rw [List.mem_singleton.mp hz]; exact ⟨h0, h1⟩
theorem three_k (m' m₀ : Str → Option Value) {a b : Value} (h1 : m' (Str.ofString "mixed") = some a) (h2 : m' (Str.ofString "rest") = some b) (hm : ∀ z, z ≠ Str.ofString "mixed" → z ≠ Str.ofString "rest" → z ≠ Str.ofString "k" → m' z = m₀ z) :
    m' = fun z => if z = Str.ofString "mixed" then some a else if z = Str.ofString "rest" then some b else if z = Str.ofString "k" then m' (Str.ofString "k") else m₀ z := by
  funext z
  by_cases e1 : z = Str.ofString "mixed"
  · rw [if_pos e1, e1, h1]
  · rw [if_neg e1]
    by_cases e2 : z = Str.ofString "rest"
    · rw [if_pos e2, e2, h2]
    · rw [if_neg e2]
      by_cases e3 : z = Str.ofString "k"
      · rw [if_pos e3, e3]
      · rw [if_neg e3, hm z e1 e2 e3]
theorem four_n (m' m₀ : Str → Option Value) {a : Value} (h1 : m' (Str.ofString "mixed") = some a) (hm : ∀ z, z ≠ Str.ofString "mixed" → z ≠ Str.ofString "rest" → z ≠ Str.ofString "k" → z ≠ Str.ofString "number" → m' z = m₀ z) :
    m' = fun z => if z = Str.ofString "mixed" then some a else if z = Str.ofString "rest" then m' (Str.ofString "rest") else if z = Str.ofString "k" then m' (Str.ofString "k") else if z = Str.ofString "number" then m' (Str.ofString "number") else m₀ z := by
  funext z
  by_cases e1 : z = Str.ofString "mixed"
  · rw [if_pos e1, e1, h1]
  · rw [if_neg e1]
    by_cases e2 : z = Str.ofString "rest"
    · rw [if_pos e2, e2]
    · rw [if_neg e2]
      by_cases e3 : z = Str.ofString "k"
      · rw [if_pos e3, e3]
      · rw [if_neg e3]
        by_cases e4 : z = Str.ofString "number"
        · rw [if_pos e4, e4]
        · rw [if_neg e4, hm z e1 e2 e3 e4]
/-- the inner turn's end -/
def DigIn (h₀ : Heap) (L I : Addr) (oI : Obj) (l : Addr) (cst : List (Addr × Obj)) (m₀ : Str → Option Value) (n : Nat) (Q : Flow → Shared → Prop) (s₁ : Shared) (f : Flow) (s₂ : Shared) : Prop :=
  f = .next ∧ ∃ h' tk, ∃ (mx rs : Int) (t1 t2 : Tok), ∃ u dv c ds, s₂ = { s₁ with heap := h', toks := tk } ∧ Fr h₀ L h' (fun z => if z = Str.ofString "mixed" then some (.int mx t1) else if z = Str.ofString "rest" then some (.int rs t2) else if z = Str.ofString "k" then u else m₀ z) ∧ News h₀ L h' ((I, oI) :: (l, lsO dv c) :: cst) ∧ IntsAre dv ds ∧ Digs ds ∧ ds.length = n ∧ 0 ≤ mx ∧ mx < 2147483647 ∧ 0 ≤ rs ∧ rs < 1000000000000000
/-- the outer turn's end -/
def DigOut (h₀ : Heap) (L I : Addr) (oI : Obj) (l : Addr) (cst : List (Addr × Obj)) (m₀ : Str → Option Value) (n : Nat) (Q : Flow → Shared → Prop) (s₁ : Shared) (f : Flow) (s₂ : Shared) : Prop :=
  f = .next ∧ ∃ h' tk, ∃ (mx : Int) (t1 : Tok), ∃ u1 u2 u3 dv c ds, s₂ = { s₁ with heap := h', toks := tk } ∧ Fr h₀ L h' (fun z => if z = Str.ofString "mixed" then some (.int mx t1) else if z = Str.ofString "rest" then u1 else if z = Str.ofString "k" then u2 else if z = Str.ofString "number" then u3 else m₀ z) ∧ News h₀ L h' ((I, oI) :: (l, lsO dv c) :: cst) ∧ IntsAre dv ds ∧ Digs ds ∧ ds.length = n ∧ 0 ≤ mx ∧ mx < 2147483647
section
variable {prog : Program} {w : World} {A : Around} {s : Shared} {env : Env} {h₀ : Heap} {E : Value → Shared → Prop} {Q : Flow → Shared → Prop} {target iter : PySem.Expr} {pos : Pos} {body : List Stmt} {m₀ : Str → Option Value} {l : Addr} {cst : List (Addr × Obj)}
theorem DigIn.intro {L I : Addr} {oI : Obj} {all : List (Addr × Obj)} {n : Nat} {s₁ : Shared} {h' : Heap} {tk : Nat} {m' : Str → Option Value} {mx rs : Int} {t1 t2 : Tok} {dv : List Value} {c : Nat} {ds : List Int}
    (F : Fr h₀ L h' m') (N : News h₀ L h' all) (hs : ∀ p ∈ (I, oI) :: (l, lsO dv c) :: cst, p ∈ all) (h1 : m' (Str.ofString "mixed") = some (.int mx t1)) (h2 : m' (Str.ofString "rest") = some (.int rs t2)) (hm : ∀ z, z ≠ Str.ofString "mixed" → z ≠ Str.ofString "rest" → z ≠ Str.ofString "k" → m' z = m₀ z)
    (hd : IntsAre dv ds) (hD : Digs ds) (hn : ds.length = n) (a1 : 0 ≤ mx) (a2 : mx < 2147483647) (a3 : 0 ≤ rs) (a4 : rs < 1000000000000000) : DigIn h₀ L I oI l cst m₀ n Q s₁ .next { s₁ with heap := h', toks := tk } := by
  rw [three_k m' m₀ h1 h2 hm] at F
  exact ⟨rfl, h', tk, mx, rs, t1, t2, _, dv, c, ds, rfl, F, fun p hp => N p (hs p hp), hd, hD, hn, a1, a2, a3, a4⟩
theorem DigOut.intro {L I : Addr} {oI : Obj} {all : List (Addr × Obj)} {n : Nat} {s₁ : Shared} {h' : Heap} {tk : Nat} {m' : Str → Option Value} {mx : Int} {t1 : Tok} {dv : List Value} {c : Nat} {ds : List Int}
    (F : Fr h₀ L h' m') (N : News h₀ L h' all) (hs : ∀ p ∈ (I, oI) :: (l, lsO dv c) :: cst, p ∈ all) (h1 : m' (Str.ofString "mixed") = some (.int mx t1)) (hm : ∀ z, z ≠ Str.ofString "mixed" → z ≠ Str.ofString "rest" → z ≠ Str.ofString "k" → z ≠ Str.ofString "number" → m' z = m₀ z)
    (hd : IntsAre dv ds) (hD : Digs ds) (hn : ds.length = n) (a1 : 0 ≤ mx) (a2 : mx < 2147483647) : DigOut h₀ L I oI l cst m₀ n Q s₁ .next { s₁ with heap := h', toks := tk } := by
  rw [four_n m' m₀ h1 hm] at F
  exact ⟨rfl, h', tk, mx, t1, _, _, _, dv, c, ds, rfl, F, fun p hp => N p (hs p hp), hd, hD, hn, a1, a2⟩
theorem off_swap {I : Addr} {o o' : Obj} (hoff : ∀ p ∈ (l, o) :: cst, p.1 ≠ I) : ∀ p ∈ (l, o') :: cst, p.1 ≠ I := fun p hp => by
  rcases List.mem_cons.mp hp with rfl | hp
  · exact hoff (l, o) List.mem_cons_self
  · exact hoff p (List.mem_cons_of_mem _ hp)
theorem loop_in {r : Addr} {t u v : Tok} {px : Pos} {m₁ : Str → Option Value} {mx₀ rs₀ : Int} {t1₀ t2₀ : Tok} {dv₀ : List Value} {c₀ n₀ : Nat} {ds₀ : List Int} (hh : A.handled = none) (hE : PassesOwn (model prog w) A env E)
    (hr : IsRange s.heap r 0 4 1 t u v) (F : Fr h₀ env.locals s.heap m₁) (N : News h₀ env.locals s.heap ((l, lsO dv₀ c₀) :: cst)) (h1 : m₁ (Str.ofString "mixed") = some (.int mx₀ t1₀)) (h2 : m₁ (Str.ofString "rest") = some (.int rs₀ t2₀)) (hm : ∀ z, z ≠ Str.ofString "mixed" → z ≠ Str.ofString "rest" → z ≠ Str.ofString "k" → m₁ z = m₀ z)
    (hd : IntsAre dv₀ ds₀) (hD : Digs ds₀) (hn : ds₀.length = n₀) (a1 : 0 ≤ mx₀) (a2 : mx₀ < 2147483647) (a3 : 0 ≤ rs₀) (a4 : rs₀ < 1000000000000000)
    (turn : ∀ (j : Nat) (mx rs : Int) (t1 t2 tk₁ : Tok) u dv c ds I oI h tk, j < 4 → IntsAre dv ds → Digs ds → ds.length = n₀ + j → 0 ≤ mx → mx < 2147483647 → 0 ≤ rs → rs < 1000000000000000 → (@Ne Nat l I) → (∀ p ∈ cst, p.1 ≠ I) →
      Fr h₀ env.locals h (fun z => if z = Str.ofString "mixed" then some (.int mx t1) else if z = Str.ofString "rest" then some (.int rs t2) else if z = Str.ofString "k" then u else m₀ z) → News h₀ env.locals h ((I, oI) :: (l, lsO dv c) :: cst) →
      wpAny (model prog w) A (assign (.Name (Str.ofString "k") px) env (.int (0 + (j : Int)) tk₁)) (fun _ s₃ => wpAny (model prog w) A (execs body env) (DigIn h₀ env.locals I oI l cst m₀ (n₀ + (j + 1)) Q { s with heap := h, toks := tk }) E s₃) E { s with heap := h, toks := tk })
    (done : ∀ (mx rs : Int) (t1 t2 : Tok) u dv c ds h tk, IntsAre dv ds → Digs ds → ds.length = n₀ + 4 → 0 ≤ mx → mx < 2147483647 → Fr h₀ env.locals h (fun z => if z = Str.ofString "mixed" then some (.int mx t1) else if z = Str.ofString "rest" then some (.int rs t2) else if z = Str.ofString "k" then u else m₀ z) → News h₀ env.locals h ((l, lsO dv c) :: cst) → Q .next { s with heap := h, toks := tk }) :
    LoopSrc prog w A env (.Name (Str.ofString "k") px) body Q E (.ref r) s := by
  refine LoopSrc.range (n := 4) (fun i m nw => ∃ (mx rs : Int) (t1 t2 : Tok), ∃ u dv c ds, m = (fun z => if z = Str.ofString "mixed" then some (.int mx t1) else if z = Str.ofString "rest" then some (.int rs t2) else if z = Str.ofString "k" then u else m₀ z) ∧ nw = (l, lsO dv c) :: cst ∧ IntsAre dv ds ∧ Digs ds ∧ ds.length = n₀ + i ∧ 0 ≤ mx ∧ mx < 2147483647 ∧ 0 ≤ rs ∧ rs < 1000000000000000)
    hh hE hr (by decide) (by rfl) F N ⟨mx₀, rs₀, t1₀, t2₀, _, dv₀, c₀, ds₀, three_k m₁ m₀ h1 h2 hm, rfl, hd, hD, by rw [hn]; rfl, a1, a2, a3, a4⟩ ?_ ?_
  · rintro i tk₁ m nw I oI h tk hi ⟨mx, rs, t1, t2, u, dv, c, ds, rfl, rfl, hd', hD', hn', b1, b2, b3, b4⟩ hoff F' N'
    refine wpAny_mono (turn i mx rs t1 t2 tk₁ u dv c ds I oI h tk hi hd' hD' hn' b1 b2 b3 b4 (hoff _ List.mem_cons_self) (fun p hp => hoff p (List.mem_cons_of_mem _ hp)) F' N') (fun _ s₃ h₃ => wpAny_mono h₃ (fun f s₄ h₄ => ?_) fun _ _ e => e) fun _ _ e => e
    obtain ⟨rfl, h', tk', mx', rs', t1', t2', u', dv', c', ds', rfl, F₄, N₄, hd₄, hD₄, hn₄, c1, c2, c3, c4⟩ := h₄
    exact ⟨h', tk', _, _, rfl, F₄, N₄, off_swap hoff, mx', rs', t1', t2', u', dv', c', ds', rfl, rfl, hd₄, hD₄, hn₄, c1, c2, c3, c4⟩
  · rintro m nw h tk ⟨mx, rs, t1, t2, u, dv, c, ds, rfl, rfl, hd', hD', hn', b1, b2, b3, b4⟩ F' N'
    exact done mx rs t1 t2 u dv c ds h tk hd' hD' hn' b1 b2 F' N'
theorem loop_out {ax : Addr} {ws : List Value} {is : List Int} {m₁ : Str → Option Value} {mx₀ : Int} {t1₀ : Tok} {all : List (Addr × Obj)} (news : List (Addr × Obj)) (hh : A.handled = none) (hE : PassesOwn (model prog w) A env E)
    (hw : IntsAre ws is) (F : Fr h₀ env.locals s.heap m₁) (hfd : m₁ (Str.ofString "found") = some (.ref l)) (hN : News h₀ env.locals s.heap all) (hs : ∀ p ∈ (l, lsO [] 0) :: (ax, lsO ws 0) :: news, p ∈ all) (h1 : m₁ (Str.ofString "mixed") = some (.int mx₀ t1₀)) (hm : ∀ z, z ≠ Str.ofString "mixed" → z ≠ Str.ofString "rest" → z ≠ Str.ofString "k" → z ≠ Str.ofString "number" → m₁ z = m₀ z)
    (a1 : 0 ≤ mx₀) (a2 : mx₀ < 2147483647)
    (turn : ∀ (j : Nat) (n : Int) (t : Tok) (mx : Int) (t1 : Tok) u1 u2 u3 dv c ds I oI h tk, j < is.length → IntsAre dv ds → Digs ds → ds.length = 4 * j → 0 ≤ mx → mx < 2147483647 → (@Ne Nat l I) → (∀ p ∈ ((ax, lsO ws 0) :: news), p.1 ≠ I) →
      Fr h₀ env.locals h (fun z => if z = Str.ofString "mixed" then some (.int mx t1) else if z = Str.ofString "rest" then u1 else if z = Str.ofString "k" then u2 else if z = Str.ofString "number" then u3 else m₀ z) → News h₀ env.locals h ((I, oI) :: (l, lsO dv c) :: ((ax, lsO ws 0) :: news)) →
      wpAny (model prog w) A (assign target env (.int n t)) (fun _ s₃ => wpAny (model prog w) A (execs body env) (DigOut h₀ env.locals I oI l ((ax, lsO ws 0) :: news) m₀ (4 * (j + 1)) Q { s with heap := h, toks := tk }) E s₃) E { s with heap := h, toks := tk })
    (done : ∀ (mx : Int) (t1 : Tok) u1 u2 u3 dv c ds h tk, IntsAre dv ds → Digs ds → ds.length = 4 * is.length → Fr h₀ env.locals h (fun z => if z = Str.ofString "mixed" then some (.int mx t1) else if z = Str.ofString "rest" then u1 else if z = Str.ofString "k" then u2 else if z = Str.ofString "number" then u3 else m₀ z) → News h₀ env.locals h ((l, lsO dv c) :: ((ax, lsO ws 0) :: news)) → Q .next { s with heap := h, toks := tk }) :
    LoopSrc prog w A env target body Q E (.ref ax) s := by
  have hlen : ws.toArray.size = is.length := by simpa using hw.length
  have N : News h₀ env.locals s.heap ((l, lsO [] 0) :: (ax, lsO ws 0) :: news) := fun p hp => hN p (hs p hp)
  refine LoopSrc.list (items := ws.toArray) (k := 0) (fun i m nw => ∃ (mx : Int) (t1 : Tok), ∃ u1 u2 u3 dv c ds, m = (fun z => if z = Str.ofString "mixed" then some (.int mx t1) else if z = Str.ofString "rest" then u1 else if z = Str.ofString "k" then u2 else if z = Str.ofString "number" then u3 else m₀ z) ∧ nw = (l, lsO dv c) :: ((ax, lsO ws 0) :: news) ∧ IntsAre dv ds ∧ Digs ds ∧ ds.length = 4 * i ∧ 0 ≤ mx ∧ mx < 2147483647)
    hh hE F N ?_ ⟨mx₀, t1₀, _, _, _, [], 0, [], four_n m₁ m₀ h1 hm, rfl, .nil, (fun _ h => nomatch h), rfl, a1, a2⟩ ?_ ?_
  · rintro i m nw ⟨_, _, _, _, _, _, _, _, _, rfl, _⟩
    exact List.mem_cons_of_mem _ List.mem_cons_self
  · rintro i v m nw I oI h tk hv ⟨mx, t1, u1, u2, u3, dv, c, ds, rfl, rfl, hd', hD', hn', b1, b2⟩ hoff F' N'
    obtain ⟨n, t, rfl, hn⟩ := IntsAre.at hw i v (by simpa using hv)
    have hi : i < is.length := (List.getElem?_eq_some_iff.mp hn).1
    refine wpAny_mono (turn i n t mx t1 u1 u2 u3 dv c ds I oI h tk hi hd' hD' hn' b1 b2 (hoff _ List.mem_cons_self) (fun p hp => hoff p (List.mem_cons_of_mem _ hp)) F' N') (fun _ s₃ h₃ => wpAny_mono h₃ (fun f s₄ h₄ => ?_) fun _ _ e => e) fun _ _ e => e
    obtain ⟨rfl, h', tk', mx', t1', u1', u2', u3', dv', c', ds', rfl, F₄, N₄, hd₄, hD₄, hn₄, c1, c2⟩ := h₄
    exact ⟨h', tk', _, _, rfl, F₄, N₄, off_swap hoff, mx', t1', u1', u2', u3', dv', c', ds', rfl, rfl, hd₄, hD₄, hn₄, c1, c2⟩
  · rintro m nw h tk ⟨mx, t1, u1, u2, u3, dv, c, ds, rfl, rfl, hd', hD', hn', b1, b2⟩ F' N'
    exact done mx t1 u1 u2 u3 dv c ds h tk hd' hD' (by rw [hn', hlen]) F' N'
end
end Aj
end

/-! AjDigits -/
section
open PySem PySem.W PyProof.Rows
namespace Aj
local macro_rules | `(tactic| k_mem) => `(tactic| first | assumption | exact List.mem_cons_self | (refine List.mem_cons_of_mem _ ?_; k_mem))
local macro_rules | `(tactic| walk_at "exec For") => `(tactic| (k_here; k_dflt (refine for_src ?_ (by intro _; rfl))))
local macro_rules | `(tactic| walk_at "exec For Name BinOp cons nil") => `(tactic| (k_here; k_dflt (refine for_src ?_ (by intro _; rfl))))
local macro_rules | `(tactic| walk_at "exec For Name Call cons nil") => `(tactic| (k_here; k_dflt (refine for_src ?_ (by intro _; rfl))))
set_option maxRecDepth 100000 in
set_option maxHeartbeats 8000000 in
/-- the contract of _law_digits -/
theorem digits_call {w : World} {mean : ExcName → Option Value} {mg mb : Str → Option Value} {dp un : Nat} {gd : Option (List Code)} {cn : Str} {cs : Scope} {a : Addr} {ccd : Value} {cl : List (Str × Addr)} {outer : List Env} {A₀ : Around} {base h₀ : Heap} {L : Addr} {m : Str → Option Value} {news : List (Addr × Obj)} {s : Shared} {Q E : Value → Shared → Prop} {al : Addr} {vs : List Value} {ns : List Int}
    (B : Below A₀ base outer h₀) (F : Fr h₀ L s.heap m) (X : (hd.heap_39 w.params).In h₀) (N : News h₀ L s.heap news) (T : Top hd.view_39 (looseW hd.view_39 [Str.ofString "_dnsname_match", Str.ofString "match_hostname", Str.ofString "_law_signs"]) mean mg mb h₀) (hk : cs.kind = .function) (hdp : dp + 8 < recursionLimit) (hun : un + 300 < cLine)
    (hl : h₀.IsList al vs.toArray) (hi : IntsAre vs ns) (hn : ns.length ≤ 63) (hlay : (PyData.list (ns.map PyData.int)).layable0 = true)
    (hret : ∀ l dv c ds h' tk', IntsAre dv ds → Digs ds → 1 ≤ ds.length → ds.length ≤ 52 → Fr h₀ L h' m → News h₀ L h' ((l, lsO dv c) :: news) → (∀ p ∈ news, p.1 < l) → Q (.ref l) { s with heap := h', toks := tk' }) :
    wpAny (model PySem.Challenge.rw_aj5040_01.row.prog w) (ktrTop dp un gd cn cs L a ccd cl outer) (call (.ref 47) [.ref al]) Q E s := by
  w_top off; revert X; k_fill; intro X
  have hMk := kstMark
  (refine wpAny_call ?_); k_dflt (refine' code_def ?k1 ?k2 ?k3 ?k4 ?k5 ?kA ?kF ?kK ?k6 ?k7 ?k8 ?k9 ?kB ?_ ?c2 ?c3 ?c4 ?c5; (case kA => exact rfl); (case kF => exact rfl); (case kK => assumption); (case k1 => k_asm); (case k2 => k_asm); (case k3 => k_asm); (case k4 => k_asm); (case k5 => k_asm); (case k6 => k_is); (case k7 => k_is); (case k8 => ktr_room); (case k9 => first | exact BindsTo.of_eq rfl | exact binds_K (by k_in) rfl (by k_is) rfl rfl rfl); (case c5 => decide); (case kB => exact locs rfl); (case c2 => exact rfl); (case c3 => exact rfl); (case c4 => exact rfl); k_whole; intro g' L' h' FG' F' N' B' X' T'; (try dsimp only); (try k_fold))
  have hl' : g'.IsList al vs.toArray := stays_list FG'.keep hl
  repeat' first | (k_unfold; (try dsimp only)) | (k_end; wrow_close) | walk1 | (dsimp only; walk1) | (leave1; walk_say "STEP leave1"; try dsimp only)
  have hm0 := fmod_lo (ns.length : Int) (n := 1000) (by decide)
  have hm1 := fmod_hi (ns.length : Int) (n := 1000) (by decide)
  refine loop_out news rfl (by passes_own) (by assumption) (by k_asm) rfl (by k_asm) (by kcj_all) rfl (fun _ _ _ _ _ => rfl) ?_ ?_ ?_ ?_
  · omega
  · omega
  · intro j n t mx t1 u1 u2 u3 dv c ds I oI h tk hj hdv hD hdl b1 b2 hlI hoff F2 N2
    repeat' first | (k_unfold; (try dsimp only)) | (k_end; wrow_close) | walk1 | (dsimp only; walk1) | (leave1; walk_say "STEP leave1"; try dsimp only)
    refine loop_in rfl (by passes_own) (by assumption) (by k_asm) (news_swap (by k_asm)) rfl rfl (fun _ _ _ _ => rfl) hdv hD rfl b1 b2 (fmod_lo _ (n := 10 ^ Int.toNat 15) (by decide)) (Int.lt_of_lt_of_le (fmod_hi _ (n := 10 ^ Int.toNat 15) (by decide)) (by decide)) ?_ ?_
    · intro j2 mx2 rs t3 t4 tk2 u dv2 c2 ds2 I2 oI2 h2 tk3 hj2 hdv2 hD2 hdl2 b3 b4 b5 b6 hlI2 hoff2 F3 N3
      have hq0 : 0 ≤ rs.fdiv 4096 := by rw [Int.fdiv_eq_ediv_of_nonneg _ (by decide)]; omega
      have hq1 : rs.fdiv 4096 < 1000000000000000 := by rw [Int.fdiv_eq_ediv_of_nonneg _ (by decide)]; omega
      have hlI3 : _ := hoff2 _ List.mem_cons_self
      repeat' first | (k_unfold; (try dsimp only)) | (k_end; wrow_close) | walk1 | (dsimp only; walk1) | (leave1; walk_say "STEP leave1"; try dsimp only)
      all_goals (
        rename News _ _ _ _ => N8
        simp only [List.push_toArray] at N8
        refine DigIn.intro (by k_asm) N8 (fun _ hp => hp) rfl rfl (by intro z h1 h2 h3; simp only [if_neg h1, if_neg h2, if_neg h3]) (IntsAre.append hdv2 (.cons _ _ .nil)) (digs_snoc hD2 (fmod_lo _ (by decide)) (fmod_hi _ (by decide))) ?_ (fmod_lo _ (by decide)) (fmod_hi _ (by decide)) (by omega) (by omega)
        rw [List.length_append, hdl2]; rfl)
    · intro mx2 rs t3 t4 u dv2 c2 ds2 h2 tk2 hdv2 hD2 hdl2 b3 b4 F3 N3
      dsimp only
      repeat' first | (k_unfold; (try dsimp only)) | (k_end; wrow_close) | walk1 | (dsimp only; walk1) | (leave1; walk_say "STEP leave1"; try dsimp only)
      exact DigOut.intro (by k_asm) (news_swap N3) (fun _ hp => hp) rfl (by intro z h1 h2 h3 h4; simp only [if_neg h1, if_neg h2, if_neg h3, if_neg h4]) hdv2 hD2 (by rw [hdl2, hdl]; omega) b3 b4
  · intro mx t1 u1 u2 u3 dv c ds h tk hdv hD hdl F2 N2
    dsimp only
    repeat' first | (k_unfold; (try dsimp only)) | (k_end; wrow_close) | walk1 | (dsimp only; walk1) | (leave1; walk_say "STEP leave1"; try dsimp only)
    have e1 : (List.take 12 ns ++ [5]).length = min 12 ns.length + 1 := by rw [List.length_append, List.length_take]; rfl
    exact hret _ dv c ds _ _ hdv hD (by rw [hdl, e1]; omega) (by rw [hdl, e1]; omega) (by k_asm) (cb_drop (by k_asm) (by kcj_all)) (by assumption)
end Aj
end

/-! AjItem -/
section
open PySem PySem.W PySem.Spec PySem.Calls PyProof.Rows PyProof.V
namespace Aj
section
variable {prog : Program} {w : World} {A : Around} {E : Value → Shared → Prop} {s : Shared} {h₀ : Heap} {L l : Addr} {news : List (Addr × Obj)} {value slice : PySem.Expr} {j : Int} {u : Tok} {Q : Value → Shared → Prop}
theorem item_any {items : Array Value} {v : Value} (hl : s.heap.IsList l items) (h0 : 0 ≤ j) (h1 : j < 2 ^ 63) (hx : items[j.toNat]? = some v) (h : Q v s)
    (hs : subscripted slice false (.ref l) (.int j u) = operate [.ref l, .int j u] (getItem (.ref l) (.int j u))) : wpAny (model prog w) A (subscriptTail value slice (.ref l) (.int j u)) Q E s :=
  tail_any hl.typeIs slot_list_getitem.lookup (wpAny_getItem_list hl h0 h1 hx h) hs
theorem item_digs {dv : List Value} {c : Nat} {ds : List Int} (N : News h₀ L s.heap news) (hm : (l, lsO dv c) ∈ news) (hi : IntsAre dv ds) (hD : Digs ds) (hl : ds.length ≤ 52) (h0 : 0 ≤ j) (h1 : j < ds.length) (h : ∀ d t, 0 ≤ d → d < 4096 → Q (.int d t) s)
    (hs : subscripted slice false (.ref l) (.int j u) = operate [.ref l, .int j u] (getItem (.ref l) (.int j u))) : wpAny (model prog w) A (subscriptTail value slice (.ref l) (.int j u)) Q E s := by
  have hjl : j.toNat < dv.length := by rw [hi.length]; omega
  obtain ⟨d, t, e, hd⟩ := IntsAre.at hi j.toNat dv[j.toNat] (List.getElem?_eq_getElem hjl)
  have hb := hD d (List.mem_of_getElem? hd)
  exact item_any (v := .int d t) (N.isList hm) h0 (by omega) (by rw [List.getElem?_toArray, List.getElem?_eq_getElem hjl, e]) (h d t hb.1 hb.2) hs
end
end Aj
end

/-! AjAt -/
section
open PySem PySem.W PyProof.Rows
namespace Aj
local macro_rules | `(tactic| k_mem) => `(tactic| first | assumption | exact List.mem_cons_self | (refine List.mem_cons_of_mem _ ?_; k_mem))
local macro_rules | `(tactic| walk_at "call builtin:len") => `(tactic| (k_here; k_dflt (refine kst_len (by k_asm) (by k_mem) (IntsAre.length (by assumption)) (by omega) ?_)))
local macro_rules | `(tactic| walk_at "subscriptTail Name BinOp ref int") => `(tactic| (k_here; k_dflt (refine item_digs (by k_asm) (by k_mem) (by assumption) (by assumption) (by assumption) (fmod_lo _ (by omega)) (fmod_hi _ (by omega)) ?_ (by with_unfolding_all rfl)); intro d9 t9 hd9 hd8))
set_option maxRecDepth 100000 in
set_option maxHeartbeats 8000000 in
/-- the contract of _law_at -/
theorem at_call {w : World} {mean : ExcName → Option Value} {mg mb : Str → Option Value} {dp un : Nat} {gd : Option (List Code)} {cn : Str} {cs : Scope} {a : Addr} {ccd : Value} {cl : List (Str × Addr)} {outer : List Env} {A₀ : Around} {base h₀ : Heap} {L : Addr} {m : Str → Option Value} {news : List (Addr × Obj)} {s : Shared} {Q E : Value → Shared → Prop} {l : Addr} {dv : List Value} {c : Nat} {ds : List Int} {k : Int} {t : Tok}
    (B : Below A₀ base outer h₀) (F : Fr h₀ L s.heap m) (X : (hd.heap_39 w.params).In h₀) (N : News h₀ L s.heap news) (T : Top hd.view_39 (looseW hd.view_39 [Str.ofString "_dnsname_match", Str.ofString "match_hostname", Str.ofString "_law_signs"]) mean mg mb h₀) (hk : cs.kind = .function) (hdp : dp + 4 < recursionLimit)
    (hl : (l, lsO dv c) ∈ news) (hi : IntsAre dv ds) (hD : Digs ds) (hd1 : 1 ≤ ds.length) (hd2 : ds.length ≤ 52)
    (hret : ∀ d t h' tk', 0 ≤ d → d < 4096 → Fr h₀ L h' m → News h₀ L h' news → Q (.int d t) { s with heap := h', toks := tk' }) :
    wpAny (model PySem.Challenge.rw_aj5040_01.row.prog w) (ktrTop dp un gd cn cs L a ccd cl outer) (call (.ref 54) [.ref l, .int k t]) Q E s := by
  w_top off; revert X; k_fill; intro X
  have hMk := kstMark
  (refine wpAny_call ?_); k_dflt (refine' code_def ?k1 ?k2 ?k3 ?k4 ?k5 ?kA ?kF ?kK ?k6 ?k7 ?k8 ?k9 ?kB ?_ ?c2 ?c3 ?c4 ?c5; (case kA => exact rfl); (case kF => exact rfl); (case kK => assumption); (case k1 => k_asm); (case k2 => k_asm); (case k3 => k_asm); (case k4 => k_asm); (case k5 => k_asm); (case k6 => k_is); (case k7 => k_is); (case k8 => ktr_room); (case k9 => first | exact BindsTo.of_eq rfl | exact binds_K (by k_in) rfl (by k_is) rfl rfl rfl); (case c5 => decide); (case kB => exact locs rfl); (case c2 => exact rfl); (case c3 => exact rfl); (case c4 => exact rfl); k_whole; intro g' L' h' FG' F' N' B' X' T'; (try dsimp only); (try k_fold))
  repeat' first | (k_unfold; (try dsimp only)) | (k_end; wrow_close) | walk1 | (dsimp only; walk1) | (leave1; walk_say "STEP leave1"; try dsimp only)
  exact hret _ _ _ _ (by assumption) (by assumption) (by k_asm) (by k_asm)
end Aj
end

/-! AjMenu -/
section
open PySem PySem.W PySem.Spec PySem.Calls PyProof.Rows PyProof.V
namespace Aj
def okB (z : Str) : Bool := z.cps.toList.all (fun c => decide (c < 128)) && decide (z.length ≤ 8)
theorem ok_of {xs : List Str} (h : xs.all okB = true) : ∀ z ∈ xs, Asc z ∧ z.length ≤ 8 := fun z hz => by
  have h1 := List.all_eq_true.mp h z hz
  unfold okB at h1
  rw [Bool.and_eq_true] at h1
  exact ⟨fun c hc => by simpa using List.all_eq_true.mp h1.1 c hc, by simpa using h1.2⟩
section
variable {prog : Program} {w : World} {A : Around} {E : Value → Shared → Prop} {s : Shared} {h₀ : Heap} {L l D : Addr} {m : Str → Option Value} {news : List (Addr × Obj)} {value slice : PySem.Expr} {j : Int} {u : Tok} {Q : Value → Shared → Prop} {K : Frag}
theorem item_strs {vs : List Value} {xs : List Str} (hl : s.heap.IsList l vs.toArray) (hi : StrsAre vs xs) (hP : xs.all okB = true) (hn : xs.length ≤ 10) (h0 : 0 ≤ j) (h1 : j < xs.length) (h : ∀ z t, Asc z → z.length ≤ 8 → Q (.str z t) s)
    (hs : subscripted slice false (.ref l) (.int j u) = operate [.ref l, .int j u] (getItem (.ref l) (.int j u))) : wpAny (model prog w) A (subscriptTail value slice (.ref l) (.int j u)) Q E s := by
  have hjl : j.toNat < vs.length := by rw [hi.length]; omega
  obtain ⟨z, t, e, hz⟩ := StrsAre.item hi j.toNat vs[j.toNat] (List.getElem?_eq_getElem hjl)
  have hb := ok_of hP z (List.mem_of_getElem? hz)
  exact item_any (v := .str z t) hl h0 (by omega) (by rw [List.getElem?_toArray, List.getElem?_eq_getElem hjl, e]) (h z t hb.1 hb.2) hs
theorem item_text {vs : List Value} {xs : List Str} {P : Str → Prop} (hl : s.heap.IsList l vs.toArray) (hi : StrsAre vs xs) (hP : ∀ z ∈ xs, P z) (hn : xs.length ≤ 100) (h0 : 0 ≤ j) (h1 : j < xs.length) (h : ∀ z t, P z → Q (.str z t) s)
    (hs : subscripted slice false (.ref l) (.int j u) = operate [.ref l, .int j u] (getItem (.ref l) (.int j u))) : wpAny (model prog w) A (subscriptTail value slice (.ref l) (.int j u)) Q E s := by
  have hjl : j.toNat < vs.length := by rw [hi.length]; omega
  obtain ⟨z, t, e, hz⟩ := StrsAre.item hi j.toNat vs[j.toNat] (List.getElem?_eq_getElem hjl)
  exact item_any (v := .str z t) hl h0 (by omega) (by rw [List.getElem?_toArray, List.getElem?_eq_getElem hjl, e]) (h z t (hP z (List.mem_of_getElem? hz))) hs
theorem item_four {a b c d : Value} (hl : s.heap.IsList l [a, b, c, d].toArray) (h0 : 0 ≤ j) (h1 : j < 4) (ha : Q a s) (hb : Q b s) (hc : Q c s) (hd : Q d s)
    (hs : subscripted slice false (.ref l) (.int j u) = operate [.ref l, .int j u] (getItem (.ref l) (.int j u))) : wpAny (model prog w) A (subscriptTail value slice (.ref l) (.int j u)) Q E s := by
  have hj : j = 0 ∨ j = 1 ∨ j = 2 ∨ j = 3 := by omega
  rcases hj with rfl | rfl | rfl | rfl
  · exact item_any hl h0 (by decide) rfl ha hs
  · exact item_any hl h0 (by decide) rfl hb hs
  · exact item_any hl h0 (by decide) rfl hc hs
  · exact item_any hl h0 (by decide) rfl hd hs
theorem list_K {od : Option Addr} {sl : Array (Option Value)} {items : Array Value} {n : Nat} (F : Fr h₀ L s.heap m) (X : K.In h₀) (hl : K.lookup l = some ⟨.type "list", od, .seq items n, sl⟩) : s.heap.IsList l items := ⟨_, F.keep _ _ (X _ _ hl), rfl, n, rfl⟩
theorem div_pow8 {n : Int} {q : Nat} {t u : Tok} {Q : Value → Shared → Prop} (hq : q ≤ 8) (h : Q (.int (n.fdiv (8 ^ q)) s.toks) { s with toks := s.toks + 1 }) :
    wpAny (model prog w) A (binaryOp .FloorDiv (.int n t) (.int (8 ^ q) u)) Q E s :=
  floordiv_int (Int.ne_of_gt (Int.pow_pos (by decide))) h (Or.inl (PyProof.noPylong_small (by
    have h1 : ((8 : Int) ^ q).natAbs = 8 ^ q := by rw [Int.natAbs_pow]; rfl
    have h2 : 8 ^ q ≤ 8 ^ 8 := Nat.pow_le_pow_right (by decide) hq
    have h3 : 8 ^ 8 = 16777216 := by decide
    omega)))
theorem join_small {ys : List Value} {k : Nat} {texts : List Str} {t : Tok} {Q : Value → Shared → Prop}
    (N : News h₀ L s.heap news) (hp : (D, lsO ys k) ∈ news) (hd : StrsAre ys texts) (hl : texts.length ≤ 4) (hA : ∀ z ∈ texts, Asc z ∧ z.length ≤ 8)
    (h : ∀ x t' k, Asc x → x.length ≤ 32 → Q (.str x t') { s with toks := k }) : wpAny (model prog w) A (call (.builtin "str.join") [.str (Str.ofString "") t, .ref D]) Q E s := by
  have h2 := StrLaws.sumLen_le texts fun z hz => (hA z hz).2
  have e0 : (Str.ofString "").length = 0 := by decide
  have hj : (Txt.join (Str.ofString "") texts).length ≤ 32 := by
    unfold Txt.join
    rw [StrLaws.glued_eq_join]
    have h1 := StrLaws.join_length_le (Str.ofString "") texts
    rw [e0] at h1
    omega
  refine join_list (N.isList hp) (by simpa using hd) (by rw [e0]; omega) (fun t' k => h _ t' k ?_ hj)
  unfold Txt.join
  rw [StrLaws.glued_eq_join]
  exact asc_join (ok_of (xs := [Str.ofString ""]) (by decide +kernel) _ (.head _)).1 fun p hp => (hA p hp).1
end
section
variable {prog : Program} {w : World} {A : Around} {h₀ : Heap} {L : Addr} {m : Str → Option Value} {env : Env} {elt : PySem.Expr} {x : Str} {scope : Scope} {cl : List (Str × Addr)} {s : Shared} {S : List (Addr × Obj) → Prop} {Fin : List Value → List (Addr × Obj) → Prop} {news : List (Addr × Obj)}
/-- a comprehension over a range whose element is some text of a kind -/
theorem comp_texts {n : Nat} {a : Int} (B : Nat) (hS : S news)
    (turn : ∀ i t I oI C oC D m₂ ys h tk (E' : Value → Shared → Prop), i < n → LCg.NsObj oC m₂ → m₂ x = some (.int (a + ((i : Nat) : Int)) t) → Fr h₀ L h m → News h₀ L h ((I, oI) :: (C, oC) :: (D, LCg.lst ys) :: news) →
      wpAny (model prog w) A (eval elt (compEnvC scope cl C env)) (fun y s₂ => ∃ z h' tk' t', s₂ = { s with heap := h', toks := tk' } ∧ Fr h₀ L h' m ∧ News h₀ L h' ((I, oI) :: (C, oC) :: (D, LCg.lst ys) :: news) ∧ y = .str z t' ∧ Asc z ∧ z.length ≤ B) E' { s with heap := h, toks := tk })
    (fin : ∀ ys xs, StrsAre ys xs → (∀ z ∈ xs, Asc z ∧ z.length ≤ B) → xs.length = n → Fin ys news) : LCg.CompRest prog w A h₀ L m env elt x scope cl s S (fun i v => ∃ t, v = .int (a + (i : Int)) t) Fin n 0 [] news := by
  refine comp_inv (fun i ys nw => nw = news ∧ ∃ xs, StrsAre ys xs ∧ (∀ z ∈ xs, Asc z ∧ z.length ≤ B) ∧ xs.length = i) ⟨rfl, [], .nil, (fun _ h => nomatch h), rfl⟩ ?_ ?_
  · rintro i v ys nw I oI C oC D m₂ h tk E' hin ⟨t, rfl⟩ ⟨rfl, xs, hy, hP, hl⟩ hC hx F N off ne
    refine wpAny_mono (turn i t I oI C oC D m₂ ys h tk E' hin hC hx F N) (fun y s₂ hq => ?_) fun _ _ e => e
    obtain ⟨z, h', tk', t', rfl, F', N', rfl, hz1, hz2⟩ := hq
    refine ⟨h', tk', _, rfl, F', N', off, hS, rfl, xs ++ [z], hy.append' (.cons z t' .nil), fun q hq => ?_, by rw [List.length_append, hl]; rfl⟩
    rcases List.mem_append.mp hq with hq | hq
    · exact hP q hq
    · rw [List.mem_singleton.mp hq]; exact ⟨hz1, hz2⟩
  · rintro ys nw ⟨rfl, xs, hy, hP, hl⟩
    exact fin ys xs hy hP hl
end
end Aj
end

/-! AjName -/
section
open PySem PySem.W PyProof.Rows
namespace Aj
local macro_rules | `(tactic| k_mem) => `(tactic| first | assumption | exact List.mem_cons_self | (refine List.mem_cons_of_mem _ ?_; k_mem))
local macro_rules | `(tactic| walk_at "eval ListComp") => `(tactic| (k_here; k_dflt (refine LCg.ListComp_U (F₀ := by k_asm) (by with_unfolding_all rfl) (by decide) (by rfl) (by decide) (by rfl) ?_)))
local macro_rules | `(tactic| walk_at "CompSrc") => `(tactic| (k_here; k_dflt (refine LCg.CompSrc.range (by rfl) (by k_asm) (by k_asm) (by assumption) (small_one (by omega) (by omega) (by omega) (by omega)) (rangeSize_nat _ _) (by rw [sizeLine_eq]; omega) ?_); (intro g9); (refine comp_texts 8 trivial (fun i t I oI C oC D m₂ ys h tk E' hin hC hx F' N' => ?_) (fun ys xs hys hxs hxl => ?_))))
local macro_rules | `(tactic| walk_at "call builtin:str.join") => `(tactic| (k_here; k_dflt (refine join_small (by k_asm) (by k_mem) (by assumption) (by omega) (by assumption) ?_); intro x9 t9 k9 hx9 hl9))
local macro_rules | `(tactic| walk_at "binaryOp FloorDiv int int") => `(tactic| (k_here; (with_reducible show wpAny _ _ (binaryOp _ _ (Value.int (8 ^ _) _)) _ _ _); refine div_pow8 (by omega) ?_))
local macro_rules | `(tactic| walk_at "subscriptTail List cons BinOp ref int") => `(tactic| (k_here; k_dflt (refine item_strs (News.isList (by k_asm) (by k_mem)) (.cons _ _ (.cons _ _ (.cons _ _ (.cons _ _ .nil)))) (by decide +kernel) (by decide) (fmod_lo _ (by decide)) (fmod_hi _ (by decide)) ?_ (by with_unfolding_all rfl)); intro z9 t9 hz9 hy9))
local macro_rules | `(tactic| walk_at "subscriptTail Name BinOp ref int") => `(tactic| (k_here; k_dflt (refine item_strs (list_K (by k_asm) (by k_asm) (by k_is)) (.cons _ _ (.cons _ _ (.cons _ _ (.cons _ _ (.cons _ _ (.cons _ _ (.cons _ _ (.cons _ _ .nil)))))))) (by decide +kernel) (by decide) (fmod_lo _ (by decide)) (fmod_hi _ (by decide)) ?_ (by with_unfolding_all rfl)); intro z9 t9 hz9 hy9))
set_option maxRecDepth 100000 in
set_option maxHeartbeats 8000000 in
/-- the contract of _law_name -/
theorem name_call {w : World} {mean : ExcName → Option Value} {mg mb : Str → Option Value} {dp un : Nat} {gd : Option (List Code)} {cn : Str} {cs : Scope} {a : Addr} {ccd : Value} {cl : List (Str × Addr)} {outer : List Env} {A₀ : Around} {base h₀ : Heap} {L : Addr} {m : Str → Option Value} {news : List (Addr × Obj)} {s : Shared} {Q E : Value → Shared → Prop} {n k : Int} {t u : Tok}
    (B : Below A₀ base outer h₀) (F : Fr h₀ L s.heap m) (X : (hd.heap_39 w.params).In h₀) (N : News h₀ L s.heap news) (T : Top hd.view_39 (looseW hd.view_39 [Str.ofString "_dnsname_match", Str.ofString "match_hostname", Str.ofString "_law_signs"]) mean mg mb h₀) (hk : cs.kind = .function) (hdp : dp + 4 < recursionLimit)
    (hret : ∀ x t h' tk', Asc x → x.length ≤ 40 → Fr h₀ L h' m → News h₀ L h' news → Q (.str x t) { s with heap := h', toks := tk' }) :
    wpAny (model PySem.Challenge.rw_aj5040_01.row.prog w) (ktrTop dp un gd cn cs L a ccd cl outer) (call (.ref 59) [.int n t, .int k u]) Q E s := by
  w_top off; revert X; k_fill; intro X
  have hMk := kstMark
  have hf0 := fmod_lo k (n := 4) (by decide)
  have hf1 := fmod_hi k (n := 4) (by decide)
  (refine wpAny_call ?_); k_dflt (refine' code_defC ?k1 ?k2 ?k3 ?k4 ?k5 ?kA ?kF ?kK ?k6 ?k7 ?k8 ?k9 ?kB ?kD ?_ ?c2 ?c3 ?c4; (case kA => exact rfl); (case kF => exact rfl); (case kK => assumption); (case k1 => k_asm); (case k2 => k_asm); (case k3 => k_asm); (case k4 => k_asm); (case k5 => k_asm); (case k6 => k_is); (case k7 => k_is); (case k8 => ktr_room); (case k9 => first | exact BindsTo.of_eq rfl | exact binds_K (by k_in) rfl (by k_is) rfl rfl rfl); (case kB => exact rfl); (case kD => decide +kernel); (case c2 => exact rfl); (case c3 => exact rfl); (case c4 => exact rfl); k_whole; intro g' L' h' tk' cells' FG' F' N' Y' B' X' T' l1; k_cells Y'; (try simp only [List.cons_append, List.nil_append] at N'); (try dsimp only); (try k_fold))
  repeat' first | exact ⟨_, _, _, _, rfl, by assumption, by assumption, rfl, by assumption, by assumption⟩ | (k_unfold; (try dsimp only)) | (k_end; wrow_close) | walk1 | (dsimp only; walk1) | (leave1; walk_say "STEP leave1"; try dsimp only)
  all_goals exact hret _ _ _ _ (asc_append (by assumption) (by assumption)) (by simp only [Str.length_append]; omega) (by k_asm) (cb_drop (by k_asm) (by kcj_all))
end Aj
end

/-! AjLaw0 -/
section
open PySem PySem.W PySem.Spec PySem.Calls PyProof.Rows PyProof.V
namespace Aj
/-- what stands in law once the host is drawn -/
def LawH (h₀ : Heap) (L : Addr) (s s9 : Shared) : Prop :=
  ∃ (h : Heap) (tk : Nat) (m : Str → Option Value) (al : Addr) (nv : List Value) (c : Nat) (oh : Obj) (xs : List Str) (y : Str) (ty : Tok), s9 = { s with heap := h, toks := tk } ∧ Fr h₀ L h (fun z => if z = Str.ofString "names" then some (.ref al) else m z) ∧
    News h₀ L h [(al, lsO nv c), (L + 1 + 1, oh)] ∧ oh.data = .cell (some (.str y ty)) ∧ StrsAre nv xs ∧ (∀ x ∈ xs, Good x) ∧ xs.length ≤ 5 ∧ Good y ∧ (@Ne Nat al (L + 1 + 1))
section
variable {prog : Program} {w : World} {A : Around} {s s₀ : Shared} {env : Env} {h₀ : Heap} {L : Addr} {m : Str → Option Value} {E : Value → Shared → Prop} {Q : Flow → Shared → Prop}
theorem law_cut {st : Stmt} {rest : List Stmt} (F : Fr h₀ L s.heap m)
    (h1 : wpAny (model prog w) A (exec st env) (fun f s' => match f with | .next => LawH h₀ L s s' | f => Q f s') E s) (h2 : ∀ s', LawH h₀ L s s' → wpAny (model prog w) A (execs rest env) Q E s') : wpAny (model prog w) A (execs (st :: rest) env) Q E s :=
  execs_cut _ h1 h2
theorem LawH.intro {h : Heap} {tk : Nat} {al : Addr} {nv : List Value} {c : Nat} {oh : Obj} {xs : List Str} {y : Str} {ty : Tok} {all : List (Addr × Obj)} (F : Fr h₀ L h m) (hm : m (Str.ofString "names") = some (.ref al)) (N : News h₀ L h all)
    (hs : ∀ p ∈ [(al, lsO nv c), (L + 1 + 1, oh)], p ∈ all) (ho : oh.data = .cell (some (.str y ty))) (hn : StrsAre nv xs) (hx : ∀ x ∈ xs, Good x) (hl : xs.length ≤ 5) (hy : Good y) (hne : @Ne Nat al (L + 1 + 1)) : LawH h₀ L s { s with heap := h, toks := tk } := by
  refine ⟨h, tk, m, al, nv, c, oh, xs, y, ty, rfl, ?_, fun p hp => N p (hs p hp), ho, hn, hx, hl, hy, hne⟩
  have e : (fun z => if z = Str.ofString "names" then some (.ref al) else m z) = m := by
    funext z
    by_cases h1 : z = Str.ofString "names"
    · rw [if_pos h1, h1, hm]
    · rw [if_neg h1]
  rw [e]; exact F
theorem six_le (d : Int) : (d.fmod 6 - 0).toNat ≤ 5 := by
  have h0 := fmod_lo d (n := 6) (by decide)
  have h1 := fmod_hi d (n := 6) (by decide)
  omega
theorem six_fit (d : Int) : (d.fmod 6 - 0).toNat ≤ sizeLine := by
  have := six_le d
  rw [sizeLine_eq]; omega
theorem six_small (d : Int) : Builtin.Range.small 0 (d.fmod 6) 1 = true := small_one (by decide) (by decide) (Int.le_trans (by decide) (fmod_lo d (n := 6) (by decide))) (Int.lt_trans (fmod_hi d (n := 6) (by decide)) (by decide))
theorem good40 {xs : List Str} (h : ∀ z ∈ xs, Asc z ∧ z.length ≤ 40) : ∀ z ∈ xs, Good z := fun z hz => ⟨(h z hz).1, Nat.le_trans (h z hz).2 (by decide)⟩
theorem replace_good {x z : Str} {c : Nat} (hx : Asc x ∧ x.length ≤ 40) (hz : Asc z ∧ z.length ≤ 3) : Good (Txt.replace x ⟨#[c]⟩ z) := by
  refine ⟨asc_replace hx.1 hz.1, ?_⟩
  rw [StrLaws.replace_one]
  have h1 := StrLaws.join_length_le z (Txt.split x ⟨#[c]⟩)
  have h2 := split_weight x ⟨#[c]⟩ (Nat.le_refl 1)
  have h3 := split_le x ⟨#[c]⟩
  have h4 : (Txt.split x ⟨#[c]⟩).length * z.length ≤ 42 * 3 := Nat.mul_le_mul (by omega) hz.2
  omega
end
end Aj
end

/-! AjBools -/
section
open PySem PySem.W PySem.Spec PySem.Calls PyProof.Rows PyProof.V
namespace Aj
theorem PairsIn.snoc {news : List (Addr × Obj)} {vs : List Value} {ps : List (Str × Str)} {a : Addr} {n : Nat} {k v : Str} {t u : Tok} (h : PairsIn news vs ps) (hm : (a, tup [.str k t, .str v u] n) ∈ news) : PairsIn news (vs ++ [.ref a]) (ps ++ [(k, v)]) := by
  induction h with
  | nil => exact .cons hm .nil
  | cons h1 _ ih => exact .cons h1 ih
theorem RowsIn.snoc {news : List (Addr × Obj)} {us vs : List Value} {r : List (Str × Str)} {rs : List (List (Str × Str))} {a : Addr} {n : Nat} (h : RowsIn news vs rs) (hm : (a, tup us n) ∈ news) (hp : PairsIn news us r) : RowsIn news (vs ++ [.ref a]) (rs ++ [r]) := by
  induction h with
  | nil => exact .cons hm hp .nil
  | cons h1 h2 _ ih => exact .cons h1 h2 ih
theorem PairsIn.rev {news : List (Addr × Obj)} {vs : List Value} {ps : List (Str × Str)} (h : PairsIn news vs ps) : PairsIn news vs.reverse ps.reverse := by
  induction h with
  | nil => exact .nil
  | cons h1 _ ih =>
    rw [List.reverse_cons, List.reverse_cons]
    exact ih.snoc h1
section
variable {prog : Program} {w : World} {A : Around} {h₀ : Heap} {L : Addr} {m : Str → Option Value} {env : Env} {elt : PySem.Expr} {x : Str} {scope : Scope} {cl : List (Str × Addr)} {s : Shared} {S : List (Addr × Obj) → Prop} {Fin : List Value → List (Addr × Obj) → Prop} {news : List (Addr × Obj)}
/-- texts to truth values -/
theorem comp_bools {vs : List Value} {xs : List Str} (g : Str → Bool) (hi : StrsAre vs xs) (hS : S news)
    (turn : ∀ z t I oI C oC D m₂ ys h tk (E' : Value → Shared → Prop), z ∈ xs → LCg.NsObj oC m₂ → m₂ x = some (.str z t) → Fr h₀ L h m → News h₀ L h ((I, oI) :: (C, oC) :: (D, LCg.lst ys) :: news) →
      wpAny (model prog w) A (eval elt (compEnvC scope cl C env)) (fun y s₂ => ∃ h' tk', s₂ = { s with heap := h', toks := tk' } ∧ Fr h₀ L h' m ∧ News h₀ L h' ((I, oI) :: (C, oC) :: (D, LCg.lst ys) :: news) ∧ y = .bool (g z)) E' { s with heap := h, toks := tk })
    (fin : ∀ ys, ys = xs.map (fun z => Value.bool (g z)) → Fin ys news) : LCg.CompRest prog w A h₀ L m env elt x scope cl s S (fun i v => vs.toArray[i]? = some v) Fin vs.toArray.size 0 [] news := by
  refine comp_inv (fun i ys nw => nw = news ∧ ys = (xs.take i).map (fun z => Value.bool (g z))) ⟨rfl, by simp⟩ ?_ ?_
  · rintro i v ys nw I oI C oC D m₂ h tk E' hin hv ⟨rfl, hy⟩ hC hx F N off ne
    obtain ⟨z, t, rfl, hz⟩ := StrsAre.item hi i v (by simpa using hv)
    refine wpAny_mono (turn z t I oI C oC D m₂ ys h tk E' (List.mem_of_getElem? hz) hC hx F N) (fun y s₂ hq => ?_) fun _ _ e => e
    obtain ⟨h', tk', rfl, F', N', rfl⟩ := hq
    refine ⟨h', tk', _, rfl, F', N', off, hS, rfl, ?_⟩
    rw [List.take_add_one, hz, hy]
    simp
  · rintro ys nw ⟨rfl, hy⟩
    have e : vs.toArray.size = xs.length := by simpa using hi.length
    rw [e, List.take_length] at hy
    exact fin ys hy
/-- texts to pairs: each element is a fresh pair -/
theorem comp_pairs {vs : List Value} {xs : List Str} (k : Str) (hi : StrsAre vs xs) (hS : ∀ ext, S (news ++ ext))
    (turn : ∀ z t I oI C oC D m₂ ys nw h tk (E' : Value → Shared → Prop), z ∈ xs → LCg.NsObj oC m₂ → m₂ x = some (.str z t) → Fr h₀ L h m → News h₀ L h ((I, oI) :: (C, oC) :: (D, LCg.lst ys) :: nw) →
      wpAny (model prog w) A (eval elt (compEnvC scope cl C env)) (fun y s₂ => ∃ h' tk' a n t1 t2, s₂ = { s with heap := h', toks := tk' } ∧ Fr h₀ L h' m ∧ News h₀ L h' ((a, tup [.str k t1, .str z t2] n) :: (I, oI) :: (C, oC) :: (D, LCg.lst ys) :: nw) ∧ y = .ref a ∧ (@Ne Nat a I) ∧ (@Ne Nat a C) ∧ (@Ne Nat a D)) E' { s with heap := h, toks := tk })
    (fin : ∀ ys ext, PairsIn ext ys (xs.map (fun z => (k, z))) → Fin ys (news ++ ext)) : LCg.CompRest prog w A h₀ L m env elt x scope cl s S (fun i v => vs.toArray[i]? = some v) Fin vs.toArray.size 0 [] news := by
  refine comp_inv (fun i ys nw => ∃ ext, nw = news ++ ext ∧ PairsIn ext ys ((xs.take i).map (fun z => (k, z)))) ⟨[], by simp, by simpa using PairsIn.nil⟩ ?_ ?_
  · rintro i v ys nw I oI C oC D m₂ h tk E' hin hv ⟨ext, rfl, hy⟩ hC hx F N off ne
    obtain ⟨z, t, rfl, hz⟩ := StrsAre.item hi i v (by simpa using hv)
    refine wpAny_mono (turn z t I oI C oC D m₂ ys _ h tk E' (List.mem_of_getElem? hz) hC hx F N) (fun y s₂ hq => ?_) fun _ _ e => e
    obtain ⟨h', tk', a, n, t1, t2, rfl, F', N', rfl, n1, n2, n3⟩ := hq
    refine ⟨h', tk', news ++ (a, tup [.str k t1, .str z t2] n) :: ext, rfl, F', ?_, ?_, hS ((a, tup [.str k t1, .str z t2] n) :: ext), (a, tup [.str k t1, .str z t2] n) :: ext, rfl, ?_⟩
    · intro p hp
      refine N' p ?_
      simp only [List.mem_cons, List.mem_append] at hp ⊢
      rcases hp with h | h | h | h | h | h
      · exact .inr (.inl h)
      · exact .inr (.inr (.inl h))
      · exact .inr (.inr (.inr (.inl h)))
      · exact .inr (.inr (.inr (.inr (.inl h))))
      · exact .inl h
      · exact .inr (.inr (.inr (.inr (.inr h))))
    · refine LCg.Off3.of fun p hp => ?_
      rcases List.mem_append.mp hp with hp | hp
      · exact off.mem p (List.mem_append_left _ hp)
      · rcases List.mem_cons.mp hp with rfl | hp
        · exact ⟨n1, n2, n3⟩
        · exact off.mem p (List.mem_append_right _ hp)
    · rw [List.take_add_one, hz]
      have e : (xs.take i ++ (some z).toList).map (fun z => (k, z)) = (xs.take i).map (fun z => (k, z)) ++ [(k, z)] := by simp
      rw [e]
      exact (hy.mono fun p hp => .tail _ hp).snoc (.head _)
  · rintro ys nw ⟨ext, rfl, hy⟩
    have e : vs.toArray.size = xs.length := by simpa using hi.length
    rw [e, List.take_length] at hy
    exact fin ys ext hy
/-- each element is a fresh tuple of one item -/
theorem comp_rows {vs : List Value} {ps : List (Str × Str)} (hi : PairsIn news vs ps) (hS : ∀ ext, S (news ++ ext))
    (turn : ∀ b I oI C oC D m₂ ys nw h tk (E' : Value → Shared → Prop), LCg.NsObj oC m₂ → m₂ x = some (.ref b) → Fr h₀ L h m → News h₀ L h ((I, oI) :: (C, oC) :: (D, LCg.lst ys) :: nw) →
      wpAny (model prog w) A (eval elt (compEnvC scope cl C env)) (fun y s₂ => ∃ h' tk' a n, s₂ = { s with heap := h', toks := tk' } ∧ Fr h₀ L h' m ∧ News h₀ L h' ((a, tup [.ref b] n) :: (I, oI) :: (C, oC) :: (D, LCg.lst ys) :: nw) ∧ y = .ref a ∧ (@Ne Nat a I) ∧ (@Ne Nat a C) ∧ (@Ne Nat a D)) E' { s with heap := h, toks := tk })
    (fin : ∀ ys ext, RowsIn (news ++ ext) ys (ps.map (fun p => [p])) → Fin ys (news ++ ext)) : LCg.CompRest prog w A h₀ L m env elt x scope cl s S (fun i v => vs.toArray[i]? = some v) Fin vs.toArray.size 0 [] news := by
  refine comp_inv (fun i ys nw => ∃ ext, nw = news ++ ext ∧ RowsIn nw ys ((ps.take i).map (fun p => [p]))) ⟨[], by simp, by simpa using RowsIn.nil⟩ ?_ ?_
  · rintro i v ys nw I oI C oC D m₂ h tk E' hin hv ⟨ext, rfl, hy⟩ hC hx F N off ne
    obtain ⟨b, nb, k, z, t, u, rfl, hm, hz, hd⟩ := hi.item i v (by simpa using hv)
    refine wpAny_mono (turn b I oI C oC D m₂ ys _ h tk E' hC hx F N) (fun y s₂ hq => ?_) fun _ _ e => e
    obtain ⟨h', tk', a, n, rfl, F', N', rfl, n1, n2, n3⟩ := hq
    refine ⟨h', tk', news ++ (a, tup [.ref b] n) :: ext, rfl, F', ?_, ?_, hS ((a, tup [.ref b] n) :: ext), (a, tup [.ref b] n) :: ext, rfl, ?_⟩
    · intro p hp
      refine N' p ?_
      simp only [List.mem_cons, List.mem_append] at hp ⊢
      rcases hp with h | h | h | h | h | h
      · exact .inr (.inl h)
      · exact .inr (.inr (.inl h))
      · exact .inr (.inr (.inr (.inl h)))
      · exact .inr (.inr (.inr (.inr (.inl h))))
      · exact .inl h
      · exact .inr (.inr (.inr (.inr (.inr h))))
    · refine LCg.Off3.of fun p hp => ?_
      rcases List.mem_append.mp hp with hp | hp
      · exact off.mem p (List.mem_append_left _ hp)
      · rcases List.mem_cons.mp hp with rfl | hp
        · exact ⟨n1, n2, n3⟩
        · exact off.mem p (List.mem_append_right _ hp)
    · rw [List.take_add_one, hz]
      have e : (ps.take i ++ (some (k, z)).toList).map (fun p => [p]) = (ps.take i).map (fun p => [p]) ++ [[(k, z)]] := by simp
      rw [e]
      exact (hy.mono fun p hp => by
        rcases List.mem_append.mp hp with hp | hp
        · exact List.mem_append_left _ hp
        · exact List.mem_append_right _ (.tail _ hp)).snoc (List.mem_append_right _ (.head _)) (.cons (List.mem_append_left _ hm) .nil)
  · rintro ys nw ⟨ext, rfl, hy⟩
    have e : vs.toArray.size = ps.length := by simpa using hi.length
    rw [e, List.take_length] at hy
    exact fin ys ext hy
end
end Aj
end

/-! AjLaw1 -/
section
open PySem PySem.W PySem.Spec PySem.Calls PyProof.Rows PyProof.V
namespace Aj
/-- two stars or more in the first label -/
def manyB (x : Str) : Bool := decide (1 < Txt.count (((Txt.split x (Str.ofString "."))[0]?).getD Str.empty) (Str.ofString "*"))
theorem manyB_of {x l : Str} {ps : List Str} (hp : ps = Txt.split x (Str.ofString ".")) (hl : ps[Int.toNat 0]? = some l) : decide (1 < Txt.count l (Str.ofString "*")) = manyB x := by
  subst hp
  have hl' : (Txt.split x (Str.ofString "."))[0]? = some l := hl
  unfold manyB; rw [hl', Option.getD_some]
abbrev sgB (y x : Str) : Bool := takenB y false [(Str.ofString "DNS", x)] []
def dueF (y : Str) (st : Bool × Bool) (x : Str) : Bool × Bool := (st.1 || (sgB y x && st.2), st.2 && !manyB x)
def dueL (y : Str) (xs : List Str) : Bool × Bool := xs.foldl (dueF y) (false, true)
theorem dueL_snoc {y x : Str} {xs : List Str} {i : Nat} (hz : xs[i]? = some x) : dueL y (xs.take (i + 1)) = dueF y (dueL y (xs.take i)) x := by
  rw [List.take_add_one, hz]
  unfold dueL
  rw [List.foldl_append]; rfl
theorem fr_set {h₀ h : Heap} {L : Addr} {m : Str → Option Value} {a : Str} {v : Value} (F : Fr h₀ L h m) (e : m a = some v) : Fr h₀ L h (fun z => if z = a then some v else m z) := by
  have e : (fun z => if z = a then some v else m z) = m := by
    funext z
    by_cases h1 : z = a
    · rw [if_pos h1, h1, e]
    · rw [if_neg h1]
  rw [e]; exact F
abbrev bools (xs : List Str) (g : Str → Bool) : List Value := xs.map (fun z => Value.bool (g z))
theorem bools_are (g : Str → Bool) : ∀ xs : List Str, LSm.BoolsAre (bools xs g) (xs.map g)
  | [] => .nil
  | _ :: r => .cons _ (bools_are g r)
theorem none_many {xs : List Str} (h : (xs.map manyB).any id = false) : ∀ x ∈ xs, manyB x = false := by
  intro x hx
  have := List.any_eq_false.mp h (manyB x) (List.mem_map.mpr ⟨x, hx, rfl⟩)
  simpa using this
section
variable {prog : Program} {w : World} {A : Around} {E : Value → Shared → Prop} {s : Shared} {h₀ : Heap} {L l : Addr} {news : List (Addr × Obj)} {value slice : PySem.Expr} {u : Tok} {Q : Value → Shared → Prop}
theorem item_bool {xs : List Str} {g : Str → Bool} {i : Nat} {z : Str} (N : News h₀ L s.heap news) (hm : (l, LCg.lst (bools xs g)) ∈ news) (hz : xs[i]? = some z) (hl : xs.length ≤ 100) (h : Q (.bool (g z)) s)
    (hs : subscripted slice false (.ref l) (.int (0 + (i : Int)) u) = operate [.ref l, .int (0 + (i : Int)) u] (getItem (.ref l) (.int (0 + (i : Int)) u))) : wpAny (model prog w) A (subscriptTail value slice (.ref l) (.int (0 + (i : Int)) u)) Q E s := by
  have hi := (List.getElem?_eq_some_iff.mp hz).1
  refine item_any (v := .bool (g z)) (N.isList hm) (by omega) (by omega) ?_ h hs
  have e : (0 + (i : Int)).toNat = i := by omega
  rw [e, List.getElem?_toArray, List.getElem?_map, hz]; rfl
end
end Aj
end

/-! AjLaw2 -/
section
open PySem PySem.W PySem.Spec PySem.Calls PyProof.Rows PyProof.V
namespace Aj
section
variable {prog : Program} {w : World} {A : Around} {s : Shared} {env : Env} {h₀ : Heap} {L : Addr} {m : Str → Option Value} {E : Value → Shared → Prop} {Q : Flow → Shared → Prop} {news : List (Addr × Obj)}
/-- frame and ledger stand as they stood -/
def LawC (h₀ : Heap) (L : Addr) (m : Str → Option Value) (news : List (Addr × Obj)) (s s9 : Shared) : Prop := ∃ h tk, s9 = { s with heap := h, toks := tk } ∧ Fr h₀ L h m ∧ News h₀ L h news
theorem LawC.intro {h : Heap} {tk : Nat} {all : List (Addr × Obj)} (F : Fr h₀ L h m) (N : News h₀ L h all) (hs : ∀ p ∈ news, p ∈ all) : LawC h₀ L m news s { s with heap := h, toks := tk } := ⟨h, tk, rfl, F, fun p hp => N p (hs p hp)⟩
theorem law_cut2 {st : Stmt} {rest : List Stmt} (F : Fr h₀ L s.heap m) (N : News h₀ L s.heap news)
    (h1 : wpAny (model prog w) A (exec st env) (fun f s' => match f with | .next => LawC h₀ L m news s s' | f => Q f s') E s) (h2 : ∀ h tk, Fr h₀ L h m → News h₀ L h news → wpAny (model prog w) A (execs rest env) Q E { s with heap := h, toks := tk }) : wpAny (model prog w) A (execs (st :: rest) env) Q E s :=
  execs_cut _ h1 (by rintro s' ⟨h, tk, rfl, F', N'⟩; exact h2 h tk F' N')
end
/-- what law's frame binds once the lists of truth values are made -/
def mDue (b1 b2 : Bool) (d1 d2 al : Addr) (m : Str → Option Value) : Str → Option Value := fun z =>
  if z = Str.ofString "due" then some (.bool b1) else if z = Str.ofString "open_yet" then some (.bool b2) else if z = Str.ofString "single" then some (.ref d1) else if z = Str.ofString "many" then some (.ref d2) else if z = Str.ofString "names" then some (.ref al) else m z
theorem fr_due {h₀ h : Heap} {L : Addr} {m : Str → Option Value} {b1 b2 : Bool} {d1 d2 al : Addr} (F : Fr h₀ L h m) (e1 : m (Str.ofString "due") = some (.bool b1)) (e2 : m (Str.ofString "open_yet") = some (.bool b2))
    (e3 : m (Str.ofString "single") = some (.ref d1)) (e4 : m (Str.ofString "many") = some (.ref d2)) (e5 : m (Str.ofString "names") = some (.ref al)) : Fr h₀ L h (mDue b1 b2 d1 d2 al m) := by
  have e : mDue b1 b2 d1 d2 al m = m := by
    funext z
    unfold mDue
    split
    · next h => rw [h, e1]
    · split
      · next h => rw [h, e2]
      · split
        · next h => rw [h, e3]
        · split
          · next h => rw [h, e4]
          · split
            · next h => rw [h, e5]
            · rfl
  rw [e]; exact F
/-- a turn over the numbers of the names has ended -/
def DueEnd (h₀ : Heap) (L I : Addr) (oI : Obj) (led : List (Addr × Obj)) (d1 d2 al : Addr) (st : Bool × Bool) (Q : Flow → Shared → Prop) (s₁ : Shared) (f : Flow) (s₂ : Shared) : Prop :=
  match f with
  | .ret v => Q (.ret v) s₂
  | .brk => Q .next s₂
  | _ => ∃ h' tk m', s₂ = { s₁ with heap := h', toks := tk } ∧ Fr h₀ L h' (mDue st.1 st.2 d1 d2 al m') ∧ News h₀ L h' ((I, oI) :: led)
theorem DueEnd.intro {h₀ : Heap} {L I : Addr} {oI : Obj} {led all : List (Addr × Obj)} {d1 d2 al : Addr} {st : Bool × Bool} {Q : Flow → Shared → Prop} {s₁ : Shared} {f : Flow} {h' : Heap} {tk : Nat} {m : Str → Option Value} {b1 b2 : Bool}
    (hf : f = .next ∨ f = .cont) (F : Fr h₀ L h' m) (e1 : m (Str.ofString "due") = some (.bool b1)) (e2 : m (Str.ofString "open_yet") = some (.bool b2))
    (e3 : m (Str.ofString "single") = some (.ref d1)) (e4 : m (Str.ofString "many") = some (.ref d2)) (e5 : m (Str.ofString "names") = some (.ref al)) (x1 : b1 = st.1) (x2 : b2 = st.2) (N : News h₀ L h' all) (hs : ∀ p ∈ (I, oI) :: led, p ∈ all) :
    DueEnd h₀ L I oI led d1 d2 al st Q s₁ f { s₁ with heap := h', toks := tk } := by
  subst x1; subst x2
  rcases hf with rfl | rfl <;> exact ⟨h', tk, m, rfl, fr_due F e1 e2 e3 e4 e5, fun p hp => N p (hs p hp)⟩
section
variable {prog : Program} {w : World} {A : Around} {s : Shared} {env : Env} {h₀ : Heap} {E : Value → Shared → Prop} {Q : Flow → Shared → Prop} {body : List Stmt}
theorem loop_due {r : Addr} {b : Int} {t u v : Tok} {px : Pos} {m : Str → Option Value} {all : List (Addr × Obj)} {s : Shared} {d1 d2 al : Addr} {y : Str} {xs : List Str} (ca : Addr) {oa oc : Obj}
    (hh : A.handled = none) (hE : PassesOwn (model prog w) A env E) (hr : IsRange s.heap r 0 b 1 t u v) (hb : b = (xs.length : Int)) (hxl : xs.length ≤ 100)
    (F : Fr h₀ env.locals s.heap m) (N : News h₀ env.locals s.heap all) (e1 : m (Str.ofString "due") = some (.bool false)) (e2 : m (Str.ofString "open_yet") = some (.bool true))
    (e3 : m (Str.ofString "single") = some (.ref d1)) (e4 : m (Str.ofString "many") = some (.ref d2)) (e5 : m (Str.ofString "names") = some (.ref al)) (hs : ∀ p ∈ [(d1, LCg.lst (bools xs (sgB y))), (d2, LCg.lst (bools xs manyB)), (al, oa), (ca, oc)], p ∈ all)
    (turn : ∀ (i : Nat) z tk₁ b1 b2 m₁ I oI h tk, xs[i]? = some z → z ∈ xs → (∀ p ∈ [(d1, LCg.lst (bools xs (sgB y))), (d2, LCg.lst (bools xs manyB)), (al, oa), (ca, oc)], p.1 ≠ I) → Fr h₀ env.locals h (mDue b1 b2 d1 d2 al m₁) → News h₀ env.locals h ((I, oI) :: [(d1, LCg.lst (bools xs (sgB y))), (d2, LCg.lst (bools xs manyB)), (al, oa), (ca, oc)]) →
      wpAny (model prog w) A (assign (.Name (Str.ofString "k") px) env (.int (0 + (i : Int)) tk₁)) (fun _ s₃ => wpAny (model prog w) A (execs body env) (DueEnd h₀ env.locals I oI [(d1, LCg.lst (bools xs (sgB y))), (d2, LCg.lst (bools xs manyB)), (al, oa), (ca, oc)] d1 d2 al (dueF y (b1, b2) z) Q { s with heap := h, toks := tk }) E s₃) E { s with heap := h, toks := tk })
    (done : ∀ m₁ h tk, Fr h₀ env.locals h (mDue (dueL y xs).1 (dueL y xs).2 d1 d2 al m₁) → News h₀ env.locals h [(d1, LCg.lst (bools xs (sgB y))), (d2, LCg.lst (bools xs manyB)), (al, oa), (ca, oc)] → Q .next { s with heap := h, toks := tk }) :
    LoopSrc prog w A env (.Name (Str.ofString "k") px) body Q E (.ref r) s := by
  subst hb
  refine LoopSrc.range (n := xs.length) (fun i m nw => nw = [(d1, LCg.lst (bools xs (sgB y))), (d2, LCg.lst (bools xs manyB)), (al, oa), (ca, oc)] ∧ ∃ m', m = mDue (dueL y (xs.take i)).1 (dueL y (xs.take i)).2 d1 d2 al m') hh hE hr (small_one (by decide) (by decide) (by omega) (by omega)) (by simpa using rangeSize_nat 0 (xs.length : Int)) F (fun p hp => N p (hs p hp)) ?_ ?_ ?_
  · refine ⟨rfl, m, ?_⟩
    have e : mDue false true d1 d2 al m = m := by
      funext z
      unfold mDue
      split
      · next h => rw [h, e1]
      · split
        · next h => rw [h, e2]
        · split
          · next h => rw [h, e3]
          · split
            · next h => rw [h, e4]
            · split
              · next h => rw [h, e5]
              · rfl
    exact e.symm
  · rintro i tk₁ m₁ nw I oI h tk hi ⟨rfl, m', rfl⟩ off F' N'
    have hz : xs[i]? = some xs[i] := List.getElem?_eq_getElem hi
    refine wpAny_mono (turn i _ tk₁ _ _ m' I oI h tk hz (List.getElem_mem hi) off F' N') (fun _ s₃ h₃ => wpAny_mono h₃ (fun f s₄ h₄ => ?_) fun _ _ e => e) fun _ _ e => e
    have e := dueL_snoc (y := y) hz
    cases f with
    | ret v => exact h₄
    | brk => exact h₄
    | next =>
      obtain ⟨h', tk', m₂, rfl, F₄, N₄⟩ := h₄
      exact ⟨h', tk', _, _, rfl, F₄, N₄, off, rfl, m₂, by rw [e]⟩
    | cont =>
      obtain ⟨h', tk', m₂, rfl, F₄, N₄⟩ := h₄
      exact ⟨h', tk', _, _, rfl, F₄, N₄, off, rfl, m₂, by rw [e]⟩
  · rintro m₁ nw h tk ⟨rfl, m', rfl⟩ F' N'
    rw [List.take_length] at F'
    exact done m' h tk F' N'
end
end Aj
end

/-! AjPlain -/
section
open PySem PySem.W PySem.Spec PySem.Calls PyProof.Rows PyProof.V
namespace Aj
section
variable {y x : Str} {xs : List Str}
theorem len_zero (h : (x.length : Int) = 0) : x = ⟨#[]⟩ := by
  have h1 : x.cps.size = 0 := by
    have : x.length = x.cps.size := rfl
    omega
  cases x with
  | mk c => rw [show c = #[] from Array.eq_empty_of_size_eq_zero h1]
theorem many_empty : manyB ⟨#[]⟩ = false := by decide +kernel
theorem many_none (h : manyB x = true) : dnsM x y = none := by
  have h0 : (x.length : Int) ≠ 0 := fun e => by
    rw [len_zero e, many_empty] at h; cases h
  have h1 : 1 < Txt.count (((Txt.split x (Str.ofString "."))[0]?).getD Str.empty) (Str.ofString "*") := by
    unfold manyB at h; simpa using h
  unfold dnsM
  rw [if_neg h0, if_pos h1]
theorem one_some (h : manyB x = false) : ∃ b, dnsM x y = some b := by
  have h1 : ¬ 1 < Txt.count (((Txt.split x (Str.ofString "."))[0]?).getD Str.empty) (Str.ofString "*") := by
    unfold manyB at h; simpa using h
  unfold dnsM
  rw [if_neg h1]
  repeat' split
  all_goals exact ⟨_, rfl⟩
theorem dnsTest : (Str.ofString "DNS" == Str.ofString "DNS") = true := by decide +kernel
theorem cnTest : (Str.ofString "commonName" == Str.ofString "commonName") = true := by decide +kernel
theorem orgTest : (Str.ofString "organizationName" == Str.ofString "commonName") = false := by decide +kernel
theorem ipTest : (Str.ofString "IP Address" == Str.ofString "DNS") = false := by decide +kernel
theorem ipTest2 : (Str.ofString "IP Address" == Str.ofString "IP Address") = true := by decide +kernel
theorem sg_eq : sgB y x = (dnsM x y == some true) := by
  unfold sgB takenB mhW
  simp only [sanW]
  rw [if_pos dnsTest]
  cases e : dnsM x y with
  | none => rfl
  | some b => cases b <;> simp
theorem many_sg (h : manyB x = true) : sgB y x = false := by rw [sg_eq, many_none h]; rfl
/-- the first of the names that decides -/
def firstB (y : Str) : List Str → Bool
  | [] => false
  | x :: r => match dnsM x y with | none => false | some true => true | some false => firstB y r
theorem dueL_from (y : Str) : ∀ (xs : List Str) (b1 b2 : Bool), (xs.foldl (dueF y) (b1, b2)).1 = (b1 || (b2 && firstB y xs))
  | [], b1, b2 => by simp [firstB]
  | x :: r, b1, b2 => by
    rw [List.foldl_cons]
    show (r.foldl (dueF y) (b1 || (sgB y x && b2), b2 && !manyB x)).1 = _
    rw [dueL_from y r]
    cases hm : manyB x with
    | true =>
      have h1 := many_none (y := y) hm
      simp only [firstB]
      rw [many_sg hm, h1]; simp
    | false =>
      obtain ⟨b, h1⟩ := one_some (y := y) hm
      simp only [firstB]
      rw [sg_eq, h1]
      cases b <;> cases b1 <;> cases b2 <;> simp
theorem due_first : (dueL y xs).1 = firstB y xs := by unfold dueL; rw [dueL_from]; simp
/-- how the walk over names ends -/
def outB : Out → Bool
  | .taken => true
  | _ => false
theorem taken_out {b : Bool} {ps : List (Str × Str)} {rows : List (List (Str × Str))} : takenB y b ps rows = outB (mhW y b ps rows) := by
  unfold takenB outB; rfl
theorem san_dns : ∀ (xs acc : List Str), (firstB y xs = true ∧ sanW y (xs.map fun x => (Str.ofString "DNS", x)) acc = .taken) ∨ (firstB y xs = false ∧ sanW y (xs.map fun x => (Str.ofString "DNS", x)) acc = .raised) ∨
    (firstB y xs = false ∧ sanW y (xs.map fun x => (Str.ofString "DNS", x)) acc = .rest (acc ++ xs))
  | [], acc => .inr (.inr ⟨rfl, by simp [sanW]⟩)
  | x :: r, acc => by
    rw [List.map_cons]
    cases e : dnsM x y with
    | none => exact .inr (.inl ⟨by simp only [firstB]; rw [e], sanW_raised dnsTest e⟩)
    | some b =>
      cases b with
      | true => exact .inl ⟨by simp only [firstB]; rw [e], sanW_taken dnsTest e⟩
      | false =>
        rw [sanW_on dnsTest e]
        have e1 : firstB y (x :: r) = firstB y r := by simp only [firstB]; rw [e]
        rw [e1]
        have := san_dns r (acc ++ [x])
        simpa using this
theorem row_cn : ∀ (xs acc : List Str), (firstB y xs = true ∧ rowW y (xs.map fun x => (Str.ofString "commonName", x)) acc = .taken) ∨ (firstB y xs = false ∧ rowW y (xs.map fun x => (Str.ofString "commonName", x)) acc = .raised) ∨
    (firstB y xs = false ∧ rowW y (xs.map fun x => (Str.ofString "commonName", x)) acc = .rest (acc ++ xs))
  | [], acc => .inr (.inr ⟨rfl, by simp [rowW]⟩)
  | x :: r, acc => by
    rw [List.map_cons]
    cases e : dnsM x y with
    | none => exact .inr (.inl ⟨by simp only [firstB]; rw [e], rowW_raised cnTest e⟩)
    | some b =>
      cases b with
      | true => exact .inl ⟨by simp only [firstB]; rw [e], rowW_taken cnTest e⟩
      | false =>
        rw [rowW_on cnTest e]
        have e1 : firstB y (x :: r) = firstB y r := by simp only [firstB]; rw [e]
        rw [e1]
        have := row_cn r (acc ++ [x])
        simpa using this
theorem rows_cn : ∀ (xs acc : List Str), outB (rowsW y (xs.map fun x => [(Str.ofString "commonName", x)]) acc) = firstB y xs
  | [], acc => by simp [rowsW, outB, firstB]
  | x :: r, acc => by
    rw [List.map_cons]
    simp only [rowsW, firstB]
    cases e : dnsM x y with
    | none => rw [rowW_raised cnTest e]; rfl
    | some b =>
      cases b with
      | true => rw [rowW_taken cnTest e]; rfl
      | false =>
        rw [rowW_on cnTest e]
        simp only [rowW]
        exact rows_cn r _
/-- a certificate of names, beside rows that take nothing -/
theorem names_taken (b : Bool) : takenB y b (xs.map fun x => (Str.ofString "DNS", x)) [] = (dueL y xs).1 := by
  rw [taken_out, due_first]
  unfold mhW
  rcases san_dns (y := y) xs [] with ⟨e, h⟩ | ⟨e, h⟩ | ⟨e, h⟩
  · rw [h, e]; rfl
  · rw [h, e]; rfl
  · rw [h, e]
    dsimp only
    split
    · simp [rowsW, outB]
    · rfl
/-- beside the same names as common names -/
theorem both_taken : takenB y true (xs.map fun x => (Str.ofString "DNS", x)) [xs.map fun x => (Str.ofString "commonName", x)] = (dueL y xs).1 := by
  rw [taken_out, due_first]
  unfold mhW
  rcases san_dns (y := y) xs [] with ⟨e, h⟩ | ⟨e, h⟩ | ⟨e, h⟩
  · rw [h, e]; rfl
  · rw [h, e]; rfl
  · rw [h, e]
    dsimp only
    split
    · next h2 =>
      have : xs = [] := by simpa using h2.2
      subst this
      simp [rowsW, rowW, outB]
    · rfl
theorem one_taken : takenB y true [] [xs.map fun x => (Str.ofString "commonName", x)] = (dueL y xs).1 := by
  rw [taken_out, due_first]
  unfold mhW
  simp only [sanW, true_and, if_true]
  simp only [rowsW]
  rcases row_cn (y := y) xs [] with ⟨e, h⟩ | ⟨e, h⟩ | ⟨e, h⟩
  · rw [h, e]; rfl
  · rw [h, e]; rfl
  · rw [h, e]; rfl
theorem each_taken : takenB y true [] (xs.map fun x => [(Str.ofString "commonName", x)]) = (dueL y xs).1 := by
  rw [taken_out, due_first]
  unfold mhW
  simp only [sanW, true_and, if_true]
  exact rows_cn xs []
theorem org_taken : takenB y true [] ([(Str.ofString "organizationName", y)] :: xs.map fun x => [(Str.ofString "commonName", x)]) = (dueL y xs).1 := by
  rw [taken_out, due_first]
  unfold mhW
  simp only [sanW, true_and, if_true]
  simp only [rowsW]
  rw [rowW_off orgTest]
  simp only [rowW]
  exact rows_cn xs []
theorem off_taken {rows : List (List (Str × Str))} : takenB y false [] rows = false := by
  rw [taken_out]; unfold mhW
  simp [sanW, outB]
theorem addr_taken {rows : List (List (Str × Str))} {z : Str} : takenB y true [(Str.ofString "IP Address", z)] rows = false := by
  rw [taken_out]; unfold mhW
  rw [sanW_ip ipTest ipTest2]
  simp [sanW, outB]
/-- with no name of many stars the order is nothing -/
theorem first_any : ∀ (xs : List Str), (∀ x ∈ xs, manyB x = false) → (firstB y xs = true ↔ ∃ x ∈ xs, dnsM x y = some true)
  | [], _ => by simp [firstB]
  | x :: r, h => by
    obtain ⟨b, hb⟩ := one_some (y := y) (h x (.head _))
    have ih := first_any r fun z hz => h z (.tail _ hz)
    simp only [firstB]
    rw [hb]
    cases b with
    | true => simp [hb]
    | false => simp [hb, ih]
theorem rev_first (h : ∀ x ∈ xs, manyB x = false) : firstB y xs.reverse = firstB y xs := by
  rw [Bool.eq_iff_iff, first_any xs h, first_any xs.reverse fun x hx => h x (List.mem_reverse.mp hx)]
  simp
theorem rev_taken (b : Bool) (h : ∀ x ∈ xs, manyB x = false) : takenB y b (xs.map fun x => (Str.ofString "DNS", x)).reverse [] = (dueL y xs).1 := by
  have e : (xs.map fun x => (Str.ofString "DNS", x)).reverse = xs.reverse.map fun x => (Str.ofString "DNS", x) := by simp
  rw [e, names_taken, due_first, due_first, rev_first h]
end
end Aj
end

/-! AjRev0 -/
section
open PySem PySem.W PySem.Spec PySem.Calls PyProof.Rows PyProof.V
namespace Aj
theorem rev_owner : Manifest.owners.lookup (String.ofList ['d', 'e', 's', 'r', 'e', 'v', 'e', 'r'].reverse) = some Manifest.sig_reversed := by kernel_rfl
theorem rev_slot_next : Slot "reversed" "__next__" "reversed.__next__" :=
  .of (owner := "reversed") (n := "__next__") (by rw [typeLookup_type, builtinLookup_eq_fast]; kernel_rfl) (by decide +kernel) (by decide +kernel) (by decide +kernel)
    (by first | exact .inl (by decide +kernel) | exact .inr (by decide +kernel)) (by rw [isSubtype_type]; kernel_rfl)
theorem rev_entry_next : entryFor table "reversed.__next__" = some Builtin.«reversed.__next__» := entryFor_of_tree (by kernel_rfl)
theorem rev_args_next (a : Value) : argsOk "reversed.__next__" ⟨[a], []⟩ := by
  unfold argsOk; rw [signature?_of (id := "reversed.__next__") (n := ['_', '_', 't', 'x', 'e', 'n', '_', '_']) (o := ['d', 'e', 's', 'r', 'e', 'v', 'e', 'r']) (by kernel_rfl) rev_owner]; kernel_rfl
theorem rev_slot_iter : Slot "reversed" "__iter__" "reversed.__iter__" :=
  .of (owner := "reversed") (n := "__iter__") (by rw [typeLookup_type, builtinLookup_eq_fast]; kernel_rfl) (by decide +kernel) (by decide +kernel) (by decide +kernel)
    (by first | exact .inl (by decide +kernel) | exact .inr (by decide +kernel)) (by rw [isSubtype_type]; kernel_rfl)
theorem rev_args_iter (a : Value) : argsOk "reversed.__iter__" ⟨[a], []⟩ := by
  unfold argsOk; rw [signature?_of (id := "reversed.__iter__") (n := ['_', '_', 'r', 'e', 't', 'i', '_', '_']) (o := ['d', 'e', 's', 'r', 'e', 'v', 'e', 'r']) (by kernel_rfl) rev_owner]; kernel_rfl
theorem rev_entry_iter : entryFor table "reversed.__iter__" = some Builtin.«dict_keyiterator.__iter__» :=
  entryFor_alias (id' := "dict_keyiterator.__iter__") (by kernel_rfl) (by first | rfl | decide +kernel | (unfold String.splitOn; simp +decide [String.splitOnAux])) (by decide +kernel) (by kernel_rfl)
theorem rev_slot_hint : Slot "reversed" "__length_hint__" "reversed.__length_hint__" :=
  .of (owner := "reversed") (n := "__length_hint__") (by rw [typeLookup_type, builtinLookup_eq_fast]; kernel_rfl) (by decide +kernel) (by decide +kernel) (by decide +kernel)
    (by first | exact .inl (by decide +kernel) | exact .inr (by decide +kernel)) (by rw [isSubtype_type]; kernel_rfl)
theorem rev_entry_hint : entryFor table "reversed.__length_hint__" = some Builtin.«reversed.__length_hint__» := entryFor_of_tree (by kernel_rfl)
theorem rev_args_hint (a : Value) : argsOk "reversed.__length_hint__" ⟨[a], []⟩ := by
  unfold argsOk; rw [signature?_of (id := "reversed.__length_hint__") (n := ['_', '_', 't', 'n', 'i', 'h', '_', 'h', 't', 'g', 'n', 'e', 'l', '_', '_']) (o := ['d', 'e', 's', 'r', 'e', 'v', 'e', 'r']) (by kernel_rfl) rev_owner]; kernel_rfl
theorem rev_nolen : typeLookup (.type "reversed") "__len__" = pure none := by rw [typeLookup_type, builtinLookup_eq_fast]; kernel_rfl
theorem tup_norev : typeLookup (.type "tuple") "__reversed__" = pure none := by rw [typeLookup_type, builtinLookup_eq_fast]; kernel_rfl
theorem rev_slot_init : Slot "reversed" "__init__" "object.__init__" :=
  .of (owner := "object") (n := "__init__") (by rw [typeLookup_type, builtinLookup_eq_fast]; kernel_rfl) (by decide +kernel) (by decide +kernel) (by decide +kernel)
    (by first | exact .inl (by decide +kernel) | exact .inr (by decide +kernel)) (by rw [isSubtype_type]; kernel_rfl)
theorem rev_called : TypeCalled "reversed" "reversed.__new__" "object.__init__" :=
  ⟨by decide +kernel, F.create_reversed, ⟨_, _, F.mro_reversed⟩, F.made_reversed, by decide +kernel, F.sub_reversed_self, rev_slot_init⟩
theorem tup_nodict : isSubtype (.type "tuple") (.type "dict") = pure false := by rw [isSubtype_type]; kernel_rfl
abbrev revT (t : Addr) (i : Int) : Obj := { cls := .type "reversed", data := .fields #[.ref t, rawInt i] }
def IsRevT (h : Heap) (a t : Addr) (i : Int) : Prop := ∃ o, h.get? a = some o ∧ o.cls = .type "reversed" ∧ o.data = .fields #[.ref t, rawInt i]
theorem IsRevT.typeIs {s : Shared} {a t : Addr} {i : Int} (x : IsRevT s.heap a t i) : s.TypeIs (.ref a) "reversed" := let ⟨o, ho, hc, _⟩ := x; ⟨o, ho, hc⟩
theorem IsRevT.at {h h' : Heap} {a t : Addr} {i : Int} (x : IsRevT h a t i) (e : ∀ o, h.get? a = some o → h'.get? a = some o) : IsRevT h' a t i := let ⟨o, ho, r⟩ := x; ⟨o, e _ ho, r⟩
section
variable {prog : Program} {w : World} {A : Around} {E : Value → Shared → Prop} {s : Shared}
theorem code_rev_new {t : Addr} {items : Array Value} {Q₁ : Value → Shared → Prop} (ht : IsTup s.heap t items) (hfit : (items.size : Int) < 2 ^ 63)
    (h : ∀ tk, Q₁ (.ref s.heap.objs.size) { s with heap := s.heap.push (revT t ((items.size : Int) - 1)), toks := tk }) :
    codeAny (model prog w) A (.call (.builtin "reversed.__new__") ⟨[.type "reversed", .ref t], []⟩) (wants Q₁ E) s := by
  refine codeAny_of_tree ?_
  show wpAny _ A.in1 (do checkBuiltinCall "reversed.__new__" ⟨[.type "reversed", .ref t], []⟩; again (.builtin "reversed.__new__" ⟨[.type "reversed", .ref t], []⟩)) _ _ s
  refine wpAny_bind (wpAny_of_eq (F.newCall_reversed_1 _) (wpAny_pure ⟨plainId_quiet F.plain_reversed_new _, codeAny_builtin F.entry_reversed_new ?_⟩))
  rw [Around.under_plainId F.plain_reversed_new _]
  unfold Builtin.«reversed.__new__»
  refine wpAny_bind (wpAny_of_eq (newClass_reversed _) ?_)
  try dsimp only
  refine wpAny_bind (wpAny_of_eq (a := ()) (by first | rfl | kernel_rfl) ?_)
  refine wpAny_bind (wpAny_of_eq (a := ()) (by first | rfl | kernel_rfl) ?_)
  try dsimp only
  refine wpAny_bind (wpAny_specialOf ht.typeIs tup_norev ?_)
  try dsimp only
  refine wpAny_bind (wpAny_bind (wpAny_isInstance (b := false) ht.typeIs tup_nodict ?_))
  simp only [Bool.false_eq_true, if_false]
  refine wpAny_bind (wpAny_specialOf ht.typeIs F.slot_tuple_getitem.lookup ?_)
  try dsimp only
  rw [if_pos (by decide +kernel)]
  refine wpAny_pure ?_
  rw [if_neg (by decide)]
  refine wpAny_bind (len_tuple ht hfit ?_)
  refine wpAny_bind (wpAny_of_eq (a := some (items.size : Int)) rfl ?_)
  dsimp only
  show wpAny _ _ (newObj (.type "reversed") (.fields #[Value.ref t, rawInt ((items.size : Int) - 1)]) >>= _) _ _ _
  refine wpAny_bind (wpAny_newObj_type (wpAny_pure (h _)))
theorem call_rev_tuple {t : Addr} {items : Array Value} {Q : Value → Shared → Prop} (ht : IsTup s.heap t items) (hfit : (items.size : Int) < 2 ^ 63)
    (h : ∀ tk, Q (.ref s.heap.objs.size) { s with heap := s.heap.push (revT t ((items.size : Int) - 1)), toks := tk }) : wpAny (model prog w) A (call (.type "reversed") [.ref t]) Q E s := by
  refine callType_codes (Q₁ := fun obj s₁ => s₁.TypeIs obj "reversed" ∧ Q obj s₁) rev_called (F.typeCall_reversed_1 _) F.entry_object_init
    (code_rev_new ht hfit fun tk => ⟨⟨_, Heap.get?_push_size _ rfl, rfl⟩, h tk⟩) fun obj s₁ h₁ => ?_
  exact ⟨h₁.1, F.args_object_init_2 obj _, object_init_meets rev_called.init.lookup rev_called.made (by decide) prog w A.in1 _ s₁ ⟨h₁.1, rfl, h₁.2⟩⟩
theorem next_rev_item {it t : Addr} {i : Nat} {items : Array Value} {x : Value} {Q : Option Value → Shared → Prop} (hit : IsRevT s.heap it t (i : Int)) (ht : IsTup s.heap t items) (hfit : (items.size : Int) < 2 ^ 63) (hx : items[i]? = some x)
    (hQ : ∀ h' tk, IsRevT h' it t ((i : Int) - 1) → Heap.SameBut it s.heap h' → Q (some x) { s with heap := h', toks := tk }) : wpAny (model prog w) A (pyNext (.ref it)) Q E s := by
  obtain ⟨o, ho, hc, hd⟩ := id hit
  have hi := (Array.getElem?_eq_some_iff.mp hx).1
  unfold pyNext
  refine wpAny_bind (wpAny_attempt (wpAny_callSpecial?_slot (name := Str.ofString "__next__") hit.typeIs rev_slot_next
    (wpAny_call_entry rev_slot_next hit.typeIs rev_entry_next ?_ (rev_args_next _))))
  unfold Builtin.«reversed.__next__»
  refine wpAny_bind (wpAny_of_eq (a := (Value.ref it, [])) rfl ?_)
  try dsimp only
  refine wpAny_bind (wpAny_field ho hd (x := .ref t) rfl ?_)
  refine wpAny_bind (wpAny_field ho hd (x := rawInt (i : Int)) rfl ?_)
  show wpAny _ _ (if (i : Int) < 0 then _ else _) _ _ s
  rw [if_neg (by omega)]
  refine wpAny_bind (wpAny_specialOf ht.typeIs F.slot_tuple_getitem.lookup ?_)
  try dsimp only
  rw [if_neg (by decide)]
  refine wpAny_bind (wpAny_mkInt ?_)
  refine wpAny_bind (wpAny_attempt (getItem_tuple ht (by omega) (by omega) (seqIndex_of (by omega) (by omega)) (x := x) (by simpa using hx) ?_))
  try dsimp only
  refine wpAny_bind (wpAny_field ho hd (x := rawInt (i : Int)) rfl ?_)
  show wpAny _ _ (setField (.ref it) 1 (rawInt ((i : Int) - 1)) >>= _) _ _ _
  refine wpAny_bind (wpAny_setField ho hd (by simp) ?_)
  refine wpAny_pure ⟨x, rfl, wpAny_pure (hQ _ _ ?_ (Heap.SameBut.update ..))⟩
  exact ⟨_, Heap.get?_update_self _ ho (Obj.isFreed_of_fields (Obj.data_mapFields hd _)), (Obj.cls_mapFields ..).trans hc, by
    rw [Obj.data_mapFields hd]; simp⟩
theorem next_rev_end {it t : Addr} {Q : Option Value → Shared → Prop} (hh : A.handled = none) (hit : IsRevT s.heap it t (-1))
    (hQ : ∀ h', Heap.ExtBut it s.heap h' → Q none { s with heap := h' }) : wpAny (model prog w) A (pyNext (.ref it)) Q E s := by
  obtain ⟨o, ho, hc, hd⟩ := id hit
  unfold pyNext
  refine wpAny_bind (wpAny_attempt (wpAny_callSpecial?_slot (name := Str.ofString "__next__") hit.typeIs rev_slot_next
    (wpAny_call_entry rev_slot_next hit.typeIs rev_entry_next ?_ (rev_args_next _))))
  unfold Builtin.«reversed.__next__»
  refine wpAny_bind (wpAny_of_eq (a := (Value.ref it, [])) rfl ?_)
  try dsimp only
  refine wpAny_bind (wpAny_field ho hd (x := .ref t) rfl ?_)
  refine wpAny_bind (wpAny_field ho hd (x := rawInt (-1)) rfl ?_)
  show wpAny _ _ (if (-1 : Int) < 0 then _ else _) _ _ s
  rw [if_pos (by decide)]
  refine wpAny_bind (wpAny_rule ?_)
  have ho1 := Heap.get?_update_self (Obj.mapFields (·.setIfInBounds 1 (rawInt (-1)))) ho (Obj.isFreed_of_fields (Obj.data_mapFields hd _))
  have hd1 : (Obj.mapFields (·.setIfInBounds 1 (rawInt (-1))) o).data = .fields #[.ref t, rawInt (-1)] := by rw [Obj.data_mapFields hd]; simp
  have off : ∀ h', h' = (s.heap.update it (Obj.mapFields (·.setIfInBounds 1 (rawInt (-1))))).update it (Obj.mapFields (·.setIfInBounds 0 Value.none)) → Heap.ExtBut it s.heap h' := by
    rintro h' rfl b o' hb e
    exact (Heap.get?_update_other _ _ (Ne.symm hb)).trans ((Heap.get?_update_other _ _ (Ne.symm hb)).trans e)
  refine wpAny_bind (wpAny_bind (wpAny_setField ho hd (by simp) ?_))
  refine wpAny_setField ho1 hd1 (by simp) ?_
  refine wpAny_bind ?_
  show wpAny _ _ (newExc (.type "StopIteration") [] >>= _) _ _ _
  refine wpAny_bind ?_
  simp only [newExc, newTuple]
  refine wpAny_bind (wpAny_newObj_type ?_ (by size_fits))
  refine wpAny_bind (m := firstArgMember _ _) (wpAny_of_eq (a := Value.none) (by first | rfl | (simp only [firstArgMember]; rfl)) ?_)
  refine wpAny_newObj_type ?_ (by size_fits)
  simp only [raiseNew]
  refine wpAny_bind (wpAny_handled ?_)
  first | rw [show A.in1.handled = none from hh] | rw [hh]
  refine wpAny_bind (wpAny_pure (wpAny_throw ?_))
  refine wpAny_bind (wpAny_isInstance (T := "StopIteration") (b := true) ⟨_, Heap.get?_push_size _ rfl, rfl⟩ isSubtype_stop ?_)
  exact wpAny_pure (hQ _ (((off _ rfl).push _).push _))
theorem iter_rev {it t : Addr} {i : Int} {Q : Value → Shared → Prop} (hit : IsRevT s.heap it t i) (h : Q (.ref it) s) : wpAny (model prog w) A (pyIter (.ref it)) Q E s := by
  refine wpAny_pyIter_slot hit.typeIs rev_slot_iter (wpAny_call_entry rev_slot_iter hit.typeIs rev_entry_iter ?_ (rev_args_iter _))
  show wpAny _ _ (ret (.ref it)) _ _ s
  exact wpAny_pure ⟨_, rfl, "reversed", _, hit.typeIs, rev_slot_next.lookup, h⟩
theorem walks_rev (hh : A.handled = none) (I t : Addr) (hne : t ≠ I) (items : Array Value) (hfit : (items.size : Int) < 2 ^ 63) :
    Walks prog w A I [I, t] [I] items.size (fun i v => items[items.size - 1 - i]? = some v) (fun i h => i ≤ items.size ∧ IsRevT h I t ((items.size : Int) - 1 - (i : Int)) ∧ IsTup h t items) where
  sub := fun b hb => by simp at hb; simp [hb]
  frame := fun _ _ _ x hk => ⟨x.1, x.2.1.at fun o e => hk I (by simp) o e, let ⟨o, ho, r⟩ := x.2.2; ⟨o, hk t (by simp) o ho, r⟩⟩
  item := fun i s Q E hi x hQ => by
    have e : (items.size : Int) - 1 - (i : Int) = ((items.size - 1 - i : Nat) : Int) := by omega
    have hit := x.2.1
    rw [e] at hit
    have hx : items[items.size - 1 - i]? = some (items[items.size - 1 - i]'(by omega)) := Array.getElem?_eq_getElem (by omega)
    refine next_rev_item hit x.2.2 hfit hx fun h' tk hit' hs' => ?_
    have e2 : ((items.size - 1 - i : Nat) : Int) - 1 = (items.size : Int) - 1 - ((i + 1 : Nat) : Int) := by omega
    rw [e2] at hit'
    exact hQ _ h' tk hx ⟨hi, hit', let ⟨o, ho, r⟩ := x.2.2; ⟨o, (hs'.2 t hne).trans ho, r⟩⟩ fun b o hb eo => hs'.extBut b o (fun h => hb (by simp [h])) eo
  done := fun s Q E x hQ => by
    have e : (items.size : Int) - 1 - (items.size : Int) = -1 := by omega
    have hit := x.2.1
    rw [e] at hit
    exact next_rev_end hh hit fun h' he' => hQ h' s.toks fun b o hb eo => he' b o (fun h => hb (by simp [h])) eo
  self := fun _ _ _ _ x hQ => iter_rev x.2.1 hQ
theorem hint_rev {it t : Addr} {n : Nat} {items : Array Value} {Q : Bool → Shared → Prop} (hit : IsRevT s.heap it t ((n : Int) - 1)) (ht : IsTup s.heap t items) (hn : items.size = n) (hz : n ≤ 100)
    (hQ : ∀ tk, s.toks ≤ tk → Q (decide (n ≠ 0)) { s with toks := tk }) : wpAny (model prog w) A (Builtin.List.listLengthHint (.ref it)) Q E s := by
  obtain ⟨o, ho, hc, hd⟩ := id hit
  unfold Builtin.List.listLengthHint
  refine wpAny_bind (wpAny_specialOf hit.typeIs rev_nolen ?_)
  show wpAny _ _ (specialOf (Value.ref it) (Str.ofString "__length_hint__") >>= _) _ _ _
  refine wpAny_bind (wpAny_specialOf hit.typeIs rev_slot_hint.lookup ?_)
  (generalize hid : ("reversed.__length_hint__" : String) = id0; (fail_if_success (clear hid id0)); wp_delta; rw [show splitId id0 = some ("reversed", "__length_hint__") from by subst hid; decide +kernel]; subst hid)
  refine wpAny_bind (wpAny_isInstance (b := true) hit.typeIs F.sub_reversed_self ?_)
  rw [if_neg (by decide)]
  dsimp only
  rw [if_neg (by decide +kernel)]
  refine wpAny_bind (wpAny_rule ?_)
  refine wpAny_bind (wpAny_of_eq (rev_slot_hint.bind _) ?_)
  dsimp only
  have hfit : (items.size : Int) < 2 ^ 63 := by omega
  refine wpAny_bind (wpAny_attempt (wpAny_call_entry rev_slot_hint hit.typeIs rev_entry_hint ?_ (rev_args_hint _)))
  unfold Builtin.«reversed.__length_hint__»
  refine wpAny_bind (wpAny_of_eq (a := Value.ref it) rfl ?_)
  refine wpAny_bind (wpAny_field ho hd (x := .ref t) rfl ?_)
  rw [if_neg (show ¬ ((Value.ref t == Value.none) = true) from Bool.false_ne_true)]
  refine wpAny_bind (len_tuple ht hfit ?_)
  refine wpAny_bind (wpAny_of_eq (a := some (items.size : Int)) rfl ?_)
  dsimp only
  refine wpAny_bind (wpAny_field (s := { s with toks := s.toks + 1 + 1 }) ho hd (x := rawInt ((n : Int) - 1)) rfl ?_)
  show wpAny _ _ (if (items.size : Int) < (n : Int) - 1 + 1 then _ else _) _ _ _
  rw [if_neg (by omega)]
  refine wpAny_bind (wpAny_mkInt (wpAny_pure ⟨_, rfl, ?_⟩))
  dsimp only
  refine wpAny_bind (wpAny_of_eq (a := some ((n : Int) - 1 + 1)) rfl ?_)
  dsimp only
  rw [if_neg (by unfold Builtin.List.listFitsIndex; simp; omega), if_neg (by omega), if_neg (by unfold Builtin.List.listTooLong; rw [sizeLine_eq]; simp; omega)]
  refine wpAny_pure ?_
  have e : (((n : Int) - 1 + 1) != 0) = decide (n ≠ 0) := by
    have e1 : (n : Int) - 1 + 1 = (n : Int) := by omega
    rw [e1]
    by_cases h0 : n = 0
    · subst h0; rfl
    · have h1 : ¬ ((n : Int) = 0) := by omega
      simp [bne, h0]
  rw [e]
  exact hQ _ (by omega)
theorem collect_rev {it t : Addr} {items : Array Value} {Q : List Value → Shared → Prop} (hh : A.handled = none) (hit : IsRevT s.heap it t ((items.size : Int) - 1)) (ht : IsTup s.heap t items) (hne : t ≠ it) (hz : items.size ≤ 100)
    (hQ : ∀ s' acc, Moved [it] (fun a b => b = a) s s' → ItemsOf (fun i v => items[items.size - 1 - i]? = some v) acc items.size → Q acc.toList s') : wpAny (model prog w) A (collect (.ref it)) Q E s := by
  have W := (walks_rev (prog := prog) (w := w) (A := A.in1) hh it t hne items (by omega)).toS
  have hT : ∀ i (s : Shared), (i ≤ items.size ∧ IsRevT s.heap it t ((items.size : Int) - 1 - (i : Int)) ∧ IsTup s.heap t items) → s.TypeIs (.ref it) "reversed" := fun _ _ x => x.2.1.typeIs
  have hst : (0 ≤ items.size ∧ IsRevT s.heap it t ((items.size : Int) - 1 - ((0 : Nat) : Int)) ∧ IsTup s.heap t items) := ⟨Nat.zero_le _, by simpa using hit, ht⟩
  have hfp : ∀ b ∈ [it, t], b < s.heap.objs.size := by
    intro b hb
    rcases List.mem_cons.mp hb with rfl | hb
    · obtain ⟨o, ho, _⟩ := hit; exact Heap.lt_size ho
    · rw [List.mem_singleton.mp hb]; exact ht.lt
  have hn : items.size ≤ sizeLine := by rw [sizeLine_eq]; omega
  have hSf : s.heap.objs.size ∉ [it, t] := fun hm => Nat.lt_irrefl _ (hfp _ hm)
  have hSI : s.heap.objs.size ≠ it := fun e => hSf (e ▸ List.mem_cons_self)
  unfold collect
  refine wpAny_bind (wpAny_runValue (codeAny_builtin F.entry_proto_collect ?_))
  rw [Around.under_plainId F.plain_proto_collect _]
  show wpAny _ A.in1 (newList [] >>= fun l => again (.builtin "list.__iadd__" ⟨[l, .ref it], []⟩)) _ _ s
  refine wpAny_bind (wpAny_newObj_type ?_)
  refine wpAny_pure ⟨plainId_quiet F.plain_list_iadd _, codeAny_builtin F.entry_list_iadd ?_⟩
  rw [Around.under_plainId F.plain_list_iadd _]
  have hst₁ := W.frame 0 s (s.heap.push { cls := .type "list", data := .seq ([] : List Value).toArray }) s.toks hst (Nat.le_refl _) fun b _ o e => Heap.get?_push_of_some _ e
  show wpAny _ A.in1 (Builtin.List.listExtendWith (.ref s.heap.objs.size) (.ref it) (.ref s.heap.objs.size)) _ _ _
  unfold Builtin.List.listExtendWith
  refine wpAny_bind (wpAny_typeOf (hT 0 _ hst₁) ?_)
  have h1 : Builtin.List.listSameRef (.ref s.heap.objs.size) (.ref it) = false := by simp [Builtin.List.listSameRef, hSI]
  rw [if_neg (by rw [h1]; decide)]
  refine wpAny_bind (W.self 0 _ _ _ hst₁ ?_)
  refine wpAny_bind (wpAny_holding ?_)
  refine hint_rev (n := items.size) (by simpa using hst₁.2.1) hst₁.2.2 rfl hz fun tk htk => ?_
  have hS₁ : (s.heap.push { cls := .type "list", data := .seq ([] : List Value).toArray }).get? s.heap.objs.size = some { cls := .type "list", data := .seq ([] : List Value).toArray } := Heap.get?_push_size _ rfl
  have hst₂ := W.frame 0 _ _ tk hst₁ htk fun b _ o e => e
  dsimp only
  by_cases h0 : items.size = 0
  · rw [if_neg (by simp only [h0]; decide +kernel)]
    refine wpAny_pure ⟨plainId_quiet F.plain_extend_loop _, codeAny_extend_loopS W hn _ hSf _ items.size 0 _ _ _ rfl (Nat.zero_le _) hst₂ hS₁ (ItemsOf.nil _) fun s' acc' c' hm hS' hacc => ?_⟩
    show wpAny _ A (load s.heap.objs.size >>= _) _ _ s'
    refine wpAny_bind (wpAny_load hS' ?_)
    exact wpAny_pure (hQ s' acc' (Moved.drop_new (o := { cls := .type "list", data := .seq ([] : List Value).toArray }) (tk := tk) hm htk) hacc)
  · rw [if_pos (by rw [decide_eq_true h0]; rfl)]
    refine wpAny_bind (wpAny_rule ?_)
    refine wpAny_bind ?_
    show wpAny _ A.in1 (updateSeq s.heap.objs.size (·.push .none) >>= fun _ => updateSeq s.heap.objs.size (·.pop)) _ _ _
    refine wpAny_bind (wpAny_updateSeq hS₁ rfl ?_)
    have hS₂ := Heap.get?_update_self (Obj.mapSeq (·.push Value.none)) hS₁ rfl
    refine wpAny_updateSeq hS₂ rfl ?_
    have hS₃ := Heap.get?_update_self (Obj.mapSeq (·.pop)) hS₂ rfl
    have oth : ∀ b o, b ≠ s.heap.objs.size → (s.heap.push { cls := .type "list", data := .seq ([] : List Value).toArray }).get? b = some o →
        (((s.heap.push { cls := .type "list", data := .seq ([] : List Value).toArray }).update s.heap.objs.size (Obj.mapSeq (·.push Value.none))).update s.heap.objs.size (Obj.mapSeq (·.pop))).get? b = some o :=
      fun b o hb e => (Heap.get?_update_other _ _ (Ne.symm hb)).trans ((Heap.get?_update_other _ _ (Ne.symm hb)).trans e)
    refine wpAny_pure ⟨plainId_quiet F.plain_extend_loop _, codeAny_extend_loopS W hn _ hSf _ items.size 0 _ _ _ rfl (Nat.zero_le _)
      (W.frame 0 ({ s with heap := s.heap.push { cls := .type "list", data := .seq ([] : List Value).toArray } } : Shared) _ tk hst₁ htk fun b hb o e => oth b o (fun h => hSf (h ▸ hb)) e) hS₃ (ItemsOf.nil _) fun s' acc' c' hm hS' hacc => ?_⟩
    show wpAny _ A (load s.heap.objs.size >>= _) _ _ s'
    refine wpAny_bind (wpAny_load hS' ?_)
    refine wpAny_pure (hQ s' acc' (Moved.drop_new (o := { cls := .type "list", data := .seq ([] : List Value).toArray }) (tk := tk) ⟨fun b o hb e => hm.heap b o hb (oth b o (fun h => hb (h ▸ List.mem_cons_self)) e), hm.gens, hm.drawn, hm.os, hm.toks⟩ htk) hacc)
theorem code_tuple_rev {it t : Addr} {items : Array Value} {Q₁ : Value → Shared → Prop} (hh : A.handled = none) (hit : IsRevT s.heap it t ((items.size : Int) - 1)) (ht : IsTup s.heap t items) (hne : t ≠ it) (hz : items.size ≤ 100)
    (h : ∀ s' acc, Moved [it] (fun a b => b = a) s s' → ItemsOf (fun i v => items[items.size - 1 - i]? = some v) acc items.size → Q₁ (.ref s'.heap.objs.size) { s' with heap := s'.heap.push { cls := .type "tuple", data := .seq acc } }) :
    codeAny (model prog w) A (.call (.builtin "tuple.__new__") ⟨[.type "tuple", .ref it], []⟩) (wants Q₁ E) s := by
  refine codeAny_of_tree ?_
  show wpAny _ A.in1 (do checkBuiltinCall "tuple.__new__" ⟨[.type "tuple", .ref it], []⟩; again (.builtin "tuple.__new__" ⟨[.type "tuple", .ref it], []⟩)) _ _ s
  refine wpAny_bind (wpAny_of_eq (F.newCall_tuple_1 _) (wpAny_pure ⟨plainId_quiet F.plain_tuple_new _, codeAny_builtin F.entry_tuple_new ?_⟩))
  rw [Around.under_plainId F.plain_tuple_new _]
  have hsub := sub_tuple_self
  have hinit := init_tuple_lookup
  have hmh := madeHere_tuple
  have hTI := hit.typeIs
  have hcol : ∀ (Q : List Value → Shared → Prop) (E' : Value → Shared → Prop), (∀ s' acc, Moved [it] (fun a b => b = a) s s' → ItemsOf (fun i v => items[items.size - 1 - i]? = some v) acc items.size → Q acc.toList s') → wpAny (model prog w) A.in1 (collect (.ref it)) Q E' s :=
    fun Q E' hQ => collect_rev (A := A.in1) hh hit ht hne hz hQ
  wp_walk using wpAny_typeOf hTI, hcol
  intro s' acc hm hacc
  show wpAny _ _ (Builtin.Tuple.tupleExact acc.toList.toArray >>= fun v => ret v) _ _ _
  unfold Builtin.Tuple.tupleExact
  refine wpAny_bind (wpAny_newObj_type ?_ (by show acc.toList.toArray.size ≤ sizeLine; simp only [Array.toArray_toList]; rw [hacc.1, sizeLine_eq]; omega))
  refine wpAny_pure ?_
  have e : acc.toList.toArray = acc := by simp
  rw [e]
  exact h s' acc hm hacc
theorem call_tuple_rev {it t : Addr} {items : Array Value} {Q : Value → Shared → Prop} (hh : A.handled = none) (hit : IsRevT s.heap it t ((items.size : Int) - 1)) (ht : IsTup s.heap t items) (hne : t ≠ it) (hz : items.size ≤ 100)
    (h : ∀ (h' : Heap) (tk : Nat), (∀ b o, b ≠ it → s.heap.get? b = some o → h'.get? b = some o) → Q (.ref h'.objs.size) { s with heap := h'.push { cls := .type "tuple", data := .seq items.toList.reverse.toArray }, toks := tk }) : wpAny (model prog w) A (call (.type "tuple") [.ref it]) Q E s := by
  refine callType_codes (Q₁ := fun obj s₁ => s₁.TypeIs obj "tuple" ∧ Q obj s₁) F.called_tuple (F.typeCall_tuple_1 _) F.entry_object_init
    (code_tuple_rev (A := A.in1) hh hit ht hne hz fun s' acc hm hacc => ⟨⟨_, Heap.get?_push_size _ rfl, rfl⟩, ?_⟩) fun obj s₁ h₁ => ?_
  · have e : acc = items.toList.reverse.toArray := by
      apply Array.ext
      · rw [hacc.1]; simp
      · intro i h1 h2
        have h3 := hacc.2 i _ (Array.getElem?_eq_getElem h1)
        have h4 : i < items.size := by rw [← hacc.1]; exact h1
        have h5 : items[items.size - 1 - i]? = some (items[items.size - 1 - i]'(by omega)) := Array.getElem?_eq_getElem (by omega)
        dsimp only at h3
        rw [h5] at h3
        rw [← Option.some.inj h3]
        simp
    subst e
    obtain ⟨hp, g, d, tk, os⟩ := s'
    obtain ⟨k1, k2, k3, k4, k5⟩ := hm
    dsimp only at k1 k2 k3 k4 k5 ⊢
    subst k2; subst k3; subst k4
    exact h hp tk fun b o hb e => k1 b o (fun hm => hb (List.mem_singleton.mp hm)) e
  · exact ⟨h₁.1, F.args_object_init_2 obj _, object_init_meets F.called_tuple.init.lookup F.called_tuple.made (by decide) prog w A.in1 _ s₁ ⟨h₁.1, rfl, h₁.2⟩⟩
end
section
variable {prog : Program} {w : World} {A : Around} {E : Value → Shared → Prop} {s : Shared} {h₀ : Heap} {L t : Addr} {m : Str → Option Value} {news : List (Addr × Obj)} {vs : List Value} {n : Nat} {Q : Value → Shared → Prop}
theorem krv_tuple (F : Fr h₀ L s.heap m) (N : News h₀ L s.heap news) (hm : (t, tup vs n) ∈ news) (hl : vs.length ≤ 100)
    (h : ∀ D h' tk, Fr h₀ L h' m → News h₀ L h' ((D, revT t ((vs.length : Int) - 1)) :: news) → (∀ p ∈ news, p.1 < D) → Q (.ref D) { s with heap := h', toks := tk }) : wpAny (model prog w) A (call (.type "reversed") [.ref t]) Q E s := by
  have ht : IsTup s.heap t vs.toArray := ⟨_, (N _ hm).1, rfl, n, rfl⟩
  refine call_rev_tuple ht (by rw [List.size_toArray]; omega) fun tk => ?_
  rw [List.size_toArray]
  exact h _ _ tk (F.push _) (News.push F N _) fun p hp => Heap.lt_size (N p hp).1
theorem tuple_rev {D : Addr} (hh : A.handled = none) (F : Fr h₀ L s.heap m) (N : News h₀ L s.heap ((D, revT t ((vs.length : Int) - 1)) :: news)) (off : ∀ p ∈ news, p.1 < D) (hm : (t, tup vs n) ∈ news) (hl : vs.length ≤ 100)
    (h : ∀ D2 h' tk, Fr h₀ L h' m → News h₀ L h' ((D2, ({ cls := .type "tuple", data := .seq vs.reverse.toArray } : Obj)) :: news) → (∀ p ∈ news, p.1 < D2) → Q (.ref D2) { s with heap := h', toks := tk }) : wpAny (model prog w) A (call (.type "tuple") [.ref D]) Q E s := by
  have hD := N _ List.mem_cons_self
  have hmem := N _ (List.mem_cons_of_mem _ hm)
  have ht : IsTup s.heap t vs.toArray := ⟨_, hmem.1, rfl, n, rfl⟩
  have hit : IsRevT s.heap D t ((vs.toArray.size : Int) - 1) := ⟨_, hD.1, rfl, by rw [List.size_toArray]⟩
  refine call_tuple_rev hh hit ht (Nat.ne_of_lt (off _ hm)) (by rw [List.size_toArray]; exact hl) fun h' tk hk => ?_
  have F' : Fr h₀ L h' m := ⟨F.ns.at' fun o e => hk L o (Ne.symm hD.2.1) e, fun b o e => hk b o (fun eb => by subst eb; rw [hD.2.2] at e; cases e) (F.keep b o e), F.above⟩
  have N' : News h₀ L h' news := fun p hp => ⟨hk _ _ (Nat.ne_of_lt (off p hp)) (N p (List.mem_cons_of_mem _ hp)).1, (N p (List.mem_cons_of_mem _ hp)).2⟩
  exact h _ _ tk (F'.push _) (News.push F' N' _) fun p hp => Heap.lt_size (N' p hp).1
end
end Aj
end

/-! AjSubj -/
section
open PySem PySem.W PySem.Spec PySem.Calls PyProof.Rows PyProof.V
namespace Aj
section
variable {prog : Program} {w : World} {A : Around} {E : Value → Shared → Prop} {s : Shared} {h₀ : Heap} {L t b : Addr} {m : Str → Option Value} {news : List (Addr × Obj)} {vs ws : List Value} {n k : Nat} {Q : Value → Shared → Prop}
/-- a tuple beside a tuple that may be empty -/
theorem add_rows (F : Fr h₀ L s.heap m) (N : News h₀ L s.heap news) (ht : (t, tup vs n) ∈ news) (hb : (b, tup ws k) ∈ news) (hv : vs ≠ []) (hz : vs.length + ws.length ≤ 100)
    (h : ∀ D h' n', Fr h₀ L h' m → News h₀ L h' ((D, tup (vs ++ ws) n') :: news) → Q (.ref D) { s with heap := h' }) : wpAny (model prog w) A (binaryOp .Add (.ref t) (.ref b)) Q E s := by
  have h1 : IsTup s.heap t vs.toArray := ⟨_, (N _ ht).1, rfl, n, rfl⟩
  have h2 : IsTup s.heap b ws.toArray := ⟨_, (N _ hb).1, rfl, k, rfl⟩
  by_cases hw : ws = []
  · subst hw
    refine kde_addT1 F N h1 h2 (by simpa using hv) rfl (by simp; simp at hz; omega) ?_
    refine h t s.heap n F fun p hp => ?_
    rcases List.mem_cons.mp hp with rfl | hp
    · simpa using N _ ht
    · exact N p hp
  · refine kde_addT F N h1 h2 (by simpa using hv) (by simpa using hw) (by simp; omega) (by simp; rfl) fun D h' F' N' _ => ?_
    exact h D h' _ F' N'
end
/-- what law's frame binds in the loop over the subjects -/
def mSubj (due : Bool) (one hosts : Addr) (m : Str → Option Value) : Str → Option Value := fun z =>
  if z = Str.ofString "due" then some (.bool due) else if z = Str.ofString "one" then some (.ref one) else if z = Str.ofString "hosts" then some (.ref hosts) else m z
theorem mSubj_eq {m : Str → Option Value} {due : Bool} {one hosts : Addr} (e1 : m (Str.ofString "due") = some (.bool due)) (e2 : m (Str.ofString "one") = some (.ref one)) (e3 : m (Str.ofString "hosts") = some (.ref hosts)) : mSubj due one hosts m = m := by
  funext z
  unfold mSubj
  split
  · next h => rw [h, e1]
  · split
    · next h => rw [h, e2]
    · split
      · next h => rw [h, e3]
      · rfl
/-- a turn over the subjects has ended -/
def SubjEnd (h₀ : Heap) (L I : Addr) (oI : Obj) (led : List (Addr × Obj)) (due : Bool) (one hosts : Addr) (Q : Flow → Shared → Prop) (s₁ : Shared) (f : Flow) (s₂ : Shared) : Prop :=
  match f with
  | .ret v => Q (.ret v) s₂
  | .brk => Q .next s₂
  | _ => ∃ h' tk m', s₂ = { s₁ with heap := h', toks := tk } ∧ Fr h₀ L h' (mSubj due one hosts m') ∧ News h₀ L h' ((I, oI) :: led)
theorem SubjEnd.intro {h₀ : Heap} {L I : Addr} {oI : Obj} {led all : List (Addr × Obj)} {due : Bool} {one hosts : Addr} {Q : Flow → Shared → Prop} {s₁ : Shared} {f : Flow} {h' : Heap} {tk : Nat} {m : Str → Option Value}
    (hf : f = .next ∨ f = .cont) (F : Fr h₀ L h' m) (e1 : m (Str.ofString "due") = some (.bool due)) (e2 : m (Str.ofString "one") = some (.ref one)) (e3 : m (Str.ofString "hosts") = some (.ref hosts)) (N : News h₀ L h' all) (hs : ∀ p ∈ (I, oI) :: led, p ∈ all) :
    SubjEnd h₀ L I oI led due one hosts Q s₁ f { s₁ with heap := h', toks := tk } := by
  rw [← mSubj_eq e1 e2 e3] at F
  rcases hf with rfl | rfl <;> exact ⟨h', tk, m, rfl, F, fun p hp => N p (hs p hp)⟩
/-- a subject whose common names tell what is due -/
def SubjOK (y : Str) (due : Bool) (cst : List (Addr × Obj)) (v : Value) : Prop :=
  ∃ a us n rows, v = .ref a ∧ (a, tup us n) ∈ cst ∧ RowsIn cst us rows ∧ (∀ r ∈ rows, ∀ p ∈ r, Good p.2) ∧ (rows.map List.length).sum ≤ 10 ∧ takenB y true [] rows = due
section
variable {prog : Program} {w : World} {A : Around} {s : Shared} {env : Env} {h₀ : Heap} {E : Value → Shared → Prop} {Q : Flow → Shared → Prop} {body : List Stmt} {target : PySem.Expr}
theorem loop_subj {ax one hosts : Addr} {items : List Value} {k : Nat} {m : Str → Option Value} {all : List (Addr × Obj)} {s : Shared} {y : Str} {due : Bool} (cst : List (Addr × Obj))
    (hh : A.handled = none) (hE : PassesOwn (model prog w) A env E)
    (F : Fr h₀ env.locals s.heap m) (N : News h₀ env.locals s.heap all) (hs : ∀ p ∈ cst, p ∈ all) (hax : (ax, lsO items k) ∈ cst)
    (e1 : m (Str.ofString "due") = some (.bool due)) (e2 : m (Str.ofString "one") = some (.ref one)) (e3 : m (Str.ofString "hosts") = some (.ref hosts)) (hi : ∀ v ∈ items, SubjOK y due cst v)
    (turn : ∀ a us n rows m₁ I oI h tk, (a, tup us n) ∈ cst → RowsIn cst us rows → (∀ r ∈ rows, ∀ p ∈ r, Good p.2) → (rows.map List.length).sum ≤ 10 → takenB y true [] rows = due → (∀ p ∈ cst, p.1 ≠ I) →
      Fr h₀ env.locals h (mSubj due one hosts m₁) → News h₀ env.locals h ((I, oI) :: cst) →
      wpAny (model prog w) A (assign target env (.ref a)) (fun _ s₃ => wpAny (model prog w) A (execs body env) (SubjEnd h₀ env.locals I oI cst due one hosts Q { s with heap := h, toks := tk }) E s₃) E { s with heap := h, toks := tk })
    (done : ∀ m₁ h tk, Fr h₀ env.locals h (mSubj due one hosts m₁) → News h₀ env.locals h cst → Q .next { s with heap := h, toks := tk }) :
    LoopSrc prog w A env target body Q E (.ref ax) s := by
  refine LoopSrc.list (items := items.toArray) (k := k) (fun i m nw => nw = cst ∧ ∃ m', m = mSubj due one hosts m') hh hE F (fun p hp => N p (hs p hp)) ?_ ⟨rfl, m, (mSubj_eq e1 e2 e3).symm⟩ ?_ ?_
  · rintro i m nw ⟨rfl, _⟩; exact hax
  · rintro i v m₁ nw I oI h tk hv ⟨rfl, m', rfl⟩ off F' N'
    obtain ⟨a, us, n, rows, rfl, h1, h2, h3, h4, h5⟩ := hi v (List.mem_of_getElem? (by simpa using hv))
    refine wpAny_mono (turn a us n rows m' I oI h tk h1 h2 h3 h4 h5 off F' N') (fun _ s₃ h₃ => wpAny_mono h₃ (fun f s₄ h₄ => ?_) fun _ _ e => e) fun _ _ e => e
    cases f with
    | ret v => exact h₄
    | brk => exact h₄
    | next =>
      obtain ⟨h', tk', m₂, rfl, F₄, N₄⟩ := h₄
      exact ⟨h', tk', _, _, rfl, F₄, N₄, off, rfl, m₂, rfl⟩
    | cont =>
      obtain ⟨h', tk', m₂, rfl, F₄, N₄⟩ := h₄
      exact ⟨h', tk', _, _, rfl, F₄, N₄, off, rfl, m₂, rfl⟩
  · rintro m₁ nw h tk ⟨rfl, m', rfl⟩ F' N'
    exact done m' h tk F' N'
theorem law_cut3 {L : Addr} {m : Str → Option Value} {news : List (Addr × Obj)} {due : Bool} {one hosts : Addr} {st : Stmt} {rest : List Stmt} (F : Fr h₀ L s.heap m) (N : News h₀ L s.heap news)
    (e1 : m (Str.ofString "due") = some (.bool due)) (e2 : m (Str.ofString "one") = some (.ref one)) (e3 : m (Str.ofString "hosts") = some (.ref hosts))
    (h1 : wpAny (model prog w) A (exec st env) (fun f s' => match f with | .next => ∃ m', LawC h₀ L (mSubj due one hosts m') news s s' | f => Q f s') E s)
    (h2 : ∀ m' h tk, Fr h₀ L h (mSubj due one hosts m') → News h₀ L h news → wpAny (model prog w) A (execs rest env) Q E { s with heap := h, toks := tk }) : wpAny (model prog w) A (execs (st :: rest) env) Q E s :=
  execs_cut _ h1 (by rintro s' ⟨m', h, tk, rfl, F', N'⟩; exact h2 m' h tk F' N')
end
end Aj
end

/-! AjSubj2 -/
section
open PySem PySem.W PySem.Spec PySem.Calls PyProof.Rows PyProof.V
namespace Aj
theorem bne_no {b : Bool} (h : (b != b) = true) : False := by cases b <;> cases h
theorem good_ip : Good (Str.ofString "192.0.2.7") := by
  refine ⟨fun c hc => ?_, by decide +kernel⟩
  have h : (Str.ofString "192.0.2.7").cps.toList.all (fun c => decide (c < 128)) = true := by decide +kernel
  simpa using List.all_eq_true.mp h c hc
theorem good_addr : ∀ p ∈ [(Str.ofString "IP Address", Str.ofString "192.0.2.7")], Good p.2 := by
  intro p hp
  rw [List.mem_singleton.mp hp]; exact good_ip
section
variable {y : Str} {xs : List Str} {cst : List (Addr × Obj)} {a b c : Addr} {n k j : Nat} {us : List Value}
theorem good_one (hx : ∀ x ∈ xs, Good x) : ∀ r ∈ [xs.map fun x => (Str.ofString "commonName", x)], ∀ p ∈ r, Good p.2 := by
  intro r hr p hp
  rw [List.mem_singleton.mp hr] at hp
  obtain ⟨x, h, rfl⟩ := List.mem_map.mp hp
  exact hx x h
theorem sum_one (hl : xs.length ≤ 5) : (([xs.map fun x => (Str.ofString "commonName", x)]).map List.length).sum ≤ 10 := by simp; omega
theorem good_each (hx : ∀ x ∈ xs, Good x) : ∀ r ∈ (xs.map fun x => [(Str.ofString "commonName", x)]), ∀ p ∈ r, Good p.2 := by
  intro r hr p hp
  obtain ⟨x, h, rfl⟩ := List.mem_map.mp hr
  rw [List.mem_singleton.mp hp]; exact hx x h
theorem sum_each_eq : ∀ xs : List Str, ((xs.map fun x => [(Str.ofString "commonName", x)]).map List.length).sum = xs.length
  | [] => rfl
  | x :: r => by
    rw [List.map_cons, List.map_cons, List.sum_cons, sum_each_eq r, List.length_cons]
    show 1 + r.length = r.length + 1
    omega
theorem subj_one {ys : List Value} (hx : ∀ x ∈ xs, Good x) (hl : xs.length ≤ 5) (ha : (a, tup [.ref b] n) ∈ cst) (hb : (b, tup ys k) ∈ cst) (hp : PairsIn cst ys (xs.map fun x => (Str.ofString "commonName", x))) : SubjOK y (dueL y xs).1 cst (.ref a) :=
  ⟨a, _, n, _, rfl, ha, .cons hb hp .nil, good_one hx, sum_one hl, one_taken⟩
theorem subj_each (hx : ∀ x ∈ xs, Good x) (hl : xs.length ≤ 5) (ha : (a, tup us n) ∈ cst) (hr : RowsIn cst us (xs.map fun x => [(Str.ofString "commonName", x)])) : SubjOK y (dueL y xs).1 cst (.ref a) :=
  ⟨a, _, n, _, rfl, ha, hr, good_each hx, by rw [sum_each_eq]; omega, each_taken⟩
theorem subj_org {t u : Tok} (hy : Good y) (hx : ∀ x ∈ xs, Good x) (hl : xs.length ≤ 5) (ha : (a, tup ([.ref b] ++ us) n) ∈ cst) (hb : (b, tup [.ref c] k) ∈ cst) (hc : (c, tup [.str (Str.ofString "organizationName") t, .str y u] j) ∈ cst)
    (hr : RowsIn cst us (xs.map fun x => [(Str.ofString "commonName", x)])) : SubjOK y (dueL y xs).1 cst (.ref a) := by
  refine ⟨a, _, n, _, rfl, ha, .cons hb (.cons hc .nil) hr, ?_, ?_, org_taken⟩
  · intro r hr p hp
    rcases List.mem_cons.mp hr with rfl | hr
    · rw [List.mem_singleton.mp hp]; exact hy
    · exact good_each hx r hr p hp
  · rw [List.map_cons, List.sum_cons, sum_each_eq]
    show 1 + xs.length ≤ 10
    omega
theorem rows_map (h : RowsIn cst us (List.map (fun p => [p]) (List.map (fun z => (Str.ofString "commonName", z)) xs))) : RowsIn cst us (xs.map fun x => [(Str.ofString "commonName", x)]) := by
  rw [List.map_map] at h; exact h
end
theorem star_eq : Str.ofString "*" = ⟨#[42]⟩ := by decide +kernel
theorem asc_of {z : Str} (h : z.cps.toList.all (fun c => decide (c < 128)) = true) : Asc z := fun c hc => by simpa using List.all_eq_true.mp h c hc
theorem star_good {x z : Str} (hx : Asc x ∧ x.length ≤ 40) (hz : Asc z ∧ z.length ≤ 3) : Good (Txt.replace x (Str.ofString "*") z) := by
  rw [star_eq]; exact replace_good hx hz
theorem put0 : Asc (Str.ofString "") ∧ (Str.ofString "").length ≤ 3 := ⟨asc_of (by decide +kernel), by decide +kernel⟩
theorem put1 : Asc (Str.ofString "c") ∧ (Str.ofString "c").length ≤ 3 := ⟨asc_of (by decide +kernel), by decide +kernel⟩
theorem put2 : Asc (Str.ofString "ab") ∧ (Str.ofString "ab").length ≤ 3 := ⟨asc_of (by decide +kernel), by decide +kernel⟩
theorem put3 : Asc (Str.ofString "a.b") ∧ (Str.ofString "a.b").length ≤ 3 := ⟨asc_of (by decide +kernel), by decide +kernel⟩
theorem LawH.intro2 {h₀ h : Heap} {L : Addr} {m : Str → Option Value} {s : Shared} {tk : Nat} {al : Addr} {nv : List Value} {c : Nat} {oh : Obj} {xs : List Str} {y : Str} {ty : Tok} {all : List (Addr × Obj)} (F : Fr h₀ L h m) (hm : m (Str.ofString "names") = some (.ref al)) (N : News h₀ L h all)
    (h1 : (al, lsO nv c) ∈ all) (h2 : (L + 1 + 1, oh) ∈ all) (ho : oh.data = .cell (some (.str y ty))) (hn : StrsAre nv xs) (hx : ∀ x ∈ xs, Asc x ∧ x.length ≤ 40) (hl : xs.length ≤ 5) (hy : Good y) (hne : @Ne Nat al (L + 1 + 1)) : LawH h₀ L s { s with heap := h, toks := tk } :=
  LawH.intro F hm N (by
    intro p hp
    rcases List.mem_cons.mp hp with rfl | hp
    · exact h1
    · rw [List.mem_singleton.mp hp]; exact h2) ho hn (good40 hx) hl hy hne
end Aj
end

/-! AjLaw -/
section
open PySem PySem.W PyProof.Rows
namespace Aj
local macro_rules | `(tactic| walk_at "call ref") => `(tactic| (k_here; (with_reducible show wpAny _ _ (call (Value.ref 47) _) _ _ _); k_dflt (refine digits_call (by k_asm) (by k_asm) (by k_asm) (by k_asm) (by k_asm) (by exact rfl) (by ktr_room) (by ktr_units) (by assumption) (by assumption) (by omega) (by assumption) (fun l9 dv9 c9 ds9 h9 tk9 hdv9 hD9 hd1 hd2 F9 N9 hl9 => ?_)) <;> (try dsimp only) <;> (try k_fold)))
local macro_rules | `(tactic| walk_at "call ref") => `(tactic| (k_here; (with_reducible show wpAny _ _ (call (Value.ref 54) _) _ _ _); k_dflt (refine at_call (by k_asm) (by k_asm) (by k_asm) (by k_asm) (by k_asm) (by exact rfl) (by ktr_room) (by k_mem) (by assumption) (by assumption) (by assumption) (by assumption) (fun d9 t9 h9 tk9 hd9 he9 F9 N9 => ?_)) <;> (try dsimp only) <;> (try k_fold)))
local macro_rules | `(tactic| walk_at "call ref") => `(tactic| (k_here; (with_reducible show wpAny _ _ (call (Value.ref 59) _) _ _ _); k_dflt (refine name_call (by k_asm) (by k_asm) (by k_asm) (by k_asm) (by k_asm) (by exact rfl) (by ktr_room) (fun x9 t9 h9 tk9 hx9 hy9 F9 N9 => ?_)) <;> (try dsimp only) <;> (try k_fold)))
local macro_rules | `(tactic| k_mem) => `(tactic| first | assumption | exact List.mem_cons_self | (refine List.mem_cons_of_mem _ ?_; k_mem))
local macro_rules | `(tactic| walk_at "exec Assign cons ListComp") => `(tactic| (k_here; k_dflt (refine LCg.Assign_ListComp_U (F₀ := by k_asm) (by rfl) (by with_unfolding_all rfl) (by with_unfolding_all rfl) (by decide) (by rfl) (by decide) (by rfl) (by rfl) (by rfl) ?_)))
local macro_rules | `(tactic| walk_at "eval ListComp") => `(tactic| (k_here; k_dflt (refine LCg.ListComp_U (F₀ := by k_asm) (by with_unfolding_all rfl) (by decide) (by rfl) (by decide) (by rfl) ?_)))
local macro_rules | `(tactic| walk_at "eval Dict") => `(tactic| (k_here; k_dflt (refine' kdn_str ?q ?F ?N ?b ?a ?l ?e ?n ?_; (case q => rfl); (case F => k_asm); (case N => first | k_asm | exact News.nil); (case b => exact Top.nolimit (by k_asm)); (case a => rfl); (case l => rfl); (case e => exact List.cons_ne_nil _ _); (case n => exact Nat.le_of_ble_eq_true rfl)); intro d' h' o' F' N' l1 lo' hd'; (try k_lt l1)))
local macro_rules | `(tactic| walk_at "exec For") => `(tactic| (k_here; k_dflt (refine for_src ?_ (by intro _; rfl))))
local macro_rules | `(tactic| walk_at "exec For Name Call cons nil") => `(tactic| (k_here; k_dflt (refine for_src ?_ (by intro _; rfl))))
local macro_rules | `(tactic| walk_at "exec For Name List cons nil") => `(tactic| (k_here; k_dflt (refine for_src ?_ (by intro _; rfl))))
local macro_rules | `(tactic| walk_at "subscriptTail Name Name ref int") => `(tactic| (k_here; k_dflt (refine item_bool (by k_asm) (by k_mem) (by assumption) (by omega) ?_ (by with_unfolding_all rfl))))
local macro_rules | `(tactic| walk_at "truthy ref") => `(tactic| (k_here; (with_reducible rename StrsAre _ _ => hS9); k_dflt (refine truthy_names (by k_asm) (by k_mem) hS9 (by omega) ?_)))
local macro_rules | `(tactic| walk_at "subscriptTail Name BinOp ref int") => `(tactic| (k_here; (with_reducible rename StrsAre _ _ => hS9); k_dflt (refine item_text (News.isList (by k_asm) (by k_mem)) hS9 (by assumption) (by omega) (fmod_lo _ (by omega)) (fmod_hi _ (by omega)) ?_ (by with_unfolding_all rfl)); intro z9 t9 hz9))
local macro_rules | `(tactic| walk_at "subscriptTail List cons BinOp ref int") => `(tactic| (k_here; k_dflt (refine item_four (News.isList (by k_asm) (by k_mem)) (fmod_lo _ (by decide)) (fmod_hi _ (by decide)) ?_ ?_ ?_ ?_ (by with_unfolding_all rfl))))
local macro_rules | `(tactic| walk_at "call builtin:len") => `(tactic| (k_here; (with_reducible rename StrsAre _ _ => hS9); k_dflt (refine kst_len (by k_asm) (by k_mem) (StrsAre.length hS9) (by omega) ?_)))
local macro_rules | `(tactic| walk_at "call type:tuple") => `(tactic| (k_here; (with_reducible show wpAny _ _ (call (Value.type _) [Value.ref _]) _ _ _); k_dflt (refine kde_tupleOf (by k_asm) (by k_asm) (News.isList (by k_asm) (by k_mem)) (by rw [List.size_toArray]; omega) rfl ?_); intro D' h' F' N' l1))
local macro_rules | `(tactic| walk_at "call type:reversed") => `(tactic| (k_here; (with_reducible show wpAny _ _ (call (Value.type _) [Value.ref _]) _ _ _); k_dflt (refine krv_tuple (by k_asm) (by k_asm) (by k_mem) (by first | omega | (simp only [List.toList_toArray]; omega) | (simp; omega)) ?_); intro D' h' tk' F' N' l1))
local macro_rules | `(tactic| walk_at "call type:tuple") => `(tactic| (k_here; (with_reducible show wpAny _ _ (call (Value.type _) [Value.ref _]) _ _ _); k_dflt (refine tuple_rev (by rfl) (by k_asm) (by k_asm) (by assumption) (by k_mem) (by first | omega | (simp only [List.toList_toArray]; omega) | (simp; omega)) ?_); intro D' h' tk' F' N' l1; (try k_lt l1)))
local macro_rules | `(tactic| walk_at "call builtin:any") => `(tactic| (k_here; k_dflt (refine LSm.any_bools (by k_asm) (by k_asm) (by rfl) (News.isList (by k_asm) (by k_mem)) (bools_are _ _) ?_); intro h' tk' F' N'))
local macro_rules | `(tactic| walk_at "binaryOp Add ref ref") => `(tactic| (k_here; k_dflt (refine add_rows (by k_asm) (by k_asm) (by k_mem) (by k_mem) (List.cons_ne_nil _ _) (by simp only [List.length_cons, List.length_nil]; omega) ?_); intro D' h' n' F' N'))
set_option maxRecDepth 100000 in
set_option maxHeartbeats 8000000 in
theorem law1 : PySem.Challenge.rw_aj5040_01.Holds := hd (by
  w_strict (
    k_go0
    have hMk := kstMark
    repeat' ((fail_if_success (with_reducible show LCg.CompSrc _ _ _ _ _ _ _ _ _ _ _ _ _ _)); first | (k_unfold; (try dsimp only)) | (k_end; wrow_close) | walk1 | (dsimp only; walk1) | (leave1; walk_say "STEP leave1"; try dsimp only))
    refine LCg.CompSrc.range (by rfl) (by k_asm) (by k_asm) (by assumption) (six_small _) (rangeSize_nat _ _) (six_fit _) ?_
    intro gg
    refine comp_texts 40 trivial (fun i t I oI C oC D m₂ ys h tk E' hin hC hx F' N' => ?_) (fun ys xs hys hxs hxl => ?_)
    · repeat' first | exact ⟨_, _, _, _, rfl, by assumption, by assumption, rfl, by assumption, by assumption⟩ | (k_unfold; (try dsimp only)) | (k_end; wrow_close) | walk1 | (dsimp only; walk1) | (leave1; walk_say "STEP leave1"; try dsimp only)
    · have hx5 : xs.length ≤ 5 := by rw [hxl]; exact six_le _
      repeat' ((fail_if_success (with_reducible show wpAny _ _ (execs (Stmt.If _ _ _ _ :: _) _) _ _ _)); first | (k_unfold; (try dsimp only)) | (k_end; wrow_close) | walk1 | (dsimp only; walk1) | (leave1; walk_say "STEP leave1"; try dsimp only))
      k_unfold
      dsimp only
      rename News _ _ _ _ => N5
      simp only [List.cons_append, List.nil_append] at N5
      rename LCg.Off1 _ _ => ho1
      have hne1 := Ne.symm ho1.2.1
      refine law_cut (by k_asm) ?_ ?_
      · repeat' first
          | ((with_reducible show LawH _ _ _ _); exact LawH.intro2 (by k_asm) (by rfl) (by k_asm) (by k_mem) (by k_mem) (by assumption) (by assumption) hxs hx5 (by first | exact star_good (by assumption) put0 | exact star_good (by assumption) put1 | exact star_good (by assumption) put2 | exact star_good (by assumption) put3 | exact ⟨by assumption, Nat.le_trans (by assumption) (by decide)⟩) hne1)
          | (k_unfold; (try dsimp only)) | (k_end; wrow_close) | walk1 | (dsimp only; walk1) | (leave1; walk_say "STEP leave1"; try dsimp only)
      · rintro s' ⟨h, tk, m, al, nv, c, oh, xs9, y, ty, rfl, Fa, Na, hoh, hnv, hxs9, hx9, hy9, hne9⟩
        clear hys hxs
        rename Shared => s₁
        repeat' ((fail_if_success (with_reducible show LCg.CompSrc _ _ _ _ _ _ _ _ _ _ _ _ _ _)); first | (k_unfold; (try dsimp only)) | (k_end; wrow_close) | walk1 | (dsimp only; walk1) | (leave1; walk_say "STEP leave1"; try dsimp only))
        refine LCg.CompSrc.ledger (by rfl) (by k_asm) (by k_asm) (by k_mem) (comp_fit hnv (by omega)) ?_
        intro g9
        refine comp_bools manyB hnv (Or.inr ⟨_, by k_mem, rfl, _, rfl⟩) (fun z t I oI C oC D m₂ ys h tk E' hz hC hx F' N' => ?_) (fun ys hys => ?_)
        · have hz1 := (hxs9 z hz).1
          have hz2 := (hxs9 z hz).2
          have hz3 := (hxs9 z hz).repr
          repeat' first | exact ⟨_, _, rfl, by k_asm, cb_drop (by k_asm) (by kcj_all), congrArg Value.bool (manyB_of (by assumption) (by assumption))⟩ | (k_unfold; (try dsimp only)) | (k_end; wrow_close) | walk1 | (dsimp only; walk1) | (leave1; walk_say "STEP leave1"; try dsimp only)
        · subst hys
          repeat' ((fail_if_success (with_reducible show LCg.CompSrc _ _ _ _ _ _ _ _ _ _ _ _ _ _)); first | (k_unfold; (try dsimp only)) | (k_end; wrow_close) | walk1 | (dsimp only; walk1) | (leave1; walk_say "STEP leave1"; try dsimp only))
          refine LCg.CompSrc.ledger (by rfl) (by k_asm) (by k_asm) (by k_mem) (comp_fit hnv (by omega)) ?_
          intro g9
          refine comp_bools (sgB y) hnv (Or.inr ⟨_, by k_mem, rfl, _, rfl⟩) (fun z t I oI C oC D m₂ ys h tk E' hz hC hx F' N' => ?_) (fun ys2 hys2 => ?_)
          · repeat' ((fail_if_success (with_reducible show wpAny _ _ (call (Value.ref 66) _) _ _ _)); first | (k_unfold; (try dsimp only)) | (k_end; wrow_close) | walk1 | (dsimp only; walk1) | (leave1; walk_say "STEP leave1"; try dsimp only))
            (k_here; (with_reducible rename Obj.IsDictOf _ _ _ => hD8); (with_reducible rename ((_ : Nat) == _) = false => hlo8); k_dflt (refine taken_call (ps := [(Str.ofString "DNS", z)]) (rows := []) (by k_asm) (by k_asm) (by k_asm) (by k_asm) (by k_asm) (by exact rfl) (by ktr_room) (by ktr_units) hy9.1 hy9.2 hy9.repr (by k_mem) hD8 hlo8 (Nat.le_of_ble_eq_true rfl) (by rfl) rfl rfl ?san ?ps ?pl ?sub ?rs ?rl (fun h9 tk9 F9 N9 => ?_)))
            case san => exact .inl ⟨_, _, _, by with_unfolding_all rfl, by k_mem, .cons (by k_mem) .nil⟩
            case sub => exact .inr ⟨by with_unfolding_all rfl, rfl⟩
            case ps => intro p hp; rw [List.mem_singleton.mp hp]; exact hxs9 z hz
            case pl => simp
            case rs => exact fun _ h => nomatch h
            case rl => simp
            repeat' first | exact ⟨_, _, rfl, by k_asm, cb_drop (by k_asm) (by kcj_all), rfl⟩ | (k_unfold; (try dsimp only)) | (k_end; wrow_close) | walk1 | (dsimp only; walk1) | (leave1; walk_say "STEP leave1"; try dsimp only)
          · subst hys2
            repeat' ((fail_if_success (with_reducible show LCg.CompSrc _ _ _ _ _ _ _ _ _ _ _ _ _ _)); first | (k_unfold; (try dsimp only)) | (k_end; wrow_close) | walk1 | (dsimp only; walk1) | (leave1; walk_say "STEP leave1"; try dsimp only))
            refine loop_due (y := y) (xs := xs9) (oa := lsO nv c) (oc := oh) (s₁.heap.objs.size + 1 + 1) rfl (by passes_own) (by assumption) rfl (by omega) (by k_asm) (by k_asm) rfl rfl rfl rfl rfl (by kcj_all) ?_ ?_
            · intro i z tk₁ b1 b2 m₁ I oI h tk hz hzm hoff F2 N2
              unfold mDue at F2
              have hms := many_sg (y := y) (x := z)
              repeat' first
                | ((with_reducible show DueEnd _ _ _ _ _ _ _ _ _ _ _ (Flow.ret _) _); exact (Bool.false_ne_true ((hms (by with_reducible assumption)).symm.trans (by with_reducible assumption))).elim)
                | ((with_reducible show DueEnd _ _ _ _ _ _ _ _ _ _ _ _ _); exact DueEnd.intro (.inl rfl) (by k_asm) rfl rfl rfl rfl rfl (by simp [dueF, *]) (by simp [dueF, *]) (by k_asm) (by kcj_all))
                | (k_unfold; (try dsimp only)) | (k_end; wrow_close) | walk1 | (dsimp only; walk1) | (leave1; walk_say "STEP leave1"; try dsimp only)
            · intro m₁ h tk F2 N2
              unfold mDue at F2
              change Fr _ s₁.heap.objs.size _ _ at F2
              change News _ s₁.heap.objs.size _ _ at N2
              dsimp only
              repeat' ((fail_if_success (with_reducible show LCg.CompSrc _ _ _ _ _ _ _ _ _ _ _ _ _ _)); first | (k_unfold; (try dsimp only)) | (k_end; wrow_close) | walk1 | (dsimp only; walk1) | (leave1; walk_say "STEP leave1"; try dsimp only))
              rename StrsAre _ _ => hnv
              refine LCg.CompSrc.ledger (by rfl) (by k_asm) (by k_asm) (by k_mem) (comp_fit hnv (by omega)) ?_
              intro g9
              refine comp_pairs (Str.ofString "DNS") hnv (fun ext => Or.inr ⟨_, List.mem_append_left _ (by k_mem), rfl, _, rfl⟩) (fun z t I oI C oC D m₂ ys nw h tk E' hz hC hx F' N' => ?_) (fun ys3 ext hys3 => ?_)
              · repeat' first | exact ⟨_, _, _, _, _, _, rfl, by k_asm, by k_asm, rfl, by omega, by omega, by omega⟩ | (k_unfold; (try dsimp only)) | (k_end; wrow_close) | walk1 | (dsimp only; walk1) | (leave1; walk_say "STEP leave1"; try dsimp only)
              · have hyl3 : ys3.length ≤ 5 := by rw [hys3.length, List.length_map]; omega
                repeat' ((fail_if_success (with_reducible show wpAny _ _ (execs (Stmt.If _ _ _ _ :: _) _) _ _ _)); first | (k_unfold; (try dsimp only)) | (k_end; wrow_close) | walk1 | (dsimp only; walk1) | (leave1; walk_say "STEP leave1"; try dsimp only))
                have hps3 : ∀ p ∈ (xs9.map fun x => (Str.ofString "DNS", x)), Good p.2 := by
                  intro p hp
                  obtain ⟨x, hx, rfl⟩ := List.mem_map.mp hp
                  exact hxs9 x hx
                have hpl3 : (xs9.map fun x => (Str.ofString "DNS", x)).length ≤ 10 := by rw [List.length_map]; omega
                refine law_cut2 (by k_asm) (by k_asm) ?_ (fun h8 tk8 F8 N8 => ?_)
                · repeat' ((fail_if_success (with_reducible show wpAny _ _ (call (Value.ref 66) _) _ _ _)); first | (k_unfold; (try dsimp only)) | (k_end; wrow_close) | walk1 | (dsimp only; walk1) | (leave1; walk_say "STEP leave1"; try dsimp only))
                  (k_here; (with_reducible rename Obj.IsDictOf _ _ _ => hD8); (with_reducible rename ((_ : Nat) == _) = false => hlo8); k_dflt (refine taken_call (ps := (xs9.map fun x => (Str.ofString "DNS", x))) (rows := []) (by k_asm) (by k_asm) (by k_asm) (by k_asm) (by k_asm) (by exact rfl) (by ktr_room) (by ktr_units) hy9.1 hy9.2 hy9.repr (by k_mem) hD8 hlo8 (Nat.le_of_ble_eq_true rfl) (by rfl) rfl rfl ?san ?ps ?pl ?sub ?rs ?rl (fun h9 tk9 F9 N9 => ?_)))
                  case san => exact .inl ⟨_, _, _, by with_unfolding_all rfl, by k_mem, hys3.mono (by (intro p hp; first | ((repeat (first | exact hp | exact List.mem_append_left _ hp | exact List.mem_append_right _ hp | refine List.mem_cons_of_mem _ ?_)); done) | (simp only [List.mem_cons, List.mem_append, hp, true_or, or_true])))⟩
                  case sub => exact .inr ⟨by with_unfolding_all rfl, rfl⟩
                  case ps => exact hps3
                  case pl => exact hpl3
                  case rs => exact fun _ h => nomatch h
                  case rl => simp
                  rw [names_taken false]
                  repeat' ((fail_if_success (with_reducible show wpAny _ _ (call (Value.ref 66) _) _ _ _)); first | (k_unfold; (try dsimp only)) | (k_end; wrow_close) | walk1 | (dsimp only; walk1) | (leave1; walk_say "STEP leave1"; try dsimp only))
                  (k_here; (with_reducible rename Obj.IsDictOf _ _ _ => hD8); (with_reducible rename ((_ : Nat) == _) = false => hlo8); k_dflt (refine taken_call (ps := (xs9.map fun x => (Str.ofString "DNS", x))) (rows := []) (by k_asm) (by k_asm) (by k_asm) (by k_asm) (by k_asm) (by exact rfl) (by ktr_room) (by ktr_units) hy9.1 hy9.2 hy9.repr (by k_mem) hD8 hlo8 (Nat.le_of_ble_eq_true rfl) (by rfl) rfl rfl ?san ?ps ?pl ?sub ?rs ?rl (fun h9 tk9 F9 N9 => ?_)))
                  case san => exact .inl ⟨_, _, _, by with_unfolding_all rfl, by k_mem, hys3.mono (by (intro p hp; first | ((repeat (first | exact hp | exact List.mem_append_left _ hp | exact List.mem_append_right _ hp | refine List.mem_cons_of_mem _ ?_)); done) | (simp only [List.mem_cons, List.mem_append, hp, true_or, or_true])))⟩
                  case sub => exact .inl ⟨_, _, _, by with_unfolding_all rfl, by k_mem, .nil⟩
                  case ps => exact hps3
                  case pl => exact hpl3
                  case rs => exact fun _ h => nomatch h
                  case rl => simp
                  rw [names_taken true]
                  repeat' first | ((with_reducible show LawC _ _ _ _ _ _); exact LawC.intro (by k_asm) (by k_asm) (by (intro p hp; first | ((repeat (first | exact hp | exact List.mem_append_left _ hp | exact List.mem_append_right _ hp | refine List.mem_cons_of_mem _ ?_)); done) | (simp only [List.mem_cons, List.mem_append, hp, true_or, or_true])))) | (k_unfold; (try dsimp only)) | (k_end; wrow_close) | walk1 | (dsimp only; walk1) | (leave1; walk_say "STEP leave1"; try dsimp only)
                · refine law_cut2 (by k_asm) (by k_asm) ?_ (fun h8 tk8 F8 N8 => ?_)
                  · repeat' ((fail_if_success (with_reducible show wpAny _ _ (call (Value.ref 66) _) _ _ _)); first | ((with_reducible show LawC _ _ _ _ _ _); exact LawC.intro (by k_asm) (by k_asm) (by (intro p hp; first | ((repeat (first | exact hp | exact List.mem_append_left _ hp | exact List.mem_append_right _ hp | refine List.mem_cons_of_mem _ ?_)); done) | (simp only [List.mem_cons, List.mem_append, hp, true_or, or_true])))) | (k_unfold; (try dsimp only)) | (k_end; wrow_close) | walk1 | (dsimp only; walk1) | (leave1; walk_say "STEP leave1"; try dsimp only))
                    have hnm : ∀ x ∈ xs9, manyB x = false := none_many (by assumption)
                    (k_here; (with_reducible rename Obj.IsDictOf _ _ _ => hD8); (with_reducible rename ((_ : Nat) == _) = false => hlo8); k_dflt (refine taken_call (ps := (xs9.map fun x => (Str.ofString "DNS", x)).reverse) (rows := []) (by k_asm) (by k_asm) (by k_asm) (by k_asm) (by k_asm) (by exact rfl) (by ktr_room) (by ktr_units) hy9.1 hy9.2 hy9.repr (by k_mem) hD8 hlo8 (Nat.le_of_ble_eq_true rfl) (by rfl) rfl rfl ?san ?ps ?pl ?sub ?rs ?rl (fun h9 tk9 F9 N9 => ?_)))
                    case san => exact .inl ⟨_, _, _, by with_unfolding_all rfl, by k_mem, hys3.rev.mono (by (intro p hp; first | ((repeat (first | exact hp | exact List.mem_append_left _ hp | exact List.mem_append_right _ hp | refine List.mem_cons_of_mem _ ?_)); done) | (simp only [List.mem_cons, List.mem_append, hp, true_or, or_true])))⟩
                    case sub => exact .inr ⟨by with_unfolding_all rfl, rfl⟩
                    case ps => exact fun p hp => hps3 p (List.mem_reverse.mp hp)
                    case pl => rw [List.length_reverse]; exact hpl3
                    case rs => exact fun _ h => nomatch h
                    case rl => simp
                    rw [rev_taken true hnm]
                    repeat' first | ((with_reducible show LawC _ _ _ _ _ _); exact LawC.intro (by k_asm) (by k_asm) (by (intro p hp; first | ((repeat (first | exact hp | exact List.mem_append_left _ hp | exact List.mem_append_right _ hp | refine List.mem_cons_of_mem _ ?_)); done) | (simp only [List.mem_cons, List.mem_append, hp, true_or, or_true])))) | (k_unfold; (try dsimp only)) | (k_end; wrow_close) | walk1 | (dsimp only; walk1) | (leave1; walk_say "STEP leave1"; try dsimp only)
                  · repeat' ((fail_if_success (with_reducible show LCg.CompSrc _ _ _ _ _ _ _ _ _ _ _ _ _ _)); first | (k_unfold; (try dsimp only)) | (k_end; wrow_close) | walk1 | (dsimp only; walk1) | (leave1; walk_say "STEP leave1"; try dsimp only))
                    refine LCg.CompSrc.ledger (by rfl) (by k_asm) (by k_asm) (by k_mem) (comp_fit hnv (by omega)) ?_
                    intro g9
                    refine comp_pairs (Str.ofString "commonName") hnv (fun ext => Or.inr ⟨_, List.mem_append_left _ (by k_mem), rfl, _, rfl⟩) (fun z t I oI C oC D m₂ ys nw h tk E' hz hC hx F' N' => ?_) (fun ys4 ext2 hys4 => ?_)
                    · repeat' first | exact ⟨_, _, _, _, _, _, rfl, by k_asm, by k_asm, rfl, by omega, by omega, by omega⟩ | (k_unfold; (try dsimp only)) | (k_end; wrow_close) | walk1 | (dsimp only; walk1) | (leave1; walk_say "STEP leave1"; try dsimp only)
                    · have hyl4 : ys4.length ≤ 5 := by rw [hys4.length, List.length_map]; omega
                      repeat' ((fail_if_success (with_reducible show LCg.CompSrc _ _ _ _ _ _ _ _ _ _ _ _ _ _)); first | (k_unfold; (try dsimp only)) | (k_end; wrow_close) | walk1 | (dsimp only; walk1) | (leave1; walk_say "STEP leave1"; try dsimp only))
                      refine LCg.CompSrc.ledger (by rfl) (by k_asm) (by k_asm) (by k_mem) (by rw [List.size_toArray, sizeLine_eq]; omega) ?_
                      intro g9
                      refine comp_rows (hys4.mono (by (intro p hp; first | ((repeat (first | exact hp | exact List.mem_append_left _ hp | exact List.mem_append_right _ hp | refine List.mem_cons_of_mem _ ?_)); done) | (simp only [List.mem_cons, List.mem_append, hp, true_or, or_true])))) (fun ext => Or.inr ⟨_, List.mem_append_left _ (by k_mem), rfl, _, rfl⟩) (fun z I oI C oC D m₂ ys nw h tk E' hC hx F' N' => ?_) (fun ys5 ext3 hys5 => ?_)
                      · repeat' first | exact ⟨_, _, _, _, rfl, by k_asm, by k_asm, rfl, by omega, by omega, by omega⟩ | (k_unfold; (try dsimp only)) | (k_end; wrow_close) | walk1 | (dsimp only; walk1) | (leave1; walk_say "STEP leave1"; try dsimp only)
                      · have hyl5 : ys5.length ≤ 5 := by rw [hys5.length, List.length_map, List.length_map]; omega
                        repeat' ((fail_if_success (with_reducible show wpAny _ _ (execs (Stmt.For _ _ _ _ _ :: _) _) _ _ _)); first | (k_unfold; (try dsimp only)) | (k_end; wrow_close) | walk1 | (dsimp only; walk1) | (leave1; walk_say "STEP leave1"; try dsimp only))
                        refine law_cut3 (by k_asm) (by k_asm) rfl rfl rfl ?_ (fun m8 h8 tk8 F8 N8 => ?_)
                        · repeat' first | (k_unfold; (try dsimp only)) | (k_end; wrow_close) | walk1 | (dsimp only; walk1) | (leave1; walk_say "STEP leave1"; try dsimp only)
                          refine loop_subj (y := y) _ rfl (by passes_own) (by k_asm) (by k_asm) (fun p hp => hp) (by k_mem) rfl rfl rfl ?_ ?_ ?_
                          · intro v hv
                            rcases List.mem_cons.mp hv with rfl | hv
                            · exact subj_one hxs9 hx9 (by k_mem) (by k_mem) (hys4.mono (by (intro p hp; first | ((repeat (first | exact hp | exact List.mem_append_left _ hp | exact List.mem_append_right _ hp | refine List.mem_cons_of_mem _ ?_)); done) | (simp only [List.mem_cons, List.mem_append, hp, true_or, or_true]))))
                            rcases List.mem_cons.mp hv with rfl | hv
                            · exact subj_each hxs9 hx9 (by k_mem) ((rows_map hys5).mono (by (intro p hp; first | ((repeat (first | exact hp | exact List.mem_append_left _ hp | exact List.mem_append_right _ hp | refine List.mem_cons_of_mem _ ?_)); done) | (simp only [List.mem_cons, List.mem_append, hp, true_or, or_true]))))
                            rcases List.mem_cons.mp hv with rfl | hv
                            · exact subj_org hy9 hxs9 hx9 (by k_mem) (by k_mem) (by k_mem) ((rows_map hys5).mono (by (intro p hp; first | ((repeat (first | exact hp | exact List.mem_append_left _ hp | exact List.mem_append_right _ hp | refine List.mem_cons_of_mem _ ?_)); done) | (simp only [List.mem_cons, List.mem_append, hp, true_or, or_true]))))
                            · exact nomatch hv
                          · intro a9 us9 n9 rows9 m₁ I oI h tk r1 r2 r3 r4 r5 hoff F2 N2
                            unfold mSubj at F2
                            change Fr _ s₁.heap.objs.size _ _ at F2
                            change News _ s₁.heap.objs.size _ _ at N2
                            repeat' ((fail_if_success (with_reducible show wpAny _ _ (call (Value.ref 66) _) _ _ _)); first | (k_unfold; (try dsimp only)) | (k_end; wrow_close) | walk1 | (dsimp only; walk1) | (leave1; walk_say "STEP leave1"; try dsimp only))
                            (k_here; (with_reducible rename Obj.IsDictOf _ _ _ => hD8); (with_reducible rename ((_ : Nat) == _) = false => hlo8); k_dflt (refine taken_call (ps := []) (rows := rows9) (by k_asm) (by k_asm) (by k_asm) (by k_asm) (by k_asm) (by exact rfl) (by ktr_room) (by ktr_units) hy9.1 hy9.2 hy9.repr (by k_mem) hD8 hlo8 (Nat.le_of_ble_eq_true rfl) (by rfl) rfl rfl ?san ?ps ?pl ?sub ?rs ?rl (fun h9 tk9 F9 N9 => ?_)))
                            case san => exact .inr ⟨by with_unfolding_all rfl, rfl⟩
                            case sub => exact .inl ⟨_, _, _, by with_unfolding_all rfl, by k_mem, r2.mono (by (intro p hp; first | ((repeat (first | exact hp | exact List.mem_append_left _ hp | exact List.mem_append_right _ hp | refine List.mem_cons_of_mem _ ?_)); done) | (simp only [List.mem_cons, List.mem_append, hp, true_or, or_true])))⟩
                            case ps => exact fun _ h => nomatch h
                            case pl => simp
                            case rs => exact r3
                            case rl => exact r4
                            rw [r5]
                            repeat' ((fail_if_success (with_reducible show wpAny _ _ (call (Value.ref 66) _) _ _ _)); first | ((with_reducible show SubjEnd _ _ _ _ _ _ _ _ _ _ (Flow.ret _) _); exact (bne_no (by with_reducible assumption)).elim) | (k_unfold; (try dsimp only)) | (k_end; wrow_close) | walk1 | (dsimp only; walk1) | (leave1; walk_say "STEP leave1"; try dsimp only))
                            (k_here; (with_reducible rename Obj.IsDictOf _ _ _ => hD8); (with_reducible rename ((_ : Nat) == _) = false => hlo8); k_dflt (refine taken_call (ps := []) (rows := rows9) (by k_asm) (by k_asm) (by k_asm) (by k_asm) (by k_asm) (by exact rfl) (by ktr_room) (by ktr_units) hy9.1 hy9.2 hy9.repr (by k_mem) hD8 hlo8 (Nat.le_of_ble_eq_true rfl) (by rfl) rfl rfl ?san ?ps ?pl ?sub ?rs ?rl (fun h9 tk9 F9 N9 => ?_)))
                            case san => exact .inr ⟨by with_unfolding_all rfl, rfl⟩
                            case sub => exact .inl ⟨_, _, _, by with_unfolding_all rfl, by k_mem, r2.mono (by (intro p hp; first | ((repeat (first | exact hp | exact List.mem_append_left _ hp | exact List.mem_append_right _ hp | refine List.mem_cons_of_mem _ ?_)); done) | (simp only [List.mem_cons, List.mem_append, hp, true_or, or_true])))⟩
                            case ps => exact fun _ h => nomatch h
                            case pl => simp
                            case rs => exact r3
                            case rl => exact r4
                            rw [off_taken]
                            repeat' ((fail_if_success (with_reducible show wpAny _ _ (call (Value.ref 66) _) _ _ _)); first | ((with_reducible show SubjEnd _ _ _ _ _ _ _ _ _ _ (Flow.ret _) _); exact (bne_no (by with_reducible assumption)).elim) | (k_unfold; (try dsimp only)) | (k_end; wrow_close) | walk1 | (dsimp only; walk1) | (leave1; walk_say "STEP leave1"; try dsimp only))
                            (k_here; (with_reducible rename Obj.IsDictOf _ _ _ => hD8); (with_reducible rename ((_ : Nat) == _) = false => hlo8); k_dflt (refine taken_call (ps := [(Str.ofString "IP Address", Str.ofString "192.0.2.7")]) (rows := rows9) (by k_asm) (by k_asm) (by k_asm) (by k_asm) (by k_asm) (by exact rfl) (by ktr_room) (by ktr_units) hy9.1 hy9.2 hy9.repr (by k_mem) hD8 hlo8 (Nat.le_of_ble_eq_true rfl) (by rfl) rfl rfl ?san ?ps ?pl ?sub ?rs ?rl (fun h9 tk9 F9 N9 => ?_)))
                            case san => exact .inl ⟨_, _, _, by with_unfolding_all rfl, by k_mem, .cons (by k_mem) .nil⟩
                            case sub => exact .inl ⟨_, _, _, by with_unfolding_all rfl, by k_mem, r2.mono (by (intro p hp; first | ((repeat (first | exact hp | exact List.mem_append_left _ hp | exact List.mem_append_right _ hp | refine List.mem_cons_of_mem _ ?_)); done) | (simp only [List.mem_cons, List.mem_append, hp, true_or, or_true])))⟩
                            case ps => exact good_addr
                            case pl => simp
                            case rs => exact r3
                            case rl => exact r4
                            rw [addr_taken]
                            repeat' first | ((with_reducible show SubjEnd _ _ _ _ _ _ _ _ _ _ (Flow.ret _) _); exact (bne_no (by with_reducible assumption)).elim) | ((with_reducible show SubjEnd _ _ _ _ _ _ _ _ _ _ _ _); exact SubjEnd.intro (.inl rfl) (by k_asm) rfl rfl rfl (by k_asm) (by (intro p hp; first | ((repeat (first | exact hp | exact List.mem_append_left _ hp | exact List.mem_append_right _ hp | refine List.mem_cons_of_mem _ ?_)); done) | (simp only [List.mem_cons, List.mem_append, hp, true_or, or_true])))) | (k_unfold; (try dsimp only)) | (k_end; wrow_close) | walk1 | (dsimp only; walk1) | (leave1; walk_say "STEP leave1"; try dsimp only)
                          · intro m₁ h tk F2 N2
                            change Fr _ s₁.heap.objs.size _ _ at F2
                            change News _ s₁.heap.objs.size _ _ at N2
                            exact ⟨m₁, LawC.intro F2 N2 (by (intro p hp; first | ((repeat (first | exact hp | exact List.mem_append_left _ hp | exact List.mem_append_right _ hp | refine List.mem_cons_of_mem _ ?_)); done) | (simp only [List.mem_cons, List.mem_append, hp, true_or, or_true])))⟩
                        · unfold mSubj at F8
                          repeat' ((fail_if_success (with_reducible show wpAny _ _ (call (Value.ref 66) _) _ _ _)); first | (k_unfold; (try dsimp only)) | (k_end; wrow_close) | walk1 | (dsimp only; walk1) | (leave1; walk_say "STEP leave1"; try dsimp only))
                          (k_here; (with_reducible rename Obj.IsDictOf _ _ _ => hD8); (with_reducible rename ((_ : Nat) == _) = false => hlo8); k_dflt (refine taken_call (ps := (xs9.map fun x => (Str.ofString "DNS", x))) (rows := [xs9.map fun x => (Str.ofString "commonName", x)]) (by k_asm) (by k_asm) (by k_asm) (by k_asm) (by k_asm) (by exact rfl) (by ktr_room) (by ktr_units) hy9.1 hy9.2 hy9.repr (by k_mem) hD8 hlo8 (Nat.le_of_ble_eq_true rfl) (by rfl) rfl rfl ?san ?ps ?pl ?sub ?rs ?rl (fun h9 tk9 F9 N9 => ?_)))
                          case san => exact .inl ⟨_, _, _, by with_unfolding_all rfl, by k_mem, hys3.mono (by (intro p hp; first | ((repeat (first | exact hp | exact List.mem_append_left _ hp | exact List.mem_append_right _ hp | refine List.mem_cons_of_mem _ ?_)); done) | (simp only [List.mem_cons, List.mem_append, hp, true_or, or_true])))⟩
                          case sub => exact .inl ⟨_, _, _, by with_unfolding_all rfl, by k_mem, .cons (by k_mem) (hys4.mono (by (intro p hp; first | ((repeat (first | exact hp | exact List.mem_append_left _ hp | exact List.mem_append_right _ hp | refine List.mem_cons_of_mem _ ?_)); done) | (simp only [List.mem_cons, List.mem_append, hp, true_or, or_true])))) .nil⟩
                          case ps => exact hps3
                          case pl => exact hpl3
                          case rs => exact good_one hxs9
                          case rl => exact sum_one hx9
                          rw [both_taken]
                          repeat' first | (k_unfold; (try dsimp only)) | (k_end; wrow_close) | walk1 | (dsimp only; walk1) | (leave1; walk_say "STEP leave1"; try dsimp only)))
end Aj
end

set_option maxRecDepth 100000 in
set_option maxHeartbeats 8000000 in
theorem PySem.Challenge.cw_aj5040_01_holds : PySem.Challenge.rw_aj5040_01.Holds :=
  Aj.law1
