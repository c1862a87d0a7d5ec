import PyProof.Rows.All
import Wide.All
import OpenK.AllK
import Wide.FinOn
import PySem.Challenge.RW_ci0010_01
open PySem PySem.W PyProof.Rows
set_option Elab.async false
set_option maxRecDepth 100000
set_option maxHeartbeats 8000000
namespace Mine1
open_top hd for PySem.Challenge.rw_ci0010_01
end Mine1
open PySem PySem.W PyProof.Rows
set_option Elab.async false
set_option maxRecDepth 100000
namespace Mine

abbrev rngObj (x left : Int) : Obj := { cls := .type "range_iterator", dict := none, data := .fields #[rawInt x, rawInt left, rawInt 1], slots := #[] }

/-- what a turn of a loop ends in: the iterator's object stands as it stood -/
def TurnPost (h₀ : Heap) (L : Addr) (J : (Str → Option Value) → List (Addr × Obj) → Prop) (I : Addr) (o : Obj) (s₁ : Shared) (Q : Flow → Shared → Prop) (f : Flow) (s₂ : Shared) : Prop :=
  match f with
  | .ret v => Q (.ret v) s₂
  | .brk => Q .next s₂
  | _ => ∃ h' tk m' nx, s₂ = { s₁ with heap := h', toks := tk } ∧ Fr h₀ L h' m' ∧ News h₀ L h' ((I, o) :: nx) ∧ (∀ p ∈ nx, p.1 ≠ I) ∧ J m' nx

section
variable {prog : Program} {w : World} {A : Around} {E : Value → Shared → Prop} {s : Shared} {env : Env} {h₀ : Heap} {target : PySem.Expr} {body : List Stmt} {Q : Flow → Shared → Prop}

theorem loop_list {l : Addr} {vs : List Value} {nn : Nat} {m₀ : Str → Option Value} {news : List (Addr × Obj)} (J : Nat → (Str → Option Value) → List (Addr × Obj) → Prop)
    (hh : A.handled = none) (F : Fr h₀ env.locals s.heap m₀) (N : News h₀ env.locals s.heap news) (ht : 0 < s.toks) (hj : J 0 m₀ news)
    (hJl : ∀ i m nx, J i m nx → (l, listOf vs.toArray nn) ∈ nx)
    (hgo : ∀ (I l' : Addr) (i : Nat) (v : Value) (s' : Shared) (Q' : Unit → Shared → Prop) (E' : Value → Shared → Prop), s'.heap.IsListIter I l' i → v ∈ vs → Q' () s' → wpAny (model prog w) A (letOwnedTupleGo target (.ref I) v) Q' E' s')
    (turn : ∀ i v m₁ nx h tk I o, vs[i]? = some v → 0 < tk → (∀ p ∈ nx, p.1 ≠ I) → J i m₁ nx → Fr h₀ env.locals h m₁ → News h₀ env.locals h ((I, o) :: nx) →
      wpAny (model prog w) A (assign target env v) (fun _ s₂ => wpAny (model prog w) A (execs body env) (TurnPost h₀ env.locals (J (i + 1)) I o { s with heap := h, toks := tk } Q) (fun _ _ => False) s₂) (fun _ _ => False) { s with heap := h, toks := tk })
    (done : ∀ m₁ nx h tk, 0 < tk → J vs.length m₁ nx → Fr h₀ env.locals h m₁ → News h₀ env.locals h nx → Q .next { s with heap := h, toks := tk }) :
    wpAny (model prog w) A (pyIter (.ref l)) (fun it s₂ => codeAny (model prog w) A (.forLoop target it body [] env) (fun r s' => match r with | .ok f => Q f s' | .error e => cameBackBy (model prog w) A env E e s') s₂) E s := by
  have hol : s.heap.get? l = some (listOf vs.toArray nn) := (N _ (hJl _ _ _ hj)).1
  have hls : s.heap.IsList l vs.toArray := ⟨_, hol, rfl, nn, rfl⟩
  have hIL : s.heap.objs.size ≠ env.locals := Nat.ne_of_gt F.ns.lt
  have hI0 : h₀.get? s.heap.objs.size = none := next_is_new F
  refine wpAny_pyIter_list hls ?_
  refine codeAny_forLoop_any
    (fun k s' => ∃ h' tk m' nx i, s' = { s with heap := h', toks := tk } ∧ 0 < tk ∧ h'.IsListIter s.heap.objs.size l i ∧ Fr h₀ env.locals h' m' ∧ News h₀ env.locals h' nx ∧ (∀ p ∈ nx, p.1 ≠ s.heap.objs.size) ∧ J i m' nx ∧ i ≤ vs.length ∧ k = vs.length + 1 - i) ?_ (vs.length + 1)
    ⟨_, _, m₀, news, 0, rfl, ht, ⟨_, Heap.get?_push_size _ rfl, rfl, rfl⟩, F.push _, (fun p hp => ⟨Heap.get?_push_of_some _ (N p hp).1, (N p hp).2⟩), (fun p hp => Nat.ne_of_lt (Heap.lt_size (N p hp).1)), hj, Nat.zero_le _, rfl⟩
  rintro k s' ⟨h', tk, m', nx, i, rfl, htk, hit, F', N', hoff, hJ, hi, rfl⟩
  have hl' : h'.IsList l vs.toArray := ⟨_, (N' _ (hJl _ _ _ hJ)).1, rfl, nn, rfl⟩
  cases hv : vs[i]? with
  | none =>
    have hsz : i = vs.length := Nat.le_antisymm hi (by simpa using hv)
    refine wpAny_pyNext_list_end hh hit hl' (by simpa using hv) fun h₁ he₁ => wpAny_execs_nil ?_
    refine done m' nx h₁ tk htk (hsz ▸ hJ) ⟨F'.ns.extBut he₁ hIL.symm, fun b o e => he₁ b o (fun q => by rw [q, hI0] at e; cases e) (F'.keep b o e), F'.above⟩ fun p hp => ⟨he₁ _ _ (hoff p hp) (N' p hp).1, (N' p hp).2⟩
  | some v =>
    have hlt : i < vs.length := (List.getElem?_eq_some_iff.mp hv).1
    refine wpAny_pyNext_list_item hit hl' (by simpa using hv) fun h₁ hit₁ hs₁ => ?_
    obtain ⟨oI, hoI, hcI, hdI⟩ := id hit₁
    have F₁ : Fr h₀ env.locals h₁ m' := F'.change hs₁ hIL hI0
    have N₁ : News h₀ env.locals h₁ ((s.heap.objs.size, oI) :: nx) := by
      intro p hp
      rcases List.mem_cons.mp hp with rfl | hp
      · exact ⟨hoI, hIL, hI0⟩
      · exact ⟨(hs₁.2 _ (hoff p hp)).trans (N' p hp).1, (N' p hp).2⟩
    refine hgo _ _ _ _ _ _ _ hit₁ (List.mem_of_getElem? hv) ?_
    have T := turn i v m' nx h₁ tk _ _ hv htk hoff hJ F₁ N₁
    refine wpAny_mono (wpAny_toks_of (n := 1) htk T) (fun _ s₂ h₂ => ?_) fun _ _ e => e.2.elim
    refine wpAny_mono (wpAny_toks_of (n := 1) h₂.1 h₂.2) (fun f s₃ h₃ => ?_) fun _ _ e => e.2.elim
    obtain ⟨htk₃, h₃⟩ := h₃
    have next : (∃ h' tk₂ m' nx, s₃ = { ({ s with heap := h₁, toks := tk } : Shared) with heap := h', toks := tk₂ } ∧ Fr h₀ env.locals h' m' ∧ News h₀ env.locals h' ((s.heap.objs.size, oI) :: nx) ∧ (∀ p ∈ nx, p.1 ≠ s.heap.objs.size) ∧ J (i + 1) m' nx) →
        ∃ m, m < vs.length + 1 - i ∧ ∃ h' tk m' nx i, s₃ = { s with heap := h', toks := tk } ∧ 0 < tk ∧ h'.IsListIter s.heap.objs.size l i ∧ Fr h₀ env.locals h' m' ∧ News h₀ env.locals h' nx ∧ (∀ p ∈ nx, p.1 ≠ s.heap.objs.size) ∧ J i m' nx ∧ i ≤ vs.length ∧ m = vs.length + 1 - i := by
      rintro ⟨h₄, tk₄, m₄, nx₄, rfl, F₄, N₄, hoff₄, hJ₄⟩
      exact ⟨vs.length + 1 - (i + 1), by omega, h₄, tk₄, m₄, nx₄, i + 1, rfl, htk₃, ⟨oI, (N₄ _ (.head _)).1, hcI, hdI⟩, F₄, fun p hp => N₄ p (.tail _ hp), hoff₄, hJ₄, hlt, rfl⟩
    cases f with
    | next => exact next h₃
    | cont => exact next h₃
    | brk => exact h₃
    | ret v => exact h₃

theorem loop_range {r : Addr} {b₀ : Int} {t₀ u₀ v₀ : Tok} {n : Nat} {m₀ : Str → Option Value} {news : List (Addr × Obj)} {x : Str} {px : Pos} (J : Nat → (Str → Option Value) → List (Addr × Obj) → Prop)
    (hx : env.kindOf x = some .local) (hp : (env.scope.kind == .class || (env.scope.kind == .module && env.locals != env.globals)) = false)
    (hh : A.handled = none) (hr : IsRange s.heap r 0 b₀ 1 t₀ u₀ v₀) (hsmall : Builtin.Range.small 0 b₀ 1 = true) (hn : Builtin.Range.rangeSize 0 b₀ 1 = (n : Int))
    (F : Fr h₀ env.locals s.heap m₀) (N : News h₀ env.locals s.heap news) (ht : 0 < s.toks) (hj : J 0 m₀ news)
    (turn : ∀ i t m₁ nx h tk I o, i < n → 0 < tk → (∀ p ∈ nx, p.1 ≠ I) → J i m₁ nx → Fr h₀ env.locals h (fun y => if y = x then some (.int (i : Int) t) else m₁ y) → News h₀ env.locals h ((I, o) :: nx) →
      wpAny (model prog w) A (execs body env) (TurnPost h₀ env.locals (J (i + 1)) I o { s with heap := h, toks := tk } Q) (fun _ _ => False) { s with heap := h, toks := tk })
    (done : ∀ m₁ nx h tk, 0 < tk → J n m₁ nx → Fr h₀ env.locals h m₁ → News h₀ env.locals h nx → Q .next { s with heap := h, toks := tk }) :
    wpAny (model prog w) A (pyIter (.ref r)) (fun it s₂ => codeAny (model prog w) A (.forLoop (.Name x px) it body [] env) (fun r s' => match r with | .ok f => Q f s' | .error e => cameBackBy (model prog w) A env E e s') s₂) E s := by
  have hIL : s.heap.objs.size ≠ env.locals := Nat.ne_of_gt F.ns.lt
  have hI0 : h₀.get? s.heap.objs.size = none := next_is_new F
  refine wpAny_pyIter_range hr hsmall ?_
  rw [hn]
  refine codeAny_forLoop
    (fun k s' => ∃ h' tk m' nx i, s' = { s with heap := h', toks := tk } ∧ 0 < tk ∧ IsRangeIter h' s.heap.objs.size (i : Nat) ((n : Int) - (i : Nat)) 1 ∧ Fr h₀ env.locals h' m' ∧ News h₀ env.locals h' nx ∧ (∀ p ∈ nx, p.1 ≠ s.heap.objs.size) ∧ J i m' nx ∧ i ≤ n ∧ k = n + 1 - i) ?_ (n + 1)
    ⟨_, _, m₀, news, 0, rfl, ht, (by simpa using Heap.get?_push_size _ rfl), F.push _, (fun p hp => ⟨Heap.get?_push_of_some _ (N p hp).1, (N p hp).2⟩), (fun p hp => Nat.ne_of_lt (Heap.lt_size (N p hp).1)), hj, Nat.zero_le _, rfl⟩
  rintro k s' ⟨h', tk, m', nx, i, rfl, htk, hit, F', N', hoff, hJ, hi, rfl⟩
  by_cases hlt : i < n
  · refine wpAny_pyNext_range_item hit (by omega) fun h₁ hit₁ hs₁ => ?_
    have e1 : (i : Int) + 1 = ((i + 1 : Nat) : Int) := by omega
    have e2 : (n : Int) - (i : Nat) - 1 = (n : Int) - ((i + 1 : Nat) : Int) := by omega
    rw [e1, e2] at hit₁
    have F₁ : Fr h₀ env.locals h₁ m' := F'.change hs₁ hIL hI0
    have N₁ : News h₀ env.locals h₁ ((s.heap.objs.size, rngObj ((i + 1 : Nat) : Int) ((n : Int) - ((i + 1 : Nat) : Int))) :: nx) := by
      intro p hp
      rcases List.mem_cons.mp hp with rfl | hp
      · exact ⟨hit₁, hIL, hI0⟩
      · exact ⟨(hs₁.2 _ (hoff p hp)).trans (N' p hp).1, (N' p hp).2⟩
    refine wpAny_assign_Name (wpAny_storeName_local hx F₁.ns (fun h₂ hn₂ hs₂ => ?_) hp)
    have T := turn i _ m' nx h₂ (tk + 1 + 1) _ _ hlt (Nat.succ_pos _) hoff hJ (F₁.set hn₂ hs₂) (N₁.set hs₂)
    refine wpAny_mono (wpAny_toks_of (n := 1) (Nat.succ_le_succ (Nat.zero_le _)) T) (fun f s₃ h₃ => ?_) fun _ _ e => e.2.elim
    obtain ⟨htk₃, h₃⟩ := h₃
    have next : (∃ h' tk₂ m₃ nx₃, s₃ = { ({ s with heap := h₂, toks := tk + 1 + 1 } : Shared) with heap := h', toks := tk₂ } ∧ Fr h₀ env.locals h' m₃ ∧ News h₀ env.locals h' ((s.heap.objs.size, rngObj ((i + 1 : Nat) : Int) ((n : Int) - ((i + 1 : Nat) : Int))) :: nx₃) ∧ (∀ p ∈ nx₃, p.1 ≠ s.heap.objs.size) ∧ J (i + 1) m₃ nx₃) →
        ∃ m, m < n + 1 - i ∧ ∃ h' tk m' nx i, s₃ = { s with heap := h', toks := tk } ∧ 0 < tk ∧ IsRangeIter h' s.heap.objs.size (i : Nat) ((n : Int) - (i : Nat)) 1 ∧ Fr h₀ env.locals h' m' ∧ News h₀ env.locals h' nx ∧ (∀ p ∈ nx, p.1 ≠ s.heap.objs.size) ∧ J i m' nx ∧ i ≤ n ∧ m = n + 1 - i := by
      rintro ⟨h₄, tk₄, m₄, nx₄, rfl, F₄, N₄, hoff₄, hJ₄⟩
      exact ⟨n + 1 - (i + 1), by omega, h₄, tk₄, m₄, nx₄, i + 1, rfl, htk₃, (N₄ _ (.head _)).1, F₄, fun p hp => N₄ p (.tail _ hp), hoff₄, hJ₄, hlt, rfl⟩
    cases f with
    | next => exact next h₃
    | cont => exact next h₃
    | brk => exact h₃
    | ret v => exact h₃
  · have hin : i = n := by omega
    refine wpAny_pyNext_range_end hh hit (by omega) fun h₁ he₁ => wpAny_execs_nil ?_
    exact done m' nx h₁ tk htk (hin ▸ hJ) ⟨F'.ns.extBut he₁ hIL.symm, fun b o e => he₁ b o (fun q => by rw [q, hI0] at e; cases e) (F'.keep b o e), F'.above⟩ fun p hp => ⟨he₁ _ _ (hoff p hp) (N' p hp).1, (N' p hp).2⟩

/-- what a turn of a while ends in -/
def WhilePost (h₀ : Heap) (L : Addr) (J : (Str → Option Value) → List (Addr × Obj) → Prop) (s₁ : Shared) (Q : Flow → Shared → Prop) (f : Flow) (s₂ : Shared) : Prop :=
  match f with
  | .ret v => Q (.ret v) s₂
  | .brk => Q .next s₂
  | _ => ∃ h' tk m' nx, s₂ = { s₁ with heap := h', toks := tk } ∧ Fr h₀ L h' m' ∧ News h₀ L h' nx ∧ J m' nx

theorem loop_while {test : PySem.Expr} {orelse : List Stmt} {pos : Pos} {m₀ : Str → Option Value} {news : List (Addr × Obj)} {n₀ : Nat} (J : Nat → (Str → Option Value) → List (Addr × Obj) → Prop)
    (F : Fr h₀ env.locals s.heap m₀) (N : News h₀ env.locals s.heap news) (ht : 0 < s.toks) (hj : J n₀ m₀ news)
    (turn : ∀ n m₁ nx h tk, 0 < tk → J n m₁ nx → Fr h₀ env.locals h m₁ → News h₀ env.locals h nx →
      wpAny (model prog w) A (isTrue test env (eval test env)) (fun b s₂ =>
        if b = true then wpAny (model prog w) A (execs body env) (WhilePost h₀ env.locals (fun m' nx' => ∃ n', n' < n ∧ J n' m' nx') { s with heap := h, toks := tk } Q) (fun _ _ => False) s₂
        else wpAny (model prog w) A (execs orelse env) Q (fun _ _ => False) s₂) (fun _ _ => False) { s with heap := h, toks := tk }) :
    wpAny (model prog w) A (exec (.While test body orelse pos) env) Q E s := by
  refine wpAny_While (codeAny_whileLoop (fun n s' => ∃ h₁ tk₁ m₁ nx, s' = { s with heap := h₁, toks := tk₁ } ∧ 0 < tk₁ ∧ Fr h₀ env.locals h₁ m₁ ∧ News h₀ env.locals h₁ nx ∧ J n m₁ nx) ?_ n₀ ⟨s.heap, s.toks, m₀, news, rfl, ht, F, N, hj⟩)
  rintro n s' ⟨h₁, tk₁, m₁, nx, rfl, htk, F₁, N₁, J₁⟩
  refine wpAny_mono (wpAny_toks_of (n := 1) htk (turn n m₁ nx h₁ tk₁ htk J₁ F₁ N₁)) (fun b s₂ h₂ => ?_) fun _ _ e => e.2.elim
  obtain ⟨htk₂, h₂⟩ := h₂
  cases b with
  | false =>
    simp only [Bool.false_eq_true, if_false] at h₂ ⊢
    exact wpAny_mono h₂ (fun _ _ x => x) fun _ _ e => e.elim
  | true =>
    simp only [if_true] at h₂ ⊢
    refine wpAny_mono (wpAny_toks_of (n := 1) htk₂ h₂) (fun f s₃ h₃ => ?_) fun _ _ e => e.2.elim
    obtain ⟨htk₃, h₃⟩ := h₃
    have next : (∃ h' tk₂ m' nx', s₃ = { ({ s with heap := h₁, toks := tk₁ } : Shared) with heap := h', toks := tk₂ } ∧ Fr h₀ env.locals h' m' ∧ News h₀ env.locals h' nx' ∧ ∃ n', n' < n ∧ J n' m' nx') →
        ∃ m, m < n ∧ ∃ h₁ tk₁ m₁ nx, s₃ = { s with heap := h₁, toks := tk₁ } ∧ 0 < tk₁ ∧ Fr h₀ env.locals h₁ m₁ ∧ News h₀ env.locals h₁ nx ∧ J m m₁ nx := by
      rintro ⟨h₄, tk₄, m₄, nx₄, rfl, F₄, N₄, n', hn', hJ₄⟩
      exact ⟨n', hn', h₄, tk₄, m₄, nx₄, rfl, htk₃, F₄, N₄, hJ₄⟩
    cases f with
    | next => exact next h₃
    | cont => exact next h₃
    | brk => exact h₃
    | ret v => exact h₃
end
end Mine
open PySem PySem.W PyProof.Rows
set_option Elab.async false
set_option maxRecDepth 100000
namespace Mine

/-- one sign replaced by a text, over the list of signs -/
def subC (c : Nat) (z : List Nat) (l : List Nat) : List Nat := l.flatMap fun a => if a = c then z else [a]
theorem subC_append (c : Nat) (z a b : List Nat) : subC c z (a ++ b) = subC c z a ++ subC c z b := by simp [subC]
theorem subC_free (c : Nat) (z : List Nat) : ∀ l : List Nat, c ∉ l → subC c z l = l
  | [], _ => rfl
  | k :: r, h => by
    have h1 : ¬ k = c := fun e => h (e ▸ List.mem_cons_self ..)
    have ih := subC_free c z r fun m => h (List.mem_cons_of_mem _ m)
    unfold subC at ih ⊢
    rw [List.flatMap_cons, ih, if_neg h1]; rfl
theorem subC_join (c : Nat) (z : Str) : ∀ parts : List Str, (∀ p ∈ parts, c ∉ p.cps.toList) → subC c z.cps.toList (Str.join ⟨#[c]⟩ parts).cps.toList = (Str.join z parts).cps.toList
  | [], _ => rfl
  | [p], h => subC_free c _ _ (h p (List.mem_singleton.mpr rfl))
  | p :: q :: r, h => by
    have ih := subC_join c z (q :: r) fun a ha => h a (List.mem_cons_of_mem _ ha)
    show subC c z.cps.toList (p ++ ⟨#[c]⟩ ++ Str.join ⟨#[c]⟩ (q :: r)).cps.toList = (p ++ z ++ Str.join z (q :: r)).cps.toList
    simp only [Str.cps_append, Array.toList_append]
    rw [subC_append, subC_append, ih, subC_free c _ _ (h p (List.mem_cons_self ..))]
    show p.cps.toList ++ subC c z.cps.toList [c] ++ _ = _
    have e : subC c z.cps.toList [c] = z.cps.toList := by simp [subC]
    rw [e]
theorem replace_sub (x z : Str) (c : Nat) : (Txt.replace x ⟨#[c]⟩ z).cps.toList = subC c z.cps.toList x.cps.toList := by
  rw [StrLaws.replace_one, ← subC_join c z _ (StrLaws.split_free x c), StrLaws.join_split]
theorem subC_length (c : Nat) (z : List Nat) (l : List Nat) (k : Nat) (hz : z.length ≤ k) (hk : 1 ≤ k) : (subC c z l).length ≤ k * l.length := by
  induction l with
  | nil => simp [subC]
  | cons a r ih =>
    unfold subC at ih ⊢
    rw [List.flatMap_cons, List.length_append, List.length_cons, Nat.mul_succ]
    have : (if a = c then z else [a]).length ≤ k := by
      split
      · exact hz
      · exact hk
    omega

def ampL : List Nat := [38, 97, 109, 112, 59]
def ltL : List Nat := [38, 108, 116, 59]
def gtL : List Nat := [38, 103, 116, 59]
def quL : List Nat := [38, 113, 117, 111, 116, 59]
/-- the sign told -/
def escC (a : Nat) : List Nat := if a = 38 then ampL else if a = 60 then ltL else if a = 62 then gtL else if a = 34 then quL else [a]
def escL (l : List Nat) : List Nat := l.flatMap escC
def escS (x : Str) : Str := ⟨(escL x.cps.toList).toArray⟩

theorem esc_all (l : List Nat) : subC 34 quL (subC 62 gtL (subC 60 ltL (subC 38 ampL l))) = escL l := by
  induction l with
  | nil => rfl
  | cons a r ih =>
    have e : ∀ c z, subC c z (a :: r) = (if a = c then z else [a]) ++ subC c z r := fun c z => by simp [subC]
    rw [e, subC_append, subC_append, subC_append, ih]
    show _ = escC a ++ escL r
    congr 1
    unfold escC
    by_cases h1 : a = 38
    · subst h1; decide
    · by_cases h2 : a = 60
      · subst h2; decide
      · by_cases h3 : a = 62
        · subst h3; decide
        · by_cases h4 : a = 34
          · subst h4; decide
          · simp [subC, h1, h2, h3, h4]
theorem escF_is (x : Str) : Txt.replace (Txt.replace (Txt.replace (Txt.replace x (Str.ofString "&") (Str.ofString "&amp;")) (Str.ofString "<") (Str.ofString "&lt;")) (Str.ofString ">") (Str.ofString "&gt;")) (Str.ofString "\"") (Str.ofString "&quot;") = escS x := by
  rw [show Str.ofString "&" = Str.mk #[38] from by decide +kernel, show Str.ofString "<" = Str.mk #[60] from by decide +kernel, show Str.ofString ">" = Str.mk #[62] from by decide +kernel, show Str.ofString "\"" = Str.mk #[34] from by decide +kernel]
  have e : ∀ y : Str, y.cps.toList = (escS x).cps.toList → y = escS x := fun y h => by
    cases y with | mk c => exact congrArg Str.mk (Array.toList_inj.mp h)
  apply e
  rw [replace_sub, replace_sub, replace_sub, replace_sub]
  rw [show (Str.ofString "&amp;").cps.toList = ampL from by decide +kernel, show (Str.ofString "&lt;").cps.toList = ltL from by decide +kernel, show (Str.ofString "&gt;").cps.toList = gtL from by decide +kernel, show (Str.ofString "&quot;").cps.toList = quL from by decide +kernel, esc_all]
  simp [escS]
theorem len_list (x : Str) : x.length = x.cps.toList.length := by rw [Array.length_toList]; rfl
theorem replace_len (x y z : Str) (c k : Nat) (hy : y = Str.mk #[c]) (hz : z.length ≤ k) (hk : 1 ≤ k) : (Txt.replace x y z).length ≤ k * x.length := by
  subst hy
  rw [len_list, len_list x, replace_sub]
  exact subC_length _ _ _ _ (by rw [← len_list]; exact hz) hk
theorem escC_length (a : Nat) : (escC a).length ≤ 6 := by
  unfold escC; (repeat' split) <;> simp [ampL, ltL, gtL, quL]
theorem escS_length (x : Str) : (escS x).length ≤ 6 * x.length := by
  rw [len_list, len_list x]
  show (escL x.cps.toList).toArray.toList.length ≤ _
  rw [List.toList_toArray]
  induction x.cps.toList with
  | nil => simp [escL]
  | cons a r ih =>
    have := escC_length a
    simp only [escL, List.flatMap_cons, List.length_append, List.length_cons] at ih ⊢
    omega

section
variable {prog : Program} {w : World} {A : Around} {E : Value → Shared → Prop} {s : Shared} {x y z : Str} {t u v : Nat} {Q : Value → Shared → Prop}
theorem replace_step (c k n : Nat) (ht : 0 < s.toks) (hu : 0 < u) (huv : v = u + 1) (hy : y = Str.mk #[c]) (hyz : (y == z) = false) (hx : x.length ≤ n) (hz : z.length ≤ k) (hk : 1 ≤ k) (hb : n + (n + 1) * k ≤ 16777216)
    (hq : ∀ t' tk, 0 < tk → (Txt.replace x y z).length ≤ k * n → Q (.str (Txt.replace x y z) t') { s with toks := tk }) : wpAny (model prog w) A (call (.builtin "str.replace") [.str x t, .str y u, .str z v]) Q E s := by
  have hl : (Txt.replace x y z).length ≤ k * n := Nat.le_trans (replace_len x y z c k hy hz hk) (Nat.mul_le_mul_left _ hx)
  refine wpAny_with_toks (n := 1) ht (SC.replace (Nat.ne_of_gt hu) (huv ▸ Nat.succ_ne_zero u) (huv ▸ (Nat.ne_of_lt (Nat.lt_succ_self u))) hyz ?_ fun t' tk htk => hq t' tk htk hl)
  have h1 : (x.length + 1) * z.length ≤ (n + 1) * k := Nat.mul_le_mul (by omega) hz
  omega
end
/-- what comes back from a call that leaves the caller's things as they stood -/
def Back (h₀ : Heap) (L : Addr) (m : Str → Option Value) (news : List (Addr × Obj)) (s : Shared) (R : Tok → Value) (v : Value) (s' : Shared) : Prop :=
  ∃ t h' tk', v = R t ∧ s' = { s with heap := h', toks := tk' } ∧ Fr h₀ L h' m ∧ News h₀ L h' news
theorem wpAny_back {M : Model} {A : Around} {t : Sem Value} {E : Value → Shared → Prop} {Q : Value → Shared → Prop} {s : Shared} {h₀ : Heap} {L : Addr} {m : Str → Option Value} {news : List (Addr × Obj)} {R : Tok → Value}
    (hpos : 0 < s.toks) (hret : ∀ t h' tk', 0 < tk' → Fr h₀ L h' m → News h₀ L h' news → Q (R t) { s with heap := h', toks := tk' })
    (h : wpAny M A t (Back h₀ L m news s R) E s) : wpAny M A t Q E s :=
  wpAny_mono (wpAny_toks_of (n := 1) hpos h) (fun v s' ⟨hk, t, h', tk', e, e', F, N⟩ => by subst e; subst e'; exact hret t h' tk' hk F N) fun _ _ e => e.2
theorem gen_toks {α : Type} {M : Model} {A : Around} {t : Sem α} {Q : α → Shared → Prop} {E : Value → Shared → Prop} {hp : Heap} {g : Array GenState} {d : Drawn} {X : Nat} {o : OsState} (hX : 0 < X)
    (h : ∀ tk, 0 < tk → wpAny M A t Q E ⟨hp, g, d, tk, o⟩) : wpAny M A t Q E ⟨hp, g, d, X, o⟩ := h X hX
def EscOk (prog : Program) (w : World) (K : Frag) (p : Program) (loose : List Str) (mean : ExcName → Option Value) (mg mb : Str → Option Value) (f : Addr) : Prop :=
  ∀ (dp un : Nat) (gd : Option (List Code)) (cn : Str) (cs : Scope) (a : Addr) (ccd : Value) (cl : List (Str × Addr)) (outer : List Env) (A₀ : Around) (base h₀ : Heap) (L : Addr) (m : Str → Option Value) (news : List (Addr × Obj)) (s : Shared) (x : Str) (tk : Tok) (Q E : Value → Shared → Prop),
    Below A₀ base outer h₀ → Fr h₀ L s.heap m → K.In h₀ → News h₀ L s.heap news → Top p loose mean mg mb h₀ → cs.kind = .function → 0 < s.toks →
    x.length ≤ 8 → dp + 1 < recursionLimit → un + 8 < cLine →
    (∀ t h' tk', 0 < tk' → Fr h₀ L h' m → News h₀ L h' news → Q (.str (escS x) t) { s with heap := h', toks := tk' }) →
    wpAny (model prog w) (ktrTop dp un gd cn cs L a ccd cl outer) (call (.ref f) [.str x tk]) Q E s

theorem esc_use {prog : Program} {w : World} {K : Frag} {p : Program} {loose : List Str} {mean : ExcName → Option Value} {mg mb : Str → Option Value} {f : Addr} {dp un : Nat} {gd : Option (List Code)} {cn : Str} {cs : Scope} {a : Addr} {ccd : Value} {cl : List (Str × Addr)} {outer : List Env} {A₀ : Around} {base h₀ : Heap} {L : Addr} {m : Str → Option Value} {news : List (Addr × Obj)} {s : Shared} {x : Str} {tk : Tok} {Q E : Value → Shared → Prop}
    (C : EscOk prog w K p loose mean mg mb f) (B : Below A₀ base outer h₀) (F : Fr h₀ L s.heap m) (X : K.In h₀) (N : News h₀ L s.heap news) (T : Top p loose mean mg mb h₀) (hk : cs.kind = .function) (hpos : 0 < s.toks) (hx : x.length ≤ 8) (hd : dp + 1 < recursionLimit) (hu : un + 8 < cLine)
    (ret : ∀ t h' tk', 0 < tk' → Fr h₀ L h' m → News h₀ L h' news → Q (.str (escS x) t) { s with heap := h', toks := tk' }) :
    wpAny (model prog w) (ktrTop dp un gd cn cs L a ccd cl outer) (call (.ref f) [.str x tk]) Q E s :=
  C _ _ _ _ _ _ _ _ _ _ _ _ _ _ _ _ _ _ _ _ B F X N T hk hpos hx hd hu ret
end Mine
open PySem PySem.W PyProof.Rows
set_option Elab.async false
namespace Mine

/-- a row of the table of contents: its level, its name, its text -/
abbrev RowT := Int × Str × Str
def RowIn (news : List (Addr × Obj)) (v : Value) (r : RowT) : Prop :=
  ∃ T n t1 t2 t3, v = .ref T ∧ (T, ({ cls := .type "tuple", data := .seq [Value.int r.1 t1, Value.str r.2.1 t2, Value.str r.2.2 t3].toArray n } : Obj)) ∈ news
inductive RowsIn (news : List (Addr × Obj)) : List Value → List RowT → Prop
  | nil : RowsIn news [] []
  | cons {v : Value} {vs : List Value} {r : RowT} {rs : List RowT} : RowIn news v r → RowsIn news vs rs → RowsIn news (v :: vs) (r :: rs)
theorem RowIn.mono {news news' : List (Addr × Obj)} {v : Value} {r : RowT} (h : RowIn news v r) (hs : ∀ p ∈ news, p ∈ news') : RowIn news' v r := by
  obtain ⟨T, n, t1, t2, t3, e, hm⟩ := h
  exact ⟨T, n, t1, t2, t3, e, hs _ hm⟩
theorem RowsIn.mono {news news' : List (Addr × Obj)} {vs : List Value} {rs : List RowT} (h : RowsIn news vs rs) (hs : ∀ p ∈ news, p ∈ news') : RowsIn news' vs rs := by
  induction h with
  | nil => exact .nil
  | cons h _ ih => exact .cons (h.mono hs) ih
theorem RowsIn.length {news : List (Addr × Obj)} {vs : List Value} {rs : List RowT} (h : RowsIn news vs rs) : vs.length = rs.length := by
  induction h with
  | nil => rfl
  | cons _ _ ih => rw [List.length_cons, List.length_cons, ih]
theorem RowsIn.get {news : List (Addr × Obj)} {vs : List Value} {rs : List RowT} (h : RowsIn news vs rs) {i : Nat} {v : Value} (hv : vs[i]? = some v) : ∃ r, rs[i]? = some r ∧ RowIn news v r := by
  induction h generalizing i with
  | nil => cases hv
  | cons h _ ih =>
    cases i with
    | zero => cases hv; exact ⟨_, rfl, h⟩
    | succ i => exact ih hv
theorem RowsIn.snoc {news : List (Addr × Obj)} {vs : List Value} {rs : List RowT} (h : RowsIn news vs rs) {v : Value} {r : RowT} (hr : RowIn news v r) : RowsIn news (vs ++ [v]) (rs ++ [r]) := by
  induction h with
  | nil => exact .cons hr .nil
  | cons h _ ih => exact .cons h ih

def sLi : Str := Str.ofString "<li>"
def sNext : Str := Str.ofString "</li>\n<li>"
def sDown : Str := Str.ofString "\n<ul>\n<li>"
def sUpNext : Str := Str.ofString "</li>\n</ul>\n</li>\n<li>"
def sUp : Str := Str.ofString "</li>\n</ul>\n"
def sUl : Str := Str.ofString "<ul>\n"
def itemS (k t : Str) : Str := Str.ofString "<a href=\"#" ++ escS k ++ Str.ofString "\">" ++ t ++ Str.ofString "</a>"

/-- the pops of a turn that goes up; the stack's top is the head -/
def popS (lv : Int) (it : Str) : Str → List Int → Str × List Int
  | s, [] => (s ++ (sNext ++ it), [lv])
  | s, x :: r => if lv = x then (s ++ (sUpNext ++ it), lv :: r) else if lv > x then (s ++ (sNext ++ it), lv :: x :: r) else popS lv it (s ++ sUp) r
def stepS (st : Str × List Int) (lv : Int) (it : Str) : Str × List Int :=
  match st with
  | (s, []) => (s ++ (sLi ++ it), [lv])
  | (s, x :: r) => if lv = x then (s ++ (sNext ++ it), x :: r) else if lv > x then (s ++ (sDown ++ it), lv :: x :: r) else popS lv it s r
def foldS (st : Str × List Int) (rows : List RowT) : Str × List Int := rows.foldl (fun st r => stepS st r.1 (itemS r.2.1 r.2.2)) st
def closeS : Str → List Int → Str
  | s, _ :: y :: r => closeS (s ++ sUp) (y :: r)
  | s, _ => s
def renS (rows : List RowT) : Str :=
  match rows with
  | [] => Str.ofString ""
  | rows => let st := foldS (Str.ofString "", []) rows
    if (closeS st.1 st.2).length = 0 then Str.ofString "" else sUl ++ closeS st.1 st.2 ++ sUp

section
variable {prog : Program} {w : World} {A : Around} {E : Value → Shared → Prop} {s : Shared} {h₀ : Heap} {L D : Addr} {m : Str → Option Value} {news news' : List (Addr × Obj)} {vs : List Value} {v : Value} {n : Nat}
theorem lt_is (N : News h₀ L s.heap news) (hm : (D, listOf vs.toArray n) ∈ news) : s.heap.IsList D vs.toArray := ⟨_, (N _ hm).1, rfl, n, rfl⟩
theorem lt_truthy {Q : Bool → Shared → Prop} (N : News h₀ L s.heap news) (hm : (D, listOf vs.toArray n) ∈ news) (hz : vs.length ≤ 1000) (h : Q (!vs.isEmpty) { s with toks := s.toks + 1 + 1 }) :
    wpAny (model prog w) A (truthy (.ref D)) Q E s := by
  refine wpAny_truthy_list (lt_is N hm) (by rw [List.size_toArray]; omega) ?_
  have e : vs.toArray.isEmpty = vs.isEmpty := by cases vs <;> rfl
  rw [e]; exact h
theorem lt_last {value slice : PySem.Expr} {u : Tok} {Q : Value → Shared → Prop} (N : News h₀ L s.heap news) (hm : (D, listOf (vs ++ [v]).toArray n) ∈ news) (hz : vs.length ≤ 1000) (h : Q v s)
    (hs : subscripted slice false (.ref D) (.int (-1) u) = operate [.ref D, .int (-1) u] (getItem (.ref D) (.int (-1) u)) := by with_unfolding_all rfl) :
    wpAny (model prog w) A (subscriptTail value slice (.ref D) (.int (-1) u)) Q E s := by
  have hl := lt_is N hm
  refine tail_any hl.typeIs slot_list_getitem.lookup (wpAny_getItem_list_neg hl (by decide) ?_ (by decide) ?_ h) hs
  · rw [List.size_toArray, List.length_append, List.length_singleton]; omega
  · rw [List.size_toArray, List.length_append, List.length_singleton]
    have e : ((-1 : Int) + ((vs.length + 1 : Nat) : Int)).toNat = vs.length := by omega
    rw [e]; simp
theorem lt_get {k : Int} {u : Tok} {Q : Value → Shared → Prop} (N : News h₀ L s.heap news) (hm : (D, listOf vs.toArray n) ∈ news) (h0 : 0 ≤ k) (h1 : k < 1000) (hx : vs[k.toNat]? = some v) (h : Q v s) :
    wpAny (model prog w) A (getItem (.ref D) (.int k u)) Q E s := wpAny_getItem_list (lt_is N hm) h0 (by omega) (by simpa using hx) h
theorem lt_item {value slice : PySem.Expr} {k : Int} {u : Tok} {Q : Value → Shared → Prop} (N : News h₀ L s.heap news) (hm : (D, listOf vs.toArray n) ∈ news) (h0 : 0 ≤ k) (h1 : k < 1000) (hx : vs[k.toNat]? = some v) (h : Q v s)
    (hs : subscripted slice false (.ref D) (.int k u) = operate [.ref D, .int k u] (getItem (.ref D) (.int k u)) := by with_unfolding_all rfl) :
    wpAny (model prog w) A (subscriptTail value slice (.ref D) (.int k u)) Q E s :=
  tail_any (lt_is N hm).typeIs slot_list_getitem.lookup (lt_get N hm h0 h1 hx h) hs
theorem lt_len {Q : Value → Shared → Prop} (N : News h₀ L s.heap news) (hm : (D, listOf vs.toArray n) ∈ news) (hz : vs.length ≤ 1000) (h : Q (.int (vs.length : Int) (s.toks + 1)) { s with toks := s.toks + 1 + 1 }) :
    wpAny (model prog w) A (call (.builtin "len") [.ref D]) Q E s := kst_len N hm rfl (by omega) h
theorem lt_append {x : Value} {Q : Value → Shared → Prop} (F : Fr h₀ L s.heap m) (N : News h₀ L s.heap news) (U : Upd D (listOf vs.toArray n) (listOf (vs ++ [x]).toArray (n + 1)) news news') (hz : vs.length ≤ 1000)
    (h : ∀ h', Fr h₀ L h' m → News h₀ L h' news' → Q .none { s with heap := h' }) : wpAny (model prog w) A (call (.builtin "list.append") [.ref D, x]) Q E s := by
  refine append_K F N (its := vs.toArray) (n := n) ?_ h (by rw [List.size_toArray, sizeLine_eq]; omega)
  rw [List.push_toArray]; exact U
theorem kl_last_snoc (v : Value) : ∀ p : List Value, kl_last (p ++ [v]) = some (p, v)
  | [] => rfl
  | x :: r => by
    show kl_last (x :: (r ++ [v])) = _
    unfold kl_last
    rw [kl_last_snoc v r]
theorem lt_pop {Q : Value → Shared → Prop} (F : Fr h₀ L s.heap m) (N : News h₀ L s.heap news) (U : Upd D (listOf (vs ++ [v]).toArray n) (listOf vs.toArray (n + 1)) news news') (hz : vs.length ≤ 1000)
    (h : ∀ h', Fr h₀ L h' m → News h₀ L h' news' → Q v { s with heap := h' }) : wpAny (model prog w) A (call (.builtin "list.pop") [.ref D]) Q E s :=
  kl_pop F N (its := (vs ++ [v]).toArray) (by rw [List.toList_toArray]; exact kl_last_snoc v vs) U (by rw [List.toList_toArray, List.length_append, List.length_singleton, sizeLine_eq]; omega) h
end

theorem fr_know {h₀ h : Heap} {L : Addr} {m : Str → Option Value} {x : Str} {v : Value} (F : Fr h₀ L h m) (e : m x = some v) : Fr h₀ L h (fun y => if y = x then some v else m y) := by
  have : (fun y => if y = x then some v else m y) = m := by
    funext y
    by_cases h : y = x
    · rw [if_pos h, h, e]
    · rw [if_neg h]
  rw [this]; exact F
end Mine
namespace Mine
theorem itemS_length {k t : Str} (hk : k.length ≤ 8) (ht : t.length ≤ 8) : (itemS k t).length ≤ 80 := by
  have := escS_length k
  unfold itemS
  simp only [Str.length_append]
  have e1 : (Str.ofString "<a href=\"#").length = 10 := by decide +kernel
  have e2 : (Str.ofString "\">").length = 2 := by decide +kernel
  have e3 : (Str.ofString "</a>").length = 4 := by decide +kernel
  omega
theorem sNext_length : sNext.length = 10 := by decide +kernel
theorem sUpNext_length : sUpNext.length = 22 := by decide +kernel
theorem sUp_length : sUp.length = 12 := by decide +kernel
theorem sDown_length : sDown.length = 10 := by decide +kernel
theorem sLi_length : sLi.length = 4 := by decide +kernel
theorem sUl_length : sUl.length = 5 := by decide +kernel
theorem popS_bound (lv : Int) (it : Str) (hi : it.length ≤ 80) : ∀ (r : List Int) (s : Str), (popS lv it s r).1.length ≤ s.length + 12 * r.length + 102 ∧ (popS lv it s r).2.length ≤ r.length + 1
  | [], s => by
    unfold popS
    simp only [Str.length_append, sNext_length, List.length_cons, List.length_nil]
    omega
  | x :: r, s => by
    unfold popS
    split
    · simp only [Str.length_append, sUpNext_length, List.length_cons]
      omega
    · split
      · simp only [Str.length_append, sNext_length, List.length_cons]
        omega
      · have := popS_bound lv it hi r (s ++ sUp)
        simp only [Str.length_append, sUp_length, List.length_cons] at this ⊢
        omega
theorem stepS_bound (st : Str × List Int) (lv : Int) (it : Str) (hi : it.length ≤ 80) : (stepS st lv it).1.length ≤ st.1.length + 12 * st.2.length + 102 ∧ (stepS st lv it).2.length ≤ st.2.length + 1 := by
  obtain ⟨s, stk⟩ := st
  cases stk with
  | nil =>
    simp only [stepS, Str.length_append, sLi_length, List.length_cons, List.length_nil]
    omega
  | cons x r =>
    simp only [stepS]
    split
    · simp only [Str.length_append, sNext_length, List.length_cons]
      omega
    · split
      · simp only [Str.length_append, sDown_length, List.length_cons]
        omega
      · have := popS_bound lv it hi r s
        simp only [List.length_cons]
        omega
theorem foldS_snoc (st : Str × List Int) (rows : List RowT) (r : RowT) : foldS st (rows ++ [r]) = stepS (foldS st rows) r.1 (itemS r.2.1 r.2.2) := by
  unfold foldS
  rw [List.foldl_append]; rfl
theorem foldS_bound (rows : List RowT) (hl : rows.length ≤ 20) (hsz : ∀ r ∈ rows, r.2.1.length ≤ 8 ∧ r.2.2.length ≤ 8) : ∀ i, i ≤ rows.length →
    (foldS (Str.ofString "", []) (rows.take i)).1.length ≤ 400 * i ∧ (foldS (Str.ofString "", []) (rows.take i)).2.length ≤ i := by
  intro i
  induction i with
  | zero => intro _; rw [List.take_zero]; decide +kernel
  | succ i ih =>
    intro hi
    have h := ih (by omega)
    have e : rows.take (i + 1) = rows.take i ++ [rows[i]] := by rw [List.take_succ_eq_append_getElem (by omega)]
    rw [e, foldS_snoc]
    have hr := hsz rows[i] (List.getElem_mem _)
    have b := stepS_bound (foldS (Str.ofString "", []) (rows.take i)) rows[i].1 _ (itemS_length hr.1 hr.2)
    omega
end Mine
namespace Mine
theorem RowsIn.mem {news : List (Addr × Obj)} {vs : List Value} {rs : List RowT} (h : RowsIn news vs rs) {v : Value} (hv : v ∈ vs) : ∃ r, r ∈ rs ∧ RowIn news v r := by
  obtain ⟨i, hi⟩ := List.mem_iff_getElem?.mp hv
  obtain ⟨r, hr, hR⟩ := h.get hi
  exact ⟨r, List.mem_of_getElem? hr, hR⟩
theorem go_tuple {prog : Program} {w : World} {A : Around} {news : List (Addr × Obj)} {vs : List Value} {rows : List RowT} {elts : List PySem.Expr} {x1 : Nat} {pos : Pos} (hR : RowsIn news vs rows) (I l' : Addr) (i : Nat) (v : Value) (s' : Shared) (Q' : Unit → Shared → Prop) (E' : Value → Shared → Prop)
    (hit : s'.heap.IsListIter I l' i) (hv : v ∈ vs) (hq : Q' () s') : wpAny (model prog w) A (letOwnedTupleGo (.Tuple elts x1 pos) (.ref I) v) Q' E' s' := by
  obtain ⟨r, _, T, n, t1, t2, t3, rfl, _⟩ := hR.mem hv
  exact wpAny_letOwnedTupleGo_listiter hit hq
end Mine
namespace Mine
theorem envLoc {name : Str} {scope : Scope} {L a : Addr} {cd : Value} : (envOf name scope L a cd).locals = L := rfl
end Mine
namespace Mine
theorem fr_know2 {h₀ h : Heap} {L : Addr} {m : Str → Option Value} {x y : Str} {v u : Value} (F : Fr h₀ L h m) (e : m x = some v) (e' : m y = some u) : Fr h₀ L h (fun z => if z = x then some v else if z = y then some u else m z) := by
  have F1 := fr_know F e'
  refine fr_know F1 ?_
  by_cases h : x = y
  · subst h
    simp only [if_true]
    rw [e] at e'
    exact e'.symm
  · rw [if_neg h]; exact e
end Mine
namespace Mine
theorem fmt_x1 : Str.ofString "<a href=\"#{}\">{}</a>" = Str.mk #[60, 97, 32, 104, 114, 101, 102, 61, 34, 35, 123, 125, 34, 62, 123, 125, 60, 47, 97, 62] := by decide +kernel
set_option maxRecDepth 100000 in
set_option maxHeartbeats 1000000 in
theorem fmt_call {prog : Program} {w : World} {A : Around} {E : Value → Shared → Prop} {s : Shared} {x y : Str} {t u v : Tok} {Q : Value → Shared → Prop} (hx : x.length ≤ 48) (hy : y.length ≤ 8)
    (h : ∀ t' k, Q (.str (Str.ofString "<a href=\"#" ++ x ++ Str.ofString "\">" ++ y ++ Str.ofString "</a>") t') { s with toks := k }) :
    wpAny (model prog w) A (call (.builtin "str.format") [.str (Str.ofString "<a href=\"#{}\">{}</a>") t, .str x u, .str y v]) Q E s := by
  refine' KFm.call_k fmt_x1 ?kfmg ?kfmm ?_
  (case kfmg => exact KFm.args_3 _ _ _)
  case kfmm =>
    apply KPc.meets_of
    intro _ _ _ _ _ _ _
    unfold Builtin.«str.format»
    refine wpAny_bind (wpAny_of_eq (a := (_, _, _)) rfl ?_)
    refine wpAny_bind ?_
    unfold Builtin.Str.buildString
    refine wpAny_bind ?_
    rw [KPc.range_list]
    refine KFm.start ?_
    intro _ _
    kfm_turns
  · exact fun t' k => h t' k
theorem fmt_step {prog : Program} {w : World} {A : Around} {E : Value → Shared → Prop} {s : Shared} {x y : Str} {t u v : Tok} {Q : Value → Shared → Prop} (hpos : 0 < s.toks) (hx : x.length ≤ 8) (hy : y.length ≤ 8)
    (h : ∀ t' k, 0 < k → Q (.str (itemS x y) t') { s with toks := k }) :
    wpAny (model prog w) A (call (.builtin "str.format") [.str (Str.ofString "<a href=\"#{}\">{}</a>") t, .str (escS x) u, .str y v]) Q E s :=
  wpAny_with_toks (n := 1) hpos (fmt_call (Nat.le_trans (escS_length x) (by omega)) hy fun t' k hk => h t' k hk)
end Mine
namespace Mine
theorem ints_last : ∀ {l : List Int} {us : List Value} {x : Int}, IntsAre us (l ++ [x]) → ∃ us' t, us = us' ++ [Value.int x t] ∧ IntsAre us' l
  | [], us, x, h => by
    obtain ⟨t, vs', rfl, h'⟩ := IntsAre.cons_inv h
    rw [IntsAre.nil_inv h']
    exact ⟨[], t, rfl, .nil⟩
  | y :: l, us, x, h => by
    obtain ⟨t, vs', rfl, h'⟩ := IntsAre.cons_inv h
    obtain ⟨us', t', rfl, h''⟩ := ints_last h'
    exact ⟨_ :: us', t', rfl, .cons _ _ h''⟩
section
variable {prog : Program} {w : World} {A : Around} {E : Value → Shared → Prop} {s : Shared} {h₀ : Heap} {L D : Addr} {m : Str → Option Value} {news news' : List (Addr × Obj)} {vs : List Value} {v : Value} {n : Nat}
theorem lt_truthy_snoc {Q : Bool → Shared → Prop} (N : News h₀ L s.heap news) (hm : (D, listOf (vs ++ [v]).toArray n) ∈ news) (hz : vs.length ≤ 1000) (h : Q true { s with toks := s.toks + 1 + 1 }) :
    wpAny (model prog w) A (truthy (.ref D)) Q E s := by
  refine wpAny_truthy_list (lt_is N hm) (by rw [List.size_toArray, List.length_append, List.length_singleton]; omega) ?_
  have e : (!(vs ++ [v]).toArray.isEmpty) = true := by cases vs <;> rfl
  rw [e]; exact h
theorem lt_truthy_nil {Q : Bool → Shared → Prop} (N : News h₀ L s.heap news) (hm : (D, listOf #[] n) ∈ news) (h : Q false { s with toks := s.toks + 1 + 1 }) :
    wpAny (model prog w) A (truthy (.ref D)) Q E s := by
  refine wpAny_truthy_list (items := #[]) (lt_is (vs := []) N hm) (by decide) ?_
  exact h
end
end Mine
namespace Mine
/-- the walk stands still here -/
def Halt (P : Prop) : Prop := P
theorem halt {P : Prop} (h : Halt P) : P := h
theorem unhalt {P : Prop} (h : P) : Halt P := h
end Mine
namespace Mine
theorem fr_knows {h₀ h : Heap} {L : Addr} {m : Str → Option Value} (ps : List (Str × Value)) (F : Fr h₀ L h m) (e : ∀ p ∈ ps, m p.1 = some p.2) : Fr h₀ L h (kstB m ps) := by
  have : kstB m ps = m := by
    funext y
    exact kstB_eq e fun _ => rfl
  rw [this]; exact F
/-- a turn of the outer loop ends with its list and its text -/
theorem turn_end {h₀ : Heap} {L I lv : Addr} {o : Obj} {news : List (Addr × Obj)} {s₁ : Shared} {Q : Flow → Shared → Prop} {h' : Heap} {tk : Nat} {m' : Str → Option Value} {us : List Value} {c : Nat} {st : Str × List Int}
    (hIlv : I ≠ lv) (hI : ∀ p ∈ news, p.1 ≠ I) (F : Fr h₀ L h' m') (N : News h₀ L h' ((I, o) :: (lv, listOf us.toArray c) :: news)) (hus : IntsAre us st.2.reverse) (hs : ∃ t, m' (Str.ofString "s") = some (.str st.1 t)) (hl : m' (Str.ofString "levels") = some (.ref lv)) :
    TurnPost h₀ L (fun m nx => ∃ us c t, nx = (lv, listOf us.toArray c) :: news ∧ IntsAre us st.2.reverse ∧ m (Str.ofString "s") = some (.str st.1 t) ∧ m (Str.ofString "levels") = some (.ref lv)) I o s₁ Q .next { s₁ with heap := h', toks := tk } := by
  obtain ⟨t, hs⟩ := hs
  refine ⟨_, _, _, _, rfl, F, N, fun p hp => ?_, _, _, _, rfl, hus, hs, hl⟩
  rcases List.mem_cons.mp hp with rfl | hp
  · exact hIlv.symm
  · exact hI p hp
end Mine
namespace Mine
theorem renS_ne {rows : List RowT} (h : rows ≠ []) : renS rows = if (closeS (foldS (Str.ofString "", []) rows).1 (foldS (Str.ofString "", []) rows).2).length = 0 then Str.ofString "" else sUl ++ closeS (foldS (Str.ofString "", []) rows).1 (foldS (Str.ofString "", []) rows).2 ++ sUp := by
  cases rows with
  | nil => exact absurd rfl h
  | cons r rs => rfl
end Mine
namespace Mine
def RenOk (prog : Program) (w : World) (K : Frag) (p : Program) (loose : List Str) (mean : ExcName → Option Value) (mg mb : Str → Option Value) (f : Addr) : Prop :=
  ∀ (dp un : Nat) (gd : Option (List Code)) (cn : Str) (cs : Scope) (a : Addr) (ccd : Value) (cl : List (Str × Addr)) (outer : List Env) (A₀ : Around) (base h₀ : Heap) (L : Addr) (m : Str → Option Value) (news : List (Addr × Obj)) (s : Shared) (l : Addr) (vs : List Value) (nn : Nat) (rows : List RowT) (Q E : Value → Shared → Prop),
    Below A₀ base outer h₀ → Fr h₀ L s.heap m → K.In h₀ → News h₀ L s.heap news → Top p loose mean mg mb h₀ → cs.kind = .function → 0 < s.toks →
    (l, listOf vs.toArray nn) ∈ news → RowsIn news vs rows → rows.length ≤ 20 → (∀ r ∈ rows, r.2.1.length ≤ 8 ∧ r.2.2.length ≤ 8) → dp + 2 < recursionLimit → un + 16 < cLine →
    (∀ t h' tk', 0 < tk' → Fr h₀ L h' m → News h₀ L h' news → Q (.str (renS rows) t) { s with heap := h', toks := tk' }) →
    wpAny (model prog w) (ktrTop dp un gd cn cs L a ccd cl outer) (call (.ref f) [.ref l]) Q E s

theorem ren_use {prog : Program} {w : World} {K : Frag} {p : Program} {loose : List Str} {mean : ExcName → Option Value} {mg mb : Str → Option Value} {f : Addr} {dp un : Nat} {gd : Option (List Code)} {cn : Str} {cs : Scope} {a : Addr} {ccd : Value} {cl : List (Str × Addr)} {outer : List Env} {A₀ : Around} {base h₀ : Heap} {L : Addr} {m : Str → Option Value} {news : List (Addr × Obj)} {s : Shared} {l : Addr} {vs : List Value} {nn : Nat} {rows : List RowT} {Q E : Value → Shared → Prop}
    (C : RenOk prog w K p loose mean mg mb f) (B : Below A₀ base outer h₀) (F : Fr h₀ L s.heap m) (X : K.In h₀) (N : News h₀ L s.heap news) (T : Top p loose mean mg mb h₀) (hk : cs.kind = .function) (hpos : 0 < s.toks) (hl : (l, listOf vs.toArray nn) ∈ news) (hR : RowsIn news vs rows) (hlen : rows.length ≤ 20) (hsz : ∀ r ∈ rows, r.2.1.length ≤ 8 ∧ r.2.2.length ≤ 8) (hd : dp + 2 < recursionLimit) (hu : un + 16 < cLine)
    (ret : ∀ t h' tk', 0 < tk' → Fr h₀ L h' m → News h₀ L h' news → Q (.str (renS rows) t) { s with heap := h', toks := tk' }) :
    wpAny (model prog w) (ktrTop dp un gd cn cs L a ccd cl outer) (call (.ref f) [.ref l]) Q E s :=
  C _ _ _ _ _ _ _ _ _ _ _ _ _ _ _ _ _ _ _ _ _ _ B F X N T hk hpos hl hR hlen hsz hd hu ret
end Mine
open PySem PySem.W PyProof.Rows Mine
set_option Elab.async false
set_option maxRecDepth 100000
namespace Mine1
local macro_rules | `(tactic| cell_enter) => `(tactic| (refine' code_def ?k1 ?k2 ?k3 ?k4 ?k5 ?kA ?kF ?kK ?k6 ?k7 ?k8 ?k9 ?kB ?_ ?c2 ?c3 ?c4 ?c5; (case kA => exact rfl); (case kF => exact rfl); (case kK => assumption); (case k1 => k_asm); (case k2 => k_asm); (case k3 => k_asm); (case k4 => k_asm); (case k5 => k_asm); (case k6 => k_is); (case k7 => k_is); (case k8 => ktr_room); (case k9 => first | exact BindsTo.of_eq rfl | exact binds_K (by k_in) rfl (by k_is) rfl rfl rfl); (case c5 => decide); (case kB => exact locs rfl); (case c2 => exact rfl); (case c3 => exact rfl); (case c4 => exact rfl); k_whole; intro g' L' h' FG' F' N' B' X' T'; (try dsimp only); (try k_lift B')))
local macro_rules | `(tactic| walk_at "execs cons") => `(tactic| ((refine gen_toks (by first | exact Nat.succ_pos _ | assumption | omega) ?_; intro tk9 htk9); (with_reducible refine wpAny_execs_cons ?_); try dsimp only))
local macro_rules | `(tactic| walk_at "call builtin:str.replace") => `(tactic| (first
  | (refine' replace_step 38 5 8 ?a1 ?a2 rfl ?a3 ?a4 ?a5 ?a6 ?a7 ?a8 ?_; (case a1 => exact Nat.succ_pos _); (case a2 => assumption); (case a3 => decide +kernel); (case a4 => decide +kernel); (case a5 => assumption); (case a6 => decide +kernel); (case a7 => decide); (case a8 => decide); intro t' tk' htk' hlen')
  | (refine' replace_step 60 4 40 ?a1 ?a2 rfl ?a3 ?a4 ?a5 ?a6 ?a7 ?a8 ?_; (case a1 => exact Nat.succ_pos _); (case a2 => assumption); (case a3 => decide +kernel); (case a4 => decide +kernel); (case a5 => assumption); (case a6 => decide +kernel); (case a7 => decide); (case a8 => decide); intro t' tk' htk' hlen')
  | (refine' replace_step 62 4 160 ?a1 ?a2 rfl ?a3 ?a4 ?a5 ?a6 ?a7 ?a8 ?_; (case a1 => exact Nat.succ_pos _); (case a2 => assumption); (case a3 => decide +kernel); (case a4 => decide +kernel); (case a5 => assumption); (case a6 => decide +kernel); (case a7 => decide); (case a8 => decide); intro t' tk' htk' hlen')
  | (refine' replace_step 34 6 640 ?a1 ?a2 rfl ?a3 ?a4 ?a5 ?a6 ?a7 ?a8 ?_; (case a1 => exact Nat.succ_pos _); (case a2 => assumption); (case a3 => decide +kernel); (case a4 => decide +kernel); (case a5 => assumption); (case a6 => decide +kernel); (case a7 => decide); (case a8 => decide); intro t' tk' htk' hlen')))

set_option maxHeartbeats 4000000 in
theorem esc_ok (w : World) (p : Program) (loose : List Str) (mean : ExcName → Option Value) (mg mb : Str → Option Value) :
    EscOk Challenge.rw_ci0010_01.row.prog w (hd.heap_39 w.params) p loose mean mg mb 22 := by
  k_fill
  unfold EscOk
  intro dp un gd cn cs a ccd cl outer A₀ base h₀ L m news s x tk Q E B F X N T hk hpos hx hd hu hret
  refine wpAny_back (R := fun t => .str (escS x) t) hpos hret ?_
  refine wpAny_call ?_
  k_dflt cell_enter
  k_steps
  all_goals exact ⟨_, _, _, by rw [escF_is], rfl, by assumption, by assumption⟩
end Mine1
open PySem PySem.W PyProof.Rows Mine
set_option Elab.async false
set_option maxRecDepth 100000
namespace Mine1
local macro_rules | `(tactic| cell_enter) => `(tactic| (refine' code_def ?k1 ?k2 ?k3 ?k4 ?k5 ?kA ?kF ?kK ?k6 ?k7 ?k8 ?k9 ?kB ?_ ?c2 ?c3 ?c4 ?c5; (case kA => exact rfl); (case kF => exact rfl); (case kK => assumption); (case k1 => k_asm); (case k2 => k_asm); (case k3 => k_asm); (case k4 => k_asm); (case k5 => k_asm); (case k6 => k_is); (case k7 => k_is); (case k8 => ktr_room); (case k9 => first | exact BindsTo.of_eq rfl | exact binds_K (by k_in) rfl (by k_is) rfl rfl rfl); (case c5 => decide); (case kB => exact locs rfl); (case c2 => exact rfl); (case c3 => exact rfl); (case c4 => exact rfl); k_whole; intro g' L' h' FG' F' N' B' X' T'; (try dsimp only); (try k_lift B')))
local macro_rules | `(tactic| walk_at "execs cons") => `(tactic| ((refine gen_toks (by first | exact Nat.succ_pos _ | assumption | omega) ?_; intro tk9 htk9); (with_reducible refine wpAny_execs_cons ?_); try dsimp only))
local macro_rules | `(tactic| ktr_rel) => `(tactic| first | assumption | exact List.Mem.head _ | exact List.Mem.tail _ (List.Mem.head _) | exact List.Mem.tail _ (by assumption) | exact List.Mem.tail _ (List.Mem.tail _ (by assumption)) | exact List.Mem.tail _ (List.Mem.tail _ (List.Mem.head _)))
local macro_rules | `(tactic| walk_at "truthy ref") => `(tactic| first | (refine' lt_truthy_snoc ?N ?m ?z ?_; (case N => assumption); (case m => ktr_rel); (case z => omega)) | (refine' lt_truthy_nil ?N ?m ?_; (case N => assumption); (case m => ktr_rel)) | (refine' lt_truthy ?N ?m ?z ?_; (case N => assumption); (case m => ktr_rel); (case z => first | omega | (simp only [List.length_append, List.length_cons, List.length_nil]; omega))))
local macro_rules | `(tactic| tb_rel) => `(tactic| first | exact Upd.head (by assumption) | exact Upd.tail (by assumption) (Upd.head (by assumption)) | exact Upd.tail (by assumption) (Upd.tail (by assumption) (Upd.head (by assumption))))
local macro_rules | `(tactic| walk_at "call builtin:list.append") => `(tactic| (refine' lt_append ?F ?N ?U ?z ?_; (case F => assumption); (case N => assumption); (case U => tb_rel); (case z => first | omega | (simp only [List.length_append, List.length_cons, List.length_nil]; omega)); intro h' F' N'))
local macro_rules | `(tactic| walk_at "call builtin:list.pop") => `(tactic| (refine' lt_pop ?F ?N ?U ?z ?_; (case F => assumption); (case N => assumption); (case U => tb_rel); (case z => first | omega | (simp only [List.length_append, List.length_cons, List.length_nil]; omega)); intro h' F' N'))
local macro_rules | `(tactic| walk_at "subscriptTail") => `(tactic| ((with_reducible show wpAny _ _ (subscriptTail _ _ (Value.ref _) (Value.int _ _)) _ _ _); (refine' lt_last ?N ?m ?z ?_ ?s; (case N => assumption); (case m => ktr_rel); (case z => first | assumption | omega); (case s => with_unfolding_all rfl))))
local macro_rules | `(tactic| walk_at "last exec While") => `(tactic| refine halt ?_)
local macro_rules | `(tactic| walk_at "exec While") => `(tactic| refine halt ?_)
local macro_rules | `(tactic| walk_at "call builtin:len") => `(tactic| ((with_reducible show wpAny _ _ (call (Value.builtin "len") [Value.ref _]) _ _ _); (refine' lt_len ?N ?m ?z ?_; (case N => assumption); (case m => ktr_rel); (case z => first | omega | (simp only [List.length_append, List.length_cons, List.length_nil]; omega)))))
local macro_rules | `(tactic| walk_at "call ref") => `(tactic| (refine' esc_use (esc_ok _ _ _ _ _ _) ?k1 ?k2 ?k3 ?k4 ?k5 ?k6 ?k7 ?k8 ?k9 ?k10 ?_; (case k1 => assumption); (case k2 => assumption); (case k3 => assumption); (case k4 => assumption); (case k5 => assumption); (case k6 => rfl); (case k7 => exact Nat.succ_pos _); (case k8 => assumption); (case k9 => (dsimp only [Around.deeper, ktrTop]; omega)); (case k10 => (dsimp only [Around.deeper, ktrTop]; omega)); intro t8 h8 tk8 hpos8 F8 N8))

local macro_rules | `(tactic| walk_at "call builtin:str.format") => `(tactic| (refine' fmt_step ?k1 ?k2 ?k3 ?_; (case k1 => first | assumption | exact Nat.succ_pos _); (case k2 => assumption); (case k3 => assumption); intro t8 tk8 hpos8))

set_option maxHeartbeats 4000000 in
theorem ren_ok (w : World) (p : Program) (loose : List Str) (mean : ExcName → Option Value) (mg mb : Str → Option Value) :
    RenOk Challenge.rw_ci0010_01.row.prog w (hd.heap_39 w.params) p loose mean mg mb 29 := by
  k_fill
  unfold RenOk
  intro dp un gd cn cs a ccd cl outer A₀ base h₀ L m news s l vs nn rows Q E B F X N T hk hpos hl hR hlen hsz hd hu hret
  refine wpAny_back (R := fun t => .str (renS rows) t) hpos hret ?_
  refine wpAny_call ?_
  k_dflt cell_enter
  have hvl : vs.length ≤ 1000 := by have := hR.length; omega
  k_steps
  · cases hR with
    | nil => exact ⟨_, _, _, rfl, rfl, by assumption, by assumption⟩
    | cons _ _ => rename_i h9; cases h9
  refine wpAny_For ?_
  k_steps
  rename_i lv h7 hlt9 h8 F9 N9 tk9 hpos9
  have hne : ∀ p ∈ news, p.1 ≠ lv := fun p hp => Nat.ne_of_lt (hlt9 p hp)
  refine loop_list (J := fun i m nx => ∃ us c t, nx = (lv, listOf us.toArray c) :: news ∧ IntsAre us (foldS (Str.ofString "", []) (rows.take i)).2.reverse ∧ m (Str.ofString "s") = some (.str (foldS (Str.ofString "", []) (rows.take i)).1 t) ∧ m (Str.ofString "levels") = some (.ref lv)) rfl F9 N9 hpos9
    ⟨[], 0, _, rfl, .nil, rfl, rfl⟩ (fun i m nx ⟨us, c, t, e, _⟩ => e ▸ List.Mem.tail _ hl) (go_tuple hR) ?_ ?_
  · rintro i v m₁ nx h tk I o hv htk hI ⟨us, c, t, rfl, hus, hs, hlv⟩ F N
    have hi : i < rows.length := by have := hR.length; have := (List.getElem?_eq_some_iff.mp hv).1; omega
    obtain ⟨r, hr, Tt, nt, t1, t2, t3, rfl, hT⟩ := hR.get hv
    simp only [envLoc] at F N
    have F := fr_know2 F hs hlv
    have hr8 := hsz r (List.mem_of_getElem? hr)
    have hr1 := hr8.1
    have hr2 := hr8.2
    have hb := foldS_bound rows hlen hsz i (Nat.le_of_lt hi)
    have hnext : foldS (Str.ofString "", []) (rows.take (i + 1)) = stepS (foldS (Str.ofString "", []) (rows.take i)) r.1 (itemS r.2.1 r.2.2) := by
      rw [← foldS_snoc, List.take_succ_eq_append_getElem hi]
      congr 2
      rw [List.getElem?_eq_getElem hi] at hr
      exact congrArg (fun z => [z]) (Option.some.inj hr)
    have hIlv : I ≠ lv := fun q => hI _ (List.Mem.head _) q.symm
    have hIn : ∀ p ∈ news, p.1 ≠ I := fun p hp => hI p (List.Mem.tail _ hp)
    have hnIlv : ∀ p ∈ (lv, listOf us.toArray c) :: news, p.1 ≠ I := hI
    have hit := itemS_length hr1 hr2
    generalize foldS (Str.ofString "", []) (rows.take i) = st at hus hs hb hnext F
    obtain ⟨S, stk⟩ := st
    dsimp only at hus hs hb hnext F
    refine unpackN_ F N (News.isTup N (List.Mem.tail _ (List.Mem.tail _ hT))) rfl rfl rfl (fun h' F' N' => ?_)
    rcases stk with _ | ⟨x, stk⟩
    · have hus := IntsAre.nil_inv hus
      subst hus
      k_steps
      rename Fr _ _ _ _ => F9
      rename News _ _ _ _ => N9
      rw [hnext]
      exact turn_end hIlv hIn F9 N9 (.cons _ _ .nil) ⟨_, rfl⟩ rfl
    · rw [List.reverse_cons] at hus
      obtain ⟨us', tx, rfl, hus2⟩ := ints_last hus
      have hul : us'.length ≤ 900 := by have := hus2.length; rw [List.length_reverse] at this; simp only [List.length_cons] at hb; omega
      k_steps
      · rename Fr _ _ _ _ => F9
        rename News _ _ _ _ => N9
        have e : stepS (S, x :: stk) r.1 (itemS r.2.1 r.2.2) = (S ++ (sNext ++ itemS r.2.1 r.2.2), x :: stk) := if_pos (by omega)
        rw [hnext, e]
        exact turn_end hIlv hIn F9 N9 (by rw [List.reverse_cons]; exact hus2.append (.cons _ _ .nil)) ⟨_, rfl⟩ rfl
      · rename Fr _ _ _ _ => F9
        rename News _ _ _ _ => N9
        have e : stepS (S, x :: stk) r.1 (itemS r.2.1 r.2.2) = (S ++ (sDown ++ itemS r.2.1 r.2.2), r.1 :: x :: stk) := (if_neg (by omega)).trans (if_pos (by omega))
        rw [hnext, e]
        exact turn_end hIlv hIn F9 N9 (by rw [List.reverse_cons, List.reverse_cons]; exact (hus2.append (.cons _ _ .nil)).append (.cons _ _ .nil)) ⟨_, rfl⟩ rfl
      · rename Fr _ _ _ _ => F9
        rename News _ _ _ _ => N9
        have e : stepS (S, x :: stk) r.1 (itemS r.2.1 r.2.2) = popS r.1 (itemS r.2.1 r.2.2) S stk := (if_neg (by omega)).trans (if_neg (by omega))
        rw [e] at hnext
        rename 0 < _ => hpos9
        refine unhalt ?_
        have hbs : S.length + 12 * stk.length ≤ 10000 := by simp only [List.length_cons] at hb; omega
        have hbt : stk.length ≤ 20 := by simp only [List.length_cons] at hb; omega
        refine loop_while (n₀ := stk.length) (J := fun n m nx => ∃ S' stk' us c, n = stk'.length ∧ nx = (I, o) :: (lv, listOf us.toArray c) :: news ∧ IntsAre us stk'.reverse ∧ popS r.1 (itemS r.2.1 r.2.2) S' stk' = popS r.1 (itemS r.2.1 r.2.2) S stk ∧ S'.length + 12 * stk'.length ≤ 10000 ∧ stk'.length ≤ 20 ∧
          (∃ t, m (Str.ofString "s") = some (Value.str S' t)) ∧ m (Str.ofString "levels") = some (Value.ref lv) ∧ m (Str.ofString "level") = some (Value.int r.1 t1) ∧ ∃ t, m (Str.ofString "item") = some (Value.str (itemS r.2.1 r.2.2) t)) F9 N9 (by assumption) ⟨S, stk, us', _, rfl, rfl, hus2, rfl, hbs, hbt, ⟨_, rfl⟩, rfl, rfl, ⟨_, rfl⟩⟩ ?_
        · rintro n m₂ nx h2 tk2 htk2 ⟨S', stk', us2, c2, rfl, rfl, hus3, hpop, hb2, hb3, ⟨t2', hm1⟩, hm2, hm3, ⟨t8', hm4⟩⟩ F2 N2
          simp only [envLoc] at F2 N2
          have F2 := fr_knows [(Str.ofString "s", Value.str S' t2'), (Str.ofString "levels", Value.ref lv), (Str.ofString "level", Value.int r.1 t1), (Str.ofString "item", Value.str (itemS r.2.1 r.2.2) t8')] F2 (by
            intro p hp
            simp only [List.mem_cons, List.not_mem_nil, or_false] at hp
            rcases hp with rfl | rfl | rfl | rfl <;> assumption)
          simp only [kstB] at F2
          rcases stk' with _ | ⟨y, stk'⟩
          · have hus3 := IntsAre.nil_inv hus3
            subst hus3
            k_steps
            rename Fr _ _ _ _ => F9
            rename News _ _ _ _ => N9
            rw [hnext, ← hpop]
            exact turn_end hIlv hIn F9 N9 (.cons _ _ .nil) ⟨_, rfl⟩ rfl
          · rw [List.reverse_cons] at hus3
            obtain ⟨us3, ty, rfl, hus4⟩ := ints_last hus3
            have hul3 : us3.length ≤ 900 := by have := hus4.length; rw [List.length_reverse] at this; simp only [List.length_cons] at hb3; omega
            k_steps
            · dsimp only [WhilePost]
              k_steps
              rename Fr _ _ _ _ => F9
              rename News _ _ _ _ => N9
              have e : popS r.1 (itemS r.2.1 r.2.2) S' (y :: stk') = (S' ++ (sUpNext ++ itemS r.2.1 r.2.2), r.1 :: stk') := if_pos (by omega)
              rw [hnext, ← hpop, e]
              exact turn_end hIlv hIn F9 N9 (by rw [List.reverse_cons]; exact hus4.append (.cons _ _ .nil)) ⟨_, rfl⟩ rfl
            · dsimp only [WhilePost]
              k_steps
              rename Fr _ _ _ _ => F9
              rename News _ _ _ _ => N9
              have e : popS r.1 (itemS r.2.1 r.2.2) S' (y :: stk') = (S' ++ (sNext ++ itemS r.2.1 r.2.2), r.1 :: y :: stk') := (if_neg (by omega)).trans (if_pos (by omega))
              rw [hnext, ← hpop, e]
              exact turn_end hIlv hIn F9 N9 (by rw [List.reverse_cons, List.reverse_cons]; exact (hus4.append (.cons _ _ .nil)).append (.cons _ _ .nil)) ⟨_, rfl⟩ rfl
            · rename Fr _ _ _ _ => F9
              rename News _ _ _ _ => N9
              have e : popS r.1 (itemS r.2.1 r.2.2) S' (y :: stk') = popS r.1 (itemS r.2.1 r.2.2) (S' ++ sUp) stk' := (if_neg (by omega)).trans (if_neg (by omega))
              refine ⟨_, _, _, _, rfl, F9, N9, stk'.length, Nat.lt_succ_self _, S' ++ sUp, stk', us3, _, rfl, rfl, hus4, e.symm.trans hpop, ?_, ?_, ⟨_, rfl⟩, rfl, rfl, ⟨_, rfl⟩⟩
              · simp only [Str.length_append, sUp_length, List.length_cons] at hb2 ⊢
                omega
              · simp only [List.length_cons] at hb3; omega
  · rintro m₁ nx h tk htk ⟨us, c, t, rfl, hus, hs, hlv⟩ F N
    have hvr : vs.length = rows.length := hR.length
    have hne0 : rows ≠ [] := by
      rename vs.isEmpty = false => hve
      intro q
      rw [q] at hvr
      cases vs with
      | nil => cases hve
      | cons _ _ => cases hvr
    have hb := foldS_bound rows hlen hsz rows.length (Nat.le_refl _)
    have hren := renS_ne hne0
    rw [List.take_length] at hb
    rw [hvr, List.take_length] at hus hs
    generalize foldS (Str.ofString "", []) rows = st at hus hs hb hren
    obtain ⟨S, stk⟩ := st
    dsimp only at hus hs hb hren
    simp only [envLoc] at F N
    have F := fr_know2 F hs hlv
    dsimp only
    k_steps
    refine unhalt ?_
    have hbs : S.length + 12 * stk.length ≤ 10000 := by omega
    have hbt : stk.length ≤ 20 := by omega
    refine loop_while (n₀ := stk.length) (J := fun n m nx => ∃ S' stk' us c, n = stk'.length ∧ nx = (lv, listOf us.toArray c) :: news ∧ IntsAre us stk'.reverse ∧ closeS S' stk' = closeS S stk ∧ S'.length + 12 * stk'.length ≤ 10000 ∧ stk'.length ≤ 20 ∧
      (∃ t, m (Str.ofString "s") = some (Value.str S' t)) ∧ m (Str.ofString "levels") = some (Value.ref lv)) F N (by assumption) ⟨S, stk, us, _, rfl, rfl, hus, rfl, hbs, hbt, ⟨_, rfl⟩, rfl⟩ ?_
    rintro n m₂ nx h2 tk2 htk2 ⟨S', stk', us2, c2, rfl, rfl, hus3, hcl, hb2, hb3, ⟨t2', hm1⟩, hm2⟩ F2 N2
    simp only [envLoc] at F2 N2
    have F2 := fr_know2 F2 hm1 hm2
    rw [← hcl] at hren
    have hin : ∀ p ∈ news, p.1 ≠ lv := hne
    rcases stk' with _ | ⟨y, stk'⟩
    · have hus3 := IntsAre.nil_inv hus3
      subst hus3
      k_steps
      · rw [hren, show closeS S' [] = S' from rfl, if_neg (by omega)]
        exact ⟨_, _, _, rfl, rfl, by assumption, by first | assumption | exact fun p hp => by (rename News _ _ _ (_ :: news) => kN9; exact kN9 p (List.Mem.tail _ hp))⟩
      · rw [hren, show closeS S' [] = S' from rfl, if_pos (by omega)]
        exact ⟨_, _, _, rfl, rfl, by assumption, by first | assumption | exact fun p hp => by (rename News _ _ _ (_ :: news) => kN9; exact kN9 p (List.Mem.tail _ hp))⟩
    · rw [List.reverse_cons] at hus3
      obtain ⟨us3, ty, rfl, hus4⟩ := ints_last hus3
      have hl4 := hus4.length
      rw [List.length_reverse] at hl4
      have hul3 : us3.length ≤ 900 := by simp only [List.length_cons] at hb3; omega
      k_steps
      · rename Fr _ _ _ _ => F9
        rename News _ _ _ _ => N9
        rename (1 : Int) < _ => h19
        cases stk' with
        | nil =>
          cases us3 with
          | nil => simp at h19
          | cons _ _ => cases hl4
        | cons z stk' =>
          refine ⟨_, _, _, _, rfl, F9, N9, (z :: stk').length, Nat.lt_succ_self _, S' ++ sUp, z :: stk', us3, _, rfl, rfl, hus4, hcl, ?_, ?_, ⟨_, rfl⟩, rfl⟩
          · simp only [Str.length_append, sUp_length, List.length_cons] at hb2 ⊢
            omega
          · simp only [List.length_cons] at hb3 ⊢; omega
      all_goals (
        have e0 : stk' = [] := by
          rename ¬ (1 : Int) < _ => h19
          cases stk' with
          | nil => rfl
          | cons z r =>
            exfalso
            simp only [List.length_append, List.length_cons, List.length_nil] at h19 hl4
            omega
        subst e0)
      · rw [hren, show closeS S' [y] = S' from rfl, if_neg (by omega)]
        exact ⟨_, _, _, rfl, rfl, by assumption, by first | assumption | exact fun p hp => by (rename News _ _ _ (_ :: news) => kN9; exact kN9 p (List.Mem.tail _ hp))⟩
      · rw [hren, show closeS S' [y] = S' from rfl, if_pos (by omega)]
        exact ⟨_, _, _, rfl, rfl, by assumption, by first | assumption | exact fun p hp => by (rename News _ _ _ (_ :: news) => kN9; exact kN9 p (List.Mem.tail _ hp))⟩
end Mine1
open PySem PySem.W PyProof.Rows
set_option Elab.async false
set_option maxRecDepth 100000
namespace Mine

def namesL : List Str := [Str.ofString "a", Str.ofString "b&c", Str.ofString "d<e", Str.ofString "f>g", Str.ofString "h\"i", Str.ofString "j-k", Str.ofString "&lt;", Str.ofString "l m"]
def toldL : List Str := [Str.ofString "a", Str.ofString "b&amp;c", Str.ofString "d&lt;e", Str.ofString "f&gt;g", Str.ofString "h&quot;i", Str.ofString "j-k", Str.ofString "&amp;lt;", Str.ofString "l m"]
def nameAt (c : Int) : Nat := (Int.fmod (Int.fdiv c 6) 8).toNat
def numS (k : Nat) : Str := Str.ofString (toString (k : Int))
def levF (cs : List Int) (k : Nat) : Int := 1 + Int.fmod (cs.getD k 0) 6
def rowF (cs : List Int) (k : Nat) : RowT := (levF cs k, namesL.getD (nameAt (cs.getD k 0)) (Str.ofString ""), Str.ofString "t" ++ numS k)
def itemF (cs : List Int) (k : Nat) : Str := Str.ofString "<a href=\"#" ++ toldL.getD (nameAt (cs.getD k 0)) (Str.ofString "") ++ Str.ofString "\">t" ++ numS k ++ Str.ofString "</a>"

theorem nameAt_lt (c : Int) : nameAt c < 8 := by
  unfold nameAt
  have h1 := Int.fmod_nonneg_of_pos (Int.fdiv c 6) (b := 8) (by decide)
  have h2 := Int.fmod_lt_of_pos (Int.fdiv c 6) (b := 8) (by decide)
  omega
end Mine
namespace Mine
theorem strs_get {vs : List Value} {ys : List Str} (h : StrsAre vs ys) {i : Nat} (hi : i < ys.length) : ∃ t, vs[i]? = some (.str (ys.getD i (Str.ofString "")) t) := by
  induction h generalizing i with
  | nil => cases hi
  | cons y t _ ih =>
    cases i with
    | zero => exact ⟨t, rfl⟩
    | succ i => exact ih (Nat.lt_of_succ_lt_succ hi)
theorem strs_len {vs : List Value} {ys : List Str} (h : StrsAre vs ys) : vs.length = ys.length := by
  induction h with
  | nil => rfl
  | cons _ _ _ ih => rw [List.length_cons, List.length_cons, ih]
theorem strs_snoc {vs : List Value} {ys : List Str} (h : StrsAre vs ys) (y : Str) (t : Tok) : StrsAre (vs ++ [.str y t]) (ys ++ [y]) := by
  induction h with
  | nil => exact .cons y t .nil
  | cons z u _ ih => exact .cons z u ih
section
variable {prog : Program} {w : World} {A : Around} {E : Value → Shared → Prop} {s : Shared} {h₀ : Heap} {L D : Addr} {m : Str → Option Value} {news news' : List (Addr × Obj)} {vs : List Value} {v : Value} {n : Nat}
theorem str_item {value slice : PySem.Expr} {k : Int} {u : Tok} {ys : List Str} {Q : Value → Shared → Prop} (N : News h₀ L s.heap news) (hm : (D, listOf vs.toArray n) ∈ news) (hS : StrsAre vs ys) (h0 : 0 ≤ k) (h1 : k < ys.length) (hl : ys.length ≤ 900) {b : Nat} (hb : ∀ y ∈ ys, y.length ≤ b)
    (h : ∀ t', (ys.getD k.toNat (Str.ofString "")).length ≤ b → Q (.str (ys.getD k.toNat (Str.ofString "")) t') s)
    (hs : subscripted slice false (.ref D) (.int k u) = operate [.ref D, .int k u] (getItem (.ref D) (.int k u)) := by with_unfolding_all rfl) :
    wpAny (model prog w) A (subscriptTail value slice (.ref D) (.int k u)) Q E s := by
  have hk : k.toNat < ys.length := by omega
  obtain ⟨t, ht⟩ := strs_get hS hk
  refine lt_item N hm h0 (by omega) ht (h t (hb _ ?_)) hs
  rw [List.getD_eq_getElem?_getD, List.getElem?_eq_getElem hk]
  exact List.getElem_mem hk
end
theorem names_len : ∀ y ∈ namesL, y.length ≤ 8 := by decide +kernel
theorem told_len : ∀ y ∈ toldL, y.length ≤ 8 := by decide +kernel
/-- a def without arguments that hands back a new list of written texts -/
def ListOk (prog : Program) (w : World) (K : Frag) (p : Program) (loose : List Str) (mean : ExcName → Option Value) (mg mb : Str → Option Value) (f : Addr) (ys : List Str) : Prop :=
  ∀ (dp un : Nat) (gd : Option (List Code)) (cn : Str) (cs : Scope) (a : Addr) (ccd : Value) (cl : List (Str × Addr)) (outer : List Env) (A₀ : Around) (base h₀ : Heap) (L : Addr) (m : Str → Option Value) (news : List (Addr × Obj)) (s : Shared) (Q E : Value → Shared → Prop),
    Below A₀ base outer h₀ → Fr h₀ L s.heap m → K.In h₀ → News h₀ L s.heap news → Top p loose mean mg mb h₀ → cs.kind = .function → 0 < s.toks →
    dp + 1 < recursionLimit → un + 8 < cLine →
    (∀ D vs h' tk', 0 < tk' → Fr h₀ L h' m → News h₀ L h' ((D, listOf vs.toArray 0) :: news) → (∀ p ∈ news, p.1 < D) → StrsAre vs ys → Q (.ref D) { s with heap := h', toks := tk' }) →
    wpAny (model prog w) (ktrTop dp un gd cn cs L a ccd cl outer) (call (.ref f) []) Q E s
theorem list_use {prog : Program} {w : World} {K : Frag} {p : Program} {loose : List Str} {mean : ExcName → Option Value} {mg mb : Str → Option Value} {f : Addr} {ys : List Str} {dp un : Nat} {gd : Option (List Code)} {cn : Str} {cs : Scope} {a : Addr} {ccd : Value} {cl : List (Str × Addr)} {outer : List Env} {A₀ : Around} {base h₀ : Heap} {L : Addr} {m : Str → Option Value} {news : List (Addr × Obj)} {s : Shared} {Q E : Value → Shared → Prop}
    (C : ListOk prog w K p loose mean mg mb f ys) (B : Below A₀ base outer h₀) (F : Fr h₀ L s.heap m) (X : K.In h₀) (N : News h₀ L s.heap news) (T : Top p loose mean mg mb h₀) (hk : cs.kind = .function) (hpos : 0 < s.toks) (hd : dp + 1 < recursionLimit) (hu : un + 8 < cLine)
    (ret : ∀ D vs h' tk', 0 < tk' → Fr h₀ L h' m → News h₀ L h' ((D, listOf vs.toArray 0) :: news) → (∀ p ∈ news, p.1 < D) → StrsAre vs ys → Q (.ref D) { s with heap := h', toks := tk' }) :
    wpAny (model prog w) (ktrTop dp un gd cn cs L a ccd cl outer) (call (.ref f) []) Q E s :=
  C _ _ _ _ _ _ _ _ _ _ _ _ _ _ _ _ _ _ B F X N T hk hpos hd hu ret
end Mine
namespace Mine
theorem range_snoc {α : Type} (f : Nat → α) (i : Nat) : (List.range (i + 1)).map f = (List.range i).map f ++ [f i] := by rw [List.range_succ, List.map_append]; rfl
abbrev tupOf (vs : List Value) : Obj := { cls := .type "tuple", data := .seq vs.toArray }
/-- what the law's first loop keeps -/
def J1 (cs : List Int) (ws : List Value) (T It Lv C : Addr) (i : Nat) (m : Str → Option Value) (nx : List (Addr × Obj)) : Prop :=
  ∃ vt ct vi ci vl cl tups, nx = (T, listOf vt.toArray ct) :: (It, listOf vi.toArray ci) :: (Lv, listOf vl.toArray cl) :: (C, listOf ws.toArray 0) :: tups ∧ RowsIn tups vt ((List.range i).map (rowF cs)) ∧ StrsAre vi ((List.range i).map (itemF cs)) ∧ IntsAre vl ((List.range i).map (levF cs)) ∧ OwnOff tups [T, It, Lv, C] ∧
      m (Str.ofString "toc") = some (.ref T) ∧ m (Str.ofString "items") = some (.ref It) ∧ m (Str.ofString "levels") = some (.ref Lv) ∧ m (Str.ofString "cells") = some (.ref C)
theorem j1_turn {h₀ : Heap} {L I : Addr} {o : Obj} {s₁ : Shared} {Q : Flow → Shared → Prop} {h' : Heap} {tk : Nat} {m' : Str → Option Value} {cs : List Int} {ws : List Value} {T It Lv C : Addr} {i : Nat} {vt vi vl : List Value} {ct ci cl : Nat} {tups : List (Addr × Obj)} {D0 D1 D2 : Addr} {o0 o2 : Obj} {t1 t2 t3 t4 t5 : Tok}
    (hI : ∀ p ∈ tups, p.1 ≠ I) (hIT : @Ne Nat I T) (hIIt : @Ne Nat I It) (hILv : @Ne Nat I Lv) (hIC : @Ne Nat I C)
    (hR : RowsIn tups vt ((List.range i).map (rowF cs))) (hS : StrsAre vi ((List.range i).map (itemF cs))) (hV : IntsAre vl ((List.range i).map (levF cs))) (hoff : OwnOff tups [T, It, Lv, C])
    (F : Fr h₀ L h' m')
    (N : News h₀ L h' ((D2, o2) :: (D1, tupOf [Value.int (levF cs i) t1, Value.str (namesL.getD (nameAt (cs.getD i 0)) (Str.ofString "")) t2, Value.str (Str.ofString "t" ++ numS i) t3]) :: (D0, o0) :: (I, o) ::
      (T, listOf (vt ++ [Value.ref D1]).toArray ct) :: (It, listOf (vi ++ [Value.str (itemF cs i) t4]).toArray ci) :: (Lv, listOf (vl ++ [Value.int (levF cs i) t5]).toArray cl) :: (C, listOf ws.toArray 0) :: tups))
    (hDI : @Ne Nat D1 I) (hDT : @Ne Nat D1 T) (hDIt : @Ne Nat D1 It) (hDLv : @Ne Nat D1 Lv) (hDC : @Ne Nat D1 C)
    (hm1 : m' (Str.ofString "toc") = some (.ref T)) (hm2 : m' (Str.ofString "items") = some (.ref It)) (hm3 : m' (Str.ofString "levels") = some (.ref Lv)) (hm4 : m' (Str.ofString "cells") = some (.ref C)) :
    TurnPost h₀ L (J1 cs ws T It Lv C (i + 1)) I o s₁ Q .next { s₁ with heap := h', toks := tk } := by
  refine ⟨h', tk, m', _, rfl, F, ?_, ?_, vt ++ [Value.ref D1], ct, vi ++ [Value.str (itemF cs i) t4], ci, vl ++ [Value.int (levF cs i) t5], cl, (D1, tupOf [Value.int (levF cs i) t1, Value.str (namesL.getD (nameAt (cs.getD i 0)) (Str.ofString "")) t2, Value.str (Str.ofString "t" ++ numS i) t3]) :: tups, rfl, ?_, ?_, ?_, ?_, hm1, hm2, hm3, hm4⟩
  · intro p hp
    refine N p ?_
    simp only [List.mem_cons] at hp ⊢
    rcases hp with h | h | h | h | h | h | h <;> simp only [h, true_or, or_true]
  · intro p hp
    simp only [List.mem_cons] at hp
    rcases hp with h | h | h | h | h | h
    · rw [h]; exact hIT.symm
    · rw [h]; exact hIIt.symm
    · rw [h]; exact hILv.symm
    · rw [h]; exact hIC.symm
    · rw [h]; exact hDI
    · exact hI p h
  · rw [range_snoc]
    exact (hR.mono fun p hp => .tail _ hp).snoc ⟨D1, _, t1, t2, t3, rfl, .head _⟩
  · rw [range_snoc]; exact strs_snoc hS _ _
  · rw [range_snoc]; exact hV.append (.cons _ _ .nil)
  · intro p hp b hb
    rcases List.mem_cons.mp hp with rfl | hp
    · simp only [List.mem_cons, List.not_mem_nil, or_false] at hb
      rcases hb with rfl | rfl | rfl | rfl
      · exact hDT
      · exact hDIt
      · exact hDLv
      · exact hDC
    · exact hoff p hp b hb
end Mine
namespace Mine
/-- the made empty lists: their addresses and what they hold -/
def cellsOf (bl : List Addr) (bs : List (List Value × Nat)) : List (Addr × Obj) := List.zipWith (fun a x => (a, listOf x.1.toArray x.2)) bl bs
theorem cellsOf_snoc (bl : List Addr) (bs : List (List Value × Nat)) (h : bl.length = bs.length) (a : Addr) (x : List Value × Nat) : cellsOf (bl ++ [a]) (bs ++ [x]) = cellsOf bl bs ++ [(a, listOf x.1.toArray x.2)] := by
  unfold cellsOf
  rw [List.zipWith_append h]; rfl
theorem cellsOf_fst {bl : List Addr} {bs : List (List Value × Nat)} {p : Addr × Obj} (h : p ∈ cellsOf bl bs) : p.1 ∈ bl := by
  induction bl generalizing bs with
  | nil => cases h
  | cons a bl ih =>
    cases bs with
    | nil => cases h
    | cons x bs =>
      rcases List.mem_cons.mp h with rfl | h
      · exact .head _
      · exact .tail _ (ih h)
theorem upd_cells : ∀ {bl : List Addr} {bs : List (List Value × Nat)} {base : List (Addr × Obj)} {j : Nat} {a : Addr} {y x : List Value × Nat} (_ : bl[j]? = some a) (_ : bs[j]? = some y) (_ : bl.Nodup) (_ : ∀ p ∈ base, p.1 ∉ bl),
    Upd a (listOf y.1.toArray y.2) (listOf x.1.toArray x.2) (cellsOf bl bs ++ base) (cellsOf bl (bs.set j x) ++ base)
  | b :: bl, z :: bs, base, 0, a, y, x, ha, hy, hn, hb => by
    have e1 : b = a := Option.some.inj ha
    have e2 : z = y := Option.some.inj hy
    subst e1
    subst e2
    show Upd b _ _ ((b, _) :: (cellsOf bl bs ++ base)) ((b, _) :: (cellsOf bl bs ++ base))
    refine Upd.head fun p hp => ?_
    rcases List.mem_append.mp hp with hp | hp
    · exact fun q => (List.nodup_cons.mp hn).1 (q ▸ cellsOf_fst hp)
    · exact fun q => hb p hp (q ▸ .head _)
  | b :: bl, z :: bs, base, j + 1, a, y, x, ha, hy, hn, hb => by
    show Upd a _ _ ((b, _) :: (cellsOf bl bs ++ base)) ((b, _) :: (cellsOf bl (bs.set j x) ++ base))
    refine Upd.tail ?_ (upd_cells (bl := bl) (bs := bs) ha hy (List.nodup_cons.mp hn).2 fun p hp q => hb p hp (.tail _ q))
    exact fun q => (List.nodup_cons.mp hn).1 (by rw [show b = a from q]; exact List.mem_of_getElem? (l := bl) ha)
theorem mem_cells : ∀ {bl : List Addr} {bs : List (List Value × Nat)} {j : Nat} {a : Addr} {y : List Value × Nat} (_ : bl[j]? = some a) (_ : bs[j]? = some y), (a, listOf y.1.toArray y.2) ∈ cellsOf bl bs
  | b :: bl, z :: bs, 0, a, y, ha, hy => by
    cases ha
    cases hy
    exact .head _
  | b :: bl, z :: bs, j + 1, a, y, ha, hy => .tail _ (mem_cells (bl := bl) (bs := bs) ha hy)

section
open LCg
variable {prog : Program} {w : World} {A : Around} {s : Shared} {h₀ : Heap} {L : Addr} {m : Str → Option Value} {env : Env}
/-- a comprehension of empty lists -/
theorem rest_empties {x : Str} {scope : Scope} {cl : List (Str × Addr)} {pos : Pos} {P : Nat → Value → Prop} {Fin : List Value → List (Addr × Obj) → Prop} {base : List (Addr × Obj)} {n : Nat}
    (fin : ∀ bl : List Addr, bl.length = n → bl.Nodup → (∀ p ∈ base, p.1 ∉ bl) → Fin (bl.map .ref) (cellsOf bl (List.replicate n ([], 0)) ++ base)) :
    ∀ (k i : Nat) (bl : List Addr), i + k = n → bl.length = i → bl.Nodup → (∀ p ∈ base, p.1 ∉ bl) → CompRest prog w A h₀ L m env (.List [] pos) x scope cl s (fun _ => True) P Fin k i (bl.map .ref) (cellsOf bl (List.replicate i ([], 0)) ++ base)
  | 0, i, bl, hk, hl, hn, hb => CompRest.zero (by
      have e : i = n := by omega
      subst e
      exact fin bl hl hn hb)
  | k + 1, i, bl, hk, hl, hn, hb => by
    refine CompRest.succ fun v I oI C oC D m₂ h tk E' _ _ _ F N off hne => ?_
    refine List_ ?_
    refine wpAny_mono (Q := fun vs s' => vs = [] ∧ s' = { s with heap := h, toks := tk }) (E := E') ?_ ?_ (fun _ _ e => e)
    · exact fun Γ p hΓ => ⟨rfl, rfl⟩
    · rintro vs s' ⟨rfl, rfl⟩
      refine newList_K F N fun q h' F' N' lt => ?_
      refine CompEnd.intro (s₁ := { s with heap := h, toks := tk }) F' N' (cellsOf (bl ++ [q]) (List.replicate (i + 1) ([], 0)) ++ base) ?_ ?_ trivial ?_
      · intro p hp
        rw [List.replicate_succ', cellsOf_snoc _ _ (by rw [List.length_replicate]; exact hl)] at hp
        simp only [List.mem_cons, List.mem_append, List.not_mem_nil, or_false] at hp ⊢
        rcases hp with h1 | h1 | h1 | (h1 | h1) | h1
        · exact .inr (.inl h1)
        · exact .inr (.inr (.inl h1))
        · exact .inr (.inr (.inr (.inl h1)))
        · exact .inr (.inr (.inr (.inr (.inl h1))))
        · exact .inl h1
        · exact .inr (.inr (.inr (.inr (.inr h1))))
      · refine Off3.of fun p hp => ?_
        rw [List.replicate_succ', cellsOf_snoc _ _ (by rw [List.length_replicate]; exact hl)] at hp
        simp only [List.mem_append, List.mem_cons, List.not_mem_nil, or_false] at hp
        rcases hp with (h1 | h1) | h1
        · exact off.mem p (List.mem_append.mpr (.inl h1))
        · rw [h1]
          exact ⟨Nat.ne_of_gt (lt _ (.head _)), Nat.ne_of_gt (lt _ (.tail _ (.head _))), Nat.ne_of_gt (lt _ (.tail _ (.tail _ (.head _))))⟩
        · exact off.mem p (List.mem_append.mpr (.inr h1))
      · have hq : q ∉ bl := fun hq => by
          obtain ⟨j, hj, e⟩ := List.getElem_of_mem hq
          have hm := mem_cells (bs := List.replicate i ([], 0)) (y := ([], 0)) (List.getElem?_eq_getElem hj) (by rw [List.getElem?_replicate, if_pos (by omega)])
          have := lt _ (.tail _ (.tail _ (.tail _ (List.mem_append.mpr (.inl hm)))))
          rw [e] at this
          exact Nat.lt_irrefl _ this
        have := rest_empties (x := x) (scope := scope) (cl := cl) (pos := pos) (P := P) fin k (i + 1) (bl ++ [q]) (by omega) (by rw [List.length_append, List.length_singleton, hl]) (List.nodup_append.mpr ⟨hn, List.nodup_cons.mpr ⟨by simp, List.nodup_nil⟩, fun a ha b hb e => by
          rw [List.mem_singleton] at hb; subst hb; subst e; exact hq ha⟩) (fun p hp hm => by
          rcases List.mem_append.mp hm with hm | hm
          · exact hb p hp hm
          · rw [List.mem_singleton] at hm
            have := lt p (.tail _ (.tail _ (.tail _ (List.mem_append.mpr (.inr hp)))))
            rw [hm] at this
            exact Nat.lt_irrefl _ this)
        rw [List.map_append] at this
        exact this
end
end Mine
namespace Mine
/-- the place that the law's walk back finds -/
def searchF (lev : Nat → Int) (v : Int) : Nat → Nat
  | 0 => 0
  | p + 1 => if lev p ≥ v then searchF lev v p else p + 1
def parF (lev : Nat → Int) (k : Nat) : Nat := searchF lev (lev k) k
theorem searchF_le (lev : Nat → Int) (v : Int) : ∀ p, searchF lev v p ≤ p
  | 0 => Nat.le_refl _
  | p + 1 => by
    unfold searchF
    split
    · exact Nat.le_succ_of_le (searchF_le lev v p)
    · exact Nat.le_refl _
def belF (lev : Nat → Int) (i p : Nat) : List Nat := (List.range i).filter (fun k => parF lev k = p)
def asInts (ks : List Nat) : List Int := ks.map fun k => ((k : Nat) : Int)
theorem fr_but1 {h₀ h : Heap} {L : Addr} {m m₀ : Str → Option Value} {x : Str} {v : Value} (F : Fr h₀ L h m) (e : m x = some v) (e' : ∀ z, z ≠ x → m z = m₀ z) : Fr h₀ L h (fun y => if y = x then some v else m₀ y) := by
  have : (fun y => if y = x then some v else m₀ y) = m := by
    funext y
    by_cases h : y = x
    · rw [if_pos h, h, e]
    · rw [if_neg h, e' y h]
  rw [this]; exact F
/-- what the law's second loop keeps -/
def J2 (lev : Nat → Int) (bl : List Addr) (Bl : Addr) (cB : Nat) (vt vi vl ws : List Value) (ct ci cl : Nat) (tups : List (Addr × Obj)) (T It Lv C : Addr) (i : Nat) (m : Str → Option Value) (nx : List (Addr × Obj)) : Prop :=
  ∃ bs : List (List Value × Nat), bs.length = bl.length ∧ nx = (Bl, listOf (bl.map Value.ref).toArray cB) :: (T, listOf vt.toArray ct) :: (It, listOf vi.toArray ci) :: (Lv, listOf vl.toArray cl) :: (C, listOf ws.toArray 0) :: (cellsOf bl bs ++ tups) ∧ (∀ p y, bs[p]? = some y → IntsAre y.1 (asInts (belF lev i p))) ∧
      m (Str.ofString "toc") = some (.ref T) ∧ m (Str.ofString "items") = some (.ref It) ∧ m (Str.ofString "levels") = some (.ref Lv) ∧ m (Str.ofString "below") = some (.ref Bl)
theorem getD_map_range {f : Nat → Int} {n j : Nat} (h : j < n) : ((List.range n).map f).getD j 0 = f j := by
  rw [List.getD_eq_getElem?_getD, List.getElem?_map, List.getElem?_range h]; rfl
end Mine
namespace Mine
section
variable {prog : Program} {w : World} {A : Around} {E : Value → Shared → Prop} {s : Shared} {env : Env} {h₀ : Heap} {body : List Stmt} {Q : Flow → Shared → Prop}
/-- a while that turns one name's natural number down -/
theorem loop_down {x : Str} {test : PySem.Expr} {orelse : List Stmt} {pos : Pos} {m₀ : Str → Option Value} {news : List (Addr × Obj)} {n₀ : Nat} {t₀ : Tok} (Inv : Nat → Prop)
    (F : Fr h₀ env.locals s.heap m₀) (N : News h₀ env.locals s.heap news) (ht : 0 < s.toks) (hx : m₀ x = some (.int (n₀ : Int) t₀)) (hi : Inv n₀)
    (turn : ∀ n t h tk, 0 < tk → Inv n → Fr h₀ env.locals h (fun y => if y = x then some (.int (n : Int) t) else m₀ y) → News h₀ env.locals h news →
      wpAny (model prog w) A (isTrue test env (eval test env)) (fun b s₂ =>
        if b = true then wpAny (model prog w) A (execs body env) (WhilePost h₀ env.locals (fun m' nx' => nx' = news ∧ ∃ n' t, n' < n ∧ Inv n' ∧ m' x = some (.int (n' : Int) t) ∧ ∀ z, z ≠ x → m' z = m₀ z) { s with heap := h, toks := tk } Q) (fun _ _ => False) s₂
        else wpAny (model prog w) A (execs orelse env) Q (fun _ _ => False) s₂) (fun _ _ => False) { s with heap := h, toks := tk }) :
    wpAny (model prog w) A (exec (.While test body orelse pos) env) Q E s := by
  refine loop_while (n₀ := n₀) (J := fun n m nx => nx = news ∧ Inv n ∧ (∃ t, m x = some (.int (n : Int) t)) ∧ ∀ z, z ≠ x → m z = m₀ z) F N ht ⟨rfl, hi, ⟨_, hx⟩, fun _ _ => rfl⟩ ?_
  rintro n m₁ nx h tk htk ⟨rfl, hi', ⟨t, hx'⟩, hz⟩ F₁ N₁
  refine wpAny_mono (turn n t h tk htk hi' (fr_but1 F₁ hx' hz) N₁) (fun b s₂ h₂ => ?_) fun _ _ e => e
  cases b with
  | false => exact h₂
  | true =>
    simp only [if_true] at h₂ ⊢
    refine wpAny_mono h₂ (fun f s₃ h₃ => ?_) fun _ _ e => e
    cases f with
    | ret v => exact h₃
    | brk => exact h₃
    | next =>
      obtain ⟨h', tk', m', nx', e, F', N', rfl, n', t', hlt, hi'', hx'', hz''⟩ := h₃
      exact ⟨h', tk', m', _, e, F', N', n', hlt, rfl, hi'', ⟨t', hx''⟩, hz''⟩
    | cont =>
      obtain ⟨h', tk', m', nx', e, F', N', rfl, n', t', hlt, hi'', hx'', hz''⟩ := h₃
      exact ⟨h', tk', m', _, e, F', N', n', hlt, rfl, hi'', ⟨t', hx''⟩, hz''⟩
end
end Mine
namespace Mine
theorem search_down {lev : Nat → Int} {n i p : Nat} (hp : (0 : Int) < (p : Int)) (hpi : p ≤ i) (hi : i < n) (h : ((List.range n).map lev).getD ((i : Int)).toNat 0 ≤ ((List.range n).map lev).getD ((p : Int) - 1).toNat 0) :
    searchF lev (lev i) p = searchF lev (lev i) (p - 1) := by
  obtain ⟨q, rfl⟩ : ∃ q, p = q + 1 := ⟨p - 1, by omega⟩
  have e1 : ((i : Int)).toNat = i := by omega
  have e2 : (((q + 1 : Nat) : Int) - 1).toNat = q := by omega
  rw [e1, e2, getD_map_range hi, getD_map_range (by omega)] at h
  show (if lev q ≥ lev i then searchF lev (lev i) q else q + 1) = searchF lev (lev i) q
  rw [if_pos h]
theorem search_stop {lev : Nat → Int} {n i p : Nat} (hp : (0 : Int) < (p : Int)) (hpi : p ≤ i) (hi : i < n) (h : ¬ ((List.range n).map lev).getD ((i : Int)).toNat 0 ≤ ((List.range n).map lev).getD ((p : Int) - 1).toNat 0) :
    searchF lev (lev i) p = p := by
  obtain ⟨q, rfl⟩ : ∃ q, p = q + 1 := ⟨p - 1, by omega⟩
  have e1 : ((i : Int)).toNat = i := by omega
  have e2 : (((q + 1 : Nat) : Int) - 1).toNat = q := by omega
  rw [e1, e2, getD_map_range hi, getD_map_range (by omega)] at h
  show (if lev q ≥ lev i then searchF lev (lev i) q else q + 1) = q + 1
  rw [if_neg h]
theorem search_zero {lev : Nat → Int} {v : Int} {p : Nat} (hp : ¬ (0 : Int) < (p : Int)) : searchF lev v p = p := by
  have : p = 0 := by omega
  subst this; rfl
theorem belF_next (lev : Nat → Int) (i p : Nat) : belF lev (i + 1) p = if parF lev i = p then belF lev i p ++ [i] else belF lev i p := by
  unfold belF
  rw [List.range_succ, List.filter_append]
  by_cases h : parF lev i = p
  · simp [h]
  · simp [h]
theorem j2_turn {h₀ : Heap} {L I : Addr} {o : Obj} {s₁ : Shared} {Q : Flow → Shared → Prop} {h' : Heap} {tk : Nat} {m' : Str → Option Value} {lev : Nat → Int} {bl : List Addr} {Bl : Addr} {cB : Nat} {vt vi vl ws : List Value} {ct ci cl : Nat} {tups : List (Addr × Obj)} {T It Lv C : Addr} {i p : Nat} {bs : List (List Value × Nat)} {y : List Value × Nat} {t : Tok}
    (hI : ∀ p ∈ (Bl, listOf (bl.map Value.ref).toArray cB) :: (T, listOf vt.toArray ct) :: (It, listOf vi.toArray ci) :: (Lv, listOf vl.toArray cl) :: (C, listOf ws.toArray 0) :: (cellsOf bl bs ++ tups), p.1 ≠ I)
    (hl : bs.length = bl.length) (hbv : ∀ p y, bs[p]? = some y → IntsAre y.1 (asInts (belF lev i p))) (hy : bs[p]? = some y) (hpar : parF lev i = p)
    (F : Fr h₀ L h' m') (N : News h₀ L h' ((I, o) :: (Bl, listOf (bl.map Value.ref).toArray cB) :: (T, listOf vt.toArray ct) :: (It, listOf vi.toArray ci) :: (Lv, listOf vl.toArray cl) :: (C, listOf ws.toArray 0) :: (cellsOf bl (bs.set p (y.1 ++ [Value.int (i : Int) t], y.2 + 1)) ++ tups)))
    (hm1 : m' (Str.ofString "toc") = some (.ref T)) (hm2 : m' (Str.ofString "items") = some (.ref It)) (hm3 : m' (Str.ofString "levels") = some (.ref Lv)) (hm4 : m' (Str.ofString "below") = some (.ref Bl)) :
    TurnPost h₀ L (J2 lev bl Bl cB vt vi vl ws ct ci cl tups T It Lv C (i + 1)) I o s₁ Q .next { s₁ with heap := h', toks := tk } := by
  have hblI : ∀ a ∈ bl, a ≠ I := by
    intro a ha
    obtain ⟨j, hj⟩ := List.mem_iff_getElem?.mp ha
    have hj2 : j < bs.length := by rw [hl]; exact (List.getElem?_eq_some_iff.mp hj).1
    exact hI _ (.tail _ (.tail _ (.tail _ (.tail _ (.tail _ (List.mem_append.mpr (.inl (mem_cells hj (List.getElem?_eq_getElem hj2)))))))))
  refine ⟨h', tk, m', _, rfl, F, N, ?_, bs.set p (y.1 ++ [Value.int (i : Int) t], y.2 + 1), by rw [List.length_set, hl], rfl, ?_, hm1, hm2, hm3, hm4⟩
  · intro q hq
    simp only [List.mem_cons, List.mem_append] at hq
    rcases hq with h | h | h | h | h | h | h
    · rw [h]; exact hI _ (.head _)
    · rw [h]; exact hI _ (.tail _ (.head _))
    · rw [h]; exact hI _ (.tail _ (.tail _ (.head _)))
    · rw [h]; exact hI _ (.tail _ (.tail _ (.tail _ (.head _))))
    · rw [h]; exact hI _ (.tail _ (.tail _ (.tail _ (.tail _ (.head _)))))
    · exact hblI _ (cellsOf_fst h)
    · exact hI _ (.tail _ (.tail _ (.tail _ (.tail _ (.tail _ (List.mem_append.mpr (.inr h)))))))
  · intro q z hz
    rw [List.getElem?_set] at hz
    rw [belF_next]
    by_cases h : p = q
    · subst h
      rw [if_pos rfl] at hz
      split at hz
      · cases hz
        rw [if_pos hpar]
        unfold asInts
        rw [List.map_append]
        exact (hbv _ _ hy).append (.cons _ _ .nil)
      · cases hz
    · rw [if_neg h] at hz
      rw [if_neg (by rw [hpar]; exact h)]
      exact hbv _ _ hz
end Mine
namespace Mine
theorem off1_mem {D : Addr} {l : List (Addr × Obj)} (h : LCg.Off1 D l) : ∀ p ∈ l, p.1 ≠ D := by
  induction l with
  | nil => intro p hp; cases hp
  | cons q r ih =>
    intro p hp
    have h' : (@Ne Nat q.1 D) ∧ LCg.Off1 D r := h
    rcases List.mem_cons.mp hp with e | hp
    · rw [e]; exact h'.1
    · exact ih h'.2 p hp
theorem belF_length (lev : Nat → Int) (i p : Nat) : (asInts (belF lev i p)).length ≤ i := by
  have h := List.length_filter_le (fun k => decide (parF lev k = p)) (List.range i)
  rw [List.length_range] at h
  show ((belF lev i p).map _).length ≤ i
  rw [List.length_map]
  exact h
end Mine
open PySem PySem.W PyProof.Rows Mine
set_option Elab.async false
set_option maxRecDepth 100000
namespace Mine1
local macro_rules | `(tactic| cell_enter) => `(tactic| (refine' code_def ?k1 ?k2 ?k3 ?k4 ?k5 ?kA ?kF ?kK ?k6 ?k7 ?k8 ?k9 ?kB ?_ ?c2 ?c3 ?c4 ?c5; (case kA => exact rfl); (case kF => exact rfl); (case kK => assumption); (case k1 => k_asm); (case k2 => k_asm); (case k3 => k_asm); (case k4 => k_asm); (case k5 => k_asm); (case k6 => k_is); (case k7 => k_is); (case k8 => ktr_room); (case k9 => first | exact BindsTo.of_eq rfl | exact binds_K (by k_in) rfl (by k_is) rfl rfl rfl); (case c5 => decide); (case kB => exact locs rfl); (case c2 => exact rfl); (case c3 => exact rfl); (case c4 => exact rfl); k_whole; intro g' L' h' FG' F' N' B' X' T'; (try dsimp only); (try k_lift B')))
local macro_rules | `(tactic| walk_at "execs cons") => `(tactic| ((refine gen_toks (by first | exact Nat.succ_pos _ | assumption | omega) ?_; intro tk9 htk9); (with_reducible refine wpAny_execs_cons ?_); try dsimp only))
local macro_rules | `(tactic| ktr_rel) => `(tactic| first | assumption | exact List.Mem.head _ | exact List.Mem.tail _ (List.Mem.head _) | exact List.Mem.tail _ (by assumption) | exact List.Mem.tail _ (List.Mem.tail _ (by assumption)) | exact List.Mem.tail _ (List.Mem.tail _ (List.Mem.head _)))
local macro_rules | `(tactic| walk_at "truthy ref") => `(tactic| first | (refine' lt_truthy_snoc ?N ?m ?z ?_; (case N => assumption); (case m => ktr_rel); (case z => omega)) | (refine' lt_truthy_nil ?N ?m ?_; (case N => assumption); (case m => ktr_rel)) | (refine' lt_truthy ?N ?m ?z ?_; (case N => assumption); (case m => ktr_rel); (case z => first | omega | (simp only [List.length_append, List.length_cons, List.length_nil]; omega))))
local macro_rules | `(tactic| tb_rel) => `(tactic| first | exact Upd.head (by assumption) | exact Upd.tail (by assumption) (Upd.head (by assumption)) | exact Upd.tail (by assumption) (Upd.tail (by assumption) (Upd.head (by assumption))))
local macro_rules | `(tactic| walk_at "call builtin:list.append") => `(tactic| (refine' lt_append ?F ?N ?U ?z ?_; (case F => assumption); (case N => assumption); (case U => tb_rel); (case z => first | omega | (simp only [List.length_append, List.length_cons, List.length_nil]; omega)); intro h' F' N'))
local macro_rules | `(tactic| walk_at "call builtin:list.pop") => `(tactic| (refine' lt_pop ?F ?N ?U ?z ?_; (case F => assumption); (case N => assumption); (case U => tb_rel); (case z => first | omega | (simp only [List.length_append, List.length_cons, List.length_nil]; omega)); intro h' F' N'))
local macro_rules | `(tactic| walk_at "subscriptTail") => `(tactic| ((with_reducible show wpAny _ _ (subscriptTail _ _ (Value.ref _) (Value.int _ _)) _ _ _); (refine' lt_last ?N ?m ?z ?_ ?s; (case N => assumption); (case m => ktr_rel); (case z => first | assumption | omega); (case s => with_unfolding_all rfl))))
local macro_rules | `(tactic| walk_at "last exec While") => `(tactic| refine halt ?_)
local macro_rules | `(tactic| walk_at "exec While") => `(tactic| refine halt ?_)
local macro_rules | `(tactic| walk_at "call builtin:len") => `(tactic| ((with_reducible show wpAny _ _ (call (Value.builtin "len") [Value.ref _]) _ _ _); (refine' lt_len ?N ?m ?z ?_; (case N => assumption); (case m => ktr_rel); (case z => first | omega | (simp only [List.length_append, List.length_cons, List.length_nil]; omega)))))

set_option maxHeartbeats 4000000 in
theorem names_ok (w : World) (p : Program) (loose : List Str) (mean : ExcName → Option Value) (mg mb : Str → Option Value) :
    ListOk Challenge.rw_ci0010_01.row.prog w (hd.heap_39 w.params) p loose mean mg mb 36 namesL := by
  k_fill
  unfold ListOk
  intro dp un gd cn cs a ccd cl outer A₀ base h₀ L m news s Q E B F X N T hk hpos hd hu hret
  refine wpAny_with_toks (n := 1) hpos ?_
  refine wpAny_call ?_
  k_dflt cell_enter
  k_steps
  rename Fr _ _ _ _ => F9
  rename News _ _ _ _ => N9
  rename ∀ p ∈ news, p.1 < _ => l9
  exact hret _ [_, _, _, _, _, _, _, _] _ _ (by assumption) F9 N9 l9 (.cons _ _ (.cons _ _ (.cons _ _ (.cons _ _ (.cons _ _ (.cons _ _ (.cons _ _ (.cons _ _ .nil))))))))

set_option maxHeartbeats 4000000 in
theorem told_ok (w : World) (p : Program) (loose : List Str) (mean : ExcName → Option Value) (mg mb : Str → Option Value) :
    ListOk Challenge.rw_ci0010_01.row.prog w (hd.heap_39 w.params) p loose mean mg mb 43 toldL := by
  k_fill
  unfold ListOk
  intro dp un gd cn cs a ccd cl outer A₀ base h₀ L m news s Q E B F X N T hk hpos hd hu hret
  refine wpAny_with_toks (n := 1) hpos ?_
  refine wpAny_call ?_
  k_dflt cell_enter
  k_steps
  rename Fr _ _ _ _ => F9
  rename News _ _ _ _ => N9
  rename ∀ p ∈ news, p.1 < _ => l9
  exact hret _ [_, _, _, _, _, _, _, _] _ _ (by assumption) F9 N9 l9 (.cons _ _ (.cons _ _ (.cons _ _ (.cons _ _ (.cons _ _ (.cons _ _ (.cons _ _ (.cons _ _ .nil))))))))
end Mine1
open PySem PySem.W PyProof.Rows
set_option Elab.async false
set_option maxRecDepth 100000
namespace Mine
def catS : List Str → Str
  | [] => Str.ofString ""
  | x :: r => x ++ catS r
theorem str_ext {x y : Str} (h : x.cps.toList = y.cps.toList) : x = y := by
  cases x; cases y; exact congrArg Str.mk (Array.toList_inj.mp h)
theorem list_app (x y : Str) : (x ++ y).cps.toList = x.cps.toList ++ y.cps.toList := by rw [Str.cps_append, Array.toList_append]
theorem list_nil : (Str.ofString "").cps.toList = [] := by decide +kernel
theorem join_cat : ∀ ys : List Str, Txt.join (Str.ofString "") ys = catS ys := by
  intro ys
  show Builtin.Str.glued (Str.ofString "") ys = catS ys
  rw [StrLaws.glued_eq_join]
  induction ys with
  | nil => rfl
  | cons x r ih =>
    cases r with
    | nil =>
      apply str_ext
      show x.cps.toList = (x ++ Str.ofString "").cps.toList
      rw [list_app, list_nil, List.append_nil]
    | cons y r =>
      apply str_ext
      show (x ++ Str.ofString "" ++ Str.join (Str.ofString "") (y :: r)).cps.toList = (x ++ catS (y :: r)).cps.toList
      rw [ih, list_app, list_app, list_app, list_nil, List.append_nil]
theorem catS_length : ∀ ys : List Str, (catS ys).length = (ys.map (·.length)).sum
  | [] => by decide +kernel
  | x :: r => by
    show (x ++ catS r).length = _
    rw [Str.length_append, catS_length r]
    rfl

def sEnd : Str := Str.ofString "</li>\n"
def sUlEnd : Str := Str.ofString "</ul>\n"
def sNl : Str := Str.ofString "\n"
def innS (x : Str) : Str := if x.length = 0 then Str.ofString "" else sNl ++ x
def rowS (items : List Str) (LL : Nat → Str) (k : Nat) : Str := sLi ++ items.getD k (Str.ofString "") ++ innS (LL (k + 1)) ++ sEnd

def BelIn (news : List (Addr × Obj)) (Bl : Addr) (n : Nat) (bel : Nat → List Nat) : Prop :=
  ∃ (bl : List Addr) (c : Nat), bl.length = n + 1 ∧ (Bl, listOf (bl.map Value.ref).toArray c) ∈ news ∧ ∀ p, p ≤ n → ∃ a us c', bl[p]? = some a ∧ (a, listOf us.toArray c') ∈ news ∧ IntsAre us (asInts (bel p))
theorem BelIn.mono {news news' : List (Addr × Obj)} {Bl : Addr} {n : Nat} {bel : Nat → List Nat} (h : BelIn news Bl n bel) (hs : ∀ p ∈ news, p ∈ news') : BelIn news' Bl n bel := by
  obtain ⟨bl, c, h1, h2, h3⟩ := h
  refine ⟨bl, c, h1, hs _ h2, fun p hp => ?_⟩
  obtain ⟨a, us, c', e1, e2, e3⟩ := h3 p hp
  exact ⟨a, us, c', e1, hs _ e2, e3⟩

structure LLFacts (n : Nat) (bel : Nat → List Nat) (items : List Str) (LL : Nat → Str) : Prop where
  le : n ≤ 20
  mem : ∀ p, p ≤ n → ∀ k ∈ bel p, p ≤ k ∧ k < n
  len : items.length = n
  short : ∀ y ∈ items, y.length ≤ 100
  small : ∀ p, (LL p).length ≤ 100000
  eq : ∀ p, p ≤ n → LL p = if bel p = [] then Str.ofString "" else sUl ++ catS ((bel p).map (rowS items LL)) ++ sUlEnd
  few : ∀ p, p ≤ n → (bel p).length ≤ 20

def LlAt (prog : Program) (w : World) (K : Frag) (p : Program) (loose : List Str) (mean : ExcName → Option Value) (mg mb : Str → Option Value) (f : Addr) (n : Nat) (bel : Nat → List Nat) (items : List Str) (LL : Nat → Str) (place : Nat) : Prop :=
  ∀ (dp un : Nat) (gd : Option (List Code)) (cn : Str) (cs : Scope) (a : Addr) (ccd : Value) (cl : List (Str × Addr)) (outer : List Env) (A₀ : Around) (base h₀ : Heap) (L : Addr) (m : Str → Option Value) (news : List (Addr × Obj)) (s : Shared) (Bl It : Addr) (vi : List Value) (ci : Nat) (z : Int) (tk : Tok) (Q E : Value → Shared → Prop),
    Below A₀ base outer h₀ → Fr h₀ L s.heap m → K.In h₀ → News h₀ L s.heap news → Top p loose mean mg mb h₀ → cs.kind = .function → 0 < s.toks →
    BelIn news Bl n bel → (It, listOf vi.toArray ci) ∈ news → StrsAre vi items → z = (place : Nat) → dp + (n - place) + 1 < recursionLimit → un + 8 * (n - place + 1) + 100 < cLine →
    (∀ t h' tk', 0 < tk' → Fr h₀ L h' m → News h₀ L h' news → Q (.str (LL place) t) { s with heap := h', toks := tk' }) →
    wpAny (model prog w) (ktrTop dp un gd cn cs L a ccd cl outer) (call (.ref f) [.ref Bl, .ref It, .int z tk]) Q E s
theorem ll_use {prog : Program} {w : World} {K : Frag} {p : Program} {loose : List Str} {mean : ExcName → Option Value} {mg mb : Str → Option Value} {f : Addr} {n : Nat} {bel : Nat → List Nat} {items : List Str} {LL : Nat → Str} {place : Nat} {dp un : Nat} {gd : Option (List Code)} {cn : Str} {cs : Scope} {a : Addr} {ccd : Value} {cl : List (Str × Addr)} {outer : List Env} {A₀ : Around} {base h₀ : Heap} {L : Addr} {m : Str → Option Value} {news : List (Addr × Obj)} {s : Shared} {Bl It : Addr} {vi : List Value} {ci : Nat} {z : Int} {tk : Tok} {Q E : Value → Shared → Prop}
    (C : LlAt prog w K p loose mean mg mb f n bel items LL place) (B : Below A₀ base outer h₀) (F : Fr h₀ L s.heap m) (X : K.In h₀) (N : News h₀ L s.heap news) (T : Top p loose mean mg mb h₀) (hk : cs.kind = .function) (hpos : 0 < s.toks)
    (hB : BelIn news Bl n bel) (hI : (It, listOf vi.toArray ci) ∈ news) (hS : StrsAre vi items) (hz : z = (place : Nat)) (hd : dp + (n - place) + 1 < recursionLimit) (hu : un + 8 * (n - place + 1) + 100 < cLine)
    (ret : ∀ t h' tk', 0 < tk' → Fr h₀ L h' m → News h₀ L h' news → Q (.str (LL place) t) { s with heap := h', toks := tk' }) :
    wpAny (model prog w) (ktrTop dp un gd cn cs L a ccd cl outer) (call (.ref f) [.ref Bl, .ref It, .int z tk]) Q E s :=
  C _ _ _ _ _ _ _ _ _ _ _ _ _ _ _ _ _ _ _ _ _ _ _ _ B F X N T hk hpos hB hI hS hz hd hu ret
end Mine
namespace Mine
section
variable {prog : Program} {w : World} {A : Around} {E : Value → Shared → Prop} {s : Shared} {h₀ : Heap} {L D a : Addr} {news : List (Addr × Obj)} {us : List Value} {n c : Nat}
theorem eq_nil {ns : List Int} {b : Bool} {Q : Value → Shared → Prop} (N : News h₀ L s.heap news) (hm : (a, listOf us.toArray c) ∈ news) (hi : IntsAre us ns) (hm' : (D, listOf #[] n) ∈ news) (hu : A.units + 64 < cLine) (hb : decide (ns = []) = b)
    (h : Q (.bool b) s) : wpAny (model prog w) A (compareOp .Eq (.ref a) (.ref D)) Q E s := by
  subst hb
  exact eq_intsK (lt_is N hm) hi (lt_is (vs := []) N hm') .nil hu h
theorem join_step {t : Tok} {ys : List Str} {Q : Value → Shared → Prop} (hpos : 0 < s.toks) (N : News h₀ L s.heap news) (hm : (a, listOf us.toArray c) ∈ news) (hS : StrsAre us ys) (hl : (catS ys).length ≤ 100000)
    (h : ∀ t' k, 0 < k → Q (.str (catS ys) t') { s with toks := k }) : wpAny (model prog w) A (call (.builtin "str.join") [.str (Str.ofString "") t, .ref a]) Q E s := by
  refine wpAny_with_toks (n := 1) hpos (join_list (lt_is N hm) (by rw [List.toList_toArray]; exact hS) ?_ fun t' k hk => ?_)
  · have e : (Str.ofString "").length = 0 := by decide +kernel
    rw [e, ← catS_length]; omega
  · rw [join_cat]; exact h t' k hk
end
theorem catS_append (a b : List Str) : catS (a ++ b) = catS a ++ catS b := by
  apply str_ext
  rw [list_app]
  induction a with
  | nil =>
    rw [show catS [] = Str.ofString "" from rfl, list_nil]; rfl
  | cons x r ih =>
    show (x ++ catS (r ++ b)).cps.toList = (x ++ catS r).cps.toList ++ _
    rw [list_app, list_app, ih, List.append_assoc]
end Mine
namespace Mine
theorem asInts_get {ks : List Nat} {i : Nat} {n : Int} (h : (asInts ks)[i]? = some n) : ∃ k : Nat, ks[i]? = some k ∧ n = (k : Int) := by
  unfold asInts at h
  rw [List.getElem?_map] at h
  cases hk : ks[i]? with
  | none => rw [hk] at h; cases h
  | some k => rw [hk] at h; exact ⟨k, rfl, (Option.some.inj h).symm⟩
theorem allLt_ne {d : Addr} {l : List (Addr × Obj)} (h : AllLt d l) : ∀ p ∈ l, p.1 ≠ d := fun p hp => Nat.ne_of_lt (kst_ltOf h p hp)
theorem take_next {α β : Type} (f : α → β) {l : List α} {i : Nat} {x : α} (h : l[i]? = some x) : (l.take (i + 1)).map f = (l.take i).map f ++ [f x] := by
  rw [List.take_add_one, h, List.map_append]; rfl
/-- a turn of a loop that writes rows -/
theorem rows_turn {h₀ : Heap} {L I Rw Bl It : Addr} {o : Obj} {rest : List (Addr × Obj)} {s₁ : Shared} {Q : Flow → Shared → Prop} {h' : Heap} {tk : Nat} {m' : Str → Option Value} {vr : List Value} {c i : Nat} {row : Nat → Str} {ks : List Nat} {k : Nat} {x : Str} {t : Tok}
    (hI : I ≠ Rw) (hIr : ∀ p ∈ rest, p.1 ≠ I) (hk : ks[i]? = some k) (hR : StrsAre vr ((ks.take i).map row)) (hx : x = row k) (F : Fr h₀ L h' m') (N : News h₀ L h' ((I, o) :: (Rw, listOf (vr ++ [Value.str x t]).toArray c) :: rest))
    (h1 : m' (Str.ofString "rows") = some (.ref Rw)) (h2 : m' (Str.ofString "below") = some (.ref Bl)) (h3 : m' (Str.ofString "items") = some (.ref It)) :
    TurnPost h₀ L (fun m nx => ∃ vr c, nx = (Rw, listOf vr.toArray c) :: rest ∧ StrsAre vr ((ks.take (i + 1)).map row) ∧ m (Str.ofString "rows") = some (.ref Rw) ∧ m (Str.ofString "below") = some (.ref Bl) ∧ m (Str.ofString "items") = some (.ref It)) I o s₁ Q .next { s₁ with heap := h', toks := tk } := by
  refine ⟨_, _, _, _, rfl, F, N, fun p hp => ?_, _, _, rfl, ?_, h1, h2, h3⟩
  · rcases List.mem_cons.mp hp with rfl | hp
    · exact hI.symm
    · exact hIr p hp
  · rw [take_next row hk, ← hx]
    exact strs_snoc hR _ _
end Mine
namespace Mine
theorem ren_use2 {prog : Program} {w : World} {K : Frag} {p : Program} {loose : List Str} {mean : ExcName → Option Value} {mg mb : Str → Option Value} {f : Addr} {dp un : Nat} {gd : Option (List Code)} {cn : Str} {cs : Scope} {a : Addr} {ccd : Value} {cl : List (Str × Addr)} {outer : List Env} {A₀ : Around} {base h₀ : Heap} {L : Addr} {m : Str → Option Value} {news : List (Addr × Obj)} {s : Shared} {l : Addr} {vs : List Value} {nn : Nat} {rows : List RowT} {X₁ : Str} {Q E : Value → Shared → Prop}
    (C : RenOk prog w K p loose mean mg mb f) (B : Below A₀ base outer h₀) (F : Fr h₀ L s.heap m) (X : K.In h₀) (N : News h₀ L s.heap news) (T : Top p loose mean mg mb h₀) (hk : cs.kind = .function) (hpos : 0 < s.toks) (hl : (l, listOf vs.toArray nn) ∈ news) (hR : RowsIn news vs rows) (hX : renS rows = X₁) (hlen : rows.length ≤ 20) (hsz : ∀ r ∈ rows, r.2.1.length ≤ 8 ∧ r.2.2.length ≤ 8) (hd : dp + 2 < recursionLimit) (hu : un + 16 < cLine)
    (ret : ∀ t h' tk', 0 < tk' → Fr h₀ L h' m → News h₀ L h' news → Q (.str X₁ t) { s with heap := h', toks := tk' }) :
    wpAny (model prog w) (ktrTop dp un gd cn cs L a ccd cl outer) (call (.ref f) [.ref l]) Q E s := by
  subst hX
  exact ren_use C B F X N T hk hpos hl hR hlen hsz hd hu ret
theorem numS_length (k : Nat) (h : k < 100) : (numS k).length ≤ 2 := by
  unfold numS
  have : ∀ k : Fin 100, (Str.ofString (toString ((k.1 : Nat) : Int))).length ≤ 2 := by decide +kernel
  exact this ⟨k, h⟩
theorem getD_mem_len {ys : List Str} {j b : Nat} (hj : j < ys.length) (h : ∀ y ∈ ys, y.length ≤ b) : (ys.getD j (Str.ofString "")).length ≤ b := by
  rw [List.getD_eq_getElem?_getD, List.getElem?_eq_getElem hj]
  exact h _ (List.getElem_mem hj)
theorem rowF_short (cs : List Int) (k : Nat) (h : k < 100) : (rowF cs k).2.1.length ≤ 8 ∧ (rowF cs k).2.2.length ≤ 8 := by
  refine ⟨getD_mem_len (nameAt_lt _) names_len, ?_⟩
  show (Str.ofString "t" ++ numS k).length ≤ 8
  rw [Str.length_append]
  have := numS_length k h
  have e : (Str.ofString "t").length = 1 := by decide +kernel
  omega
theorem itemF_short (cs : List Int) (k : Nat) (h : k < 100) : (itemF cs k).length ≤ 100 := by
  unfold itemF
  simp only [Str.length_append]
  have h1 := numS_length k h
  have h2 : (toldL.getD (nameAt (cs.getD k 0)) (Str.ofString "")).length ≤ 8 := getD_mem_len (nameAt_lt _) told_len
  have e1 : (Str.ofString "<a href=\"#").length = 10 := by decide +kernel
  have e2 : (Str.ofString "\">t").length = 3 := by decide +kernel
  have e3 : (Str.ofString "</a>").length = 4 := by decide +kernel
  omega
theorem told_esc : ∀ j, j < 8 → escS (namesL.getD j (Str.ofString "")) = toldL.getD j (Str.ofString "") := by
  have : ∀ j : Fin 8, escS (namesL.getD j.1 (Str.ofString "")) = toldL.getD j.1 (Str.ofString "") := by decide +kernel
  exact fun j hj => this ⟨j, hj⟩
theorem item_same (cs : List Int) (k : Nat) : itemS (rowF cs k).2.1 (rowF cs k).2.2 = itemF cs k := by
  unfold itemF itemS
  show Str.ofString "<a href=\"#" ++ escS (namesL.getD (nameAt (cs.getD k 0)) (Str.ofString "")) ++ Str.ofString "\">" ++ (Str.ofString "t" ++ numS k) ++ Str.ofString "</a>" = _
  rw [told_esc _ (nameAt_lt _)]
  apply str_ext
  simp only [list_app, List.append_assoc]
  have e : (Str.ofString "\">t").cps.toList = (Str.ofString "\">").cps.toList ++ (Str.ofString "t").cps.toList := by decide +kernel
  rw [e, List.append_assoc]
end Mine
open PySem PySem.W PyProof.Rows Mine
set_option Elab.async false
set_option maxRecDepth 100000
namespace Mine1
local macro_rules | `(tactic| cell_enter) => `(tactic| (refine' code_def ?k1 ?k2 ?k3 ?k4 ?k5 ?kA ?kF ?kK ?k6 ?k7 ?k8 ?k9 ?kB ?_ ?c2 ?c3 ?c4 ?c5; (case kA => exact rfl); (case kF => exact rfl); (case kK => assumption); (case k1 => k_asm); (case k2 => k_asm); (case k3 => k_asm); (case k4 => k_asm); (case k5 => k_asm); (case k6 => k_is); (case k7 => k_is); (case k8 => ktr_room); (case k9 => first | exact BindsTo.of_eq rfl | exact binds_K (by k_in) rfl (by k_is) rfl rfl rfl); (case c5 => decide); (case kB => exact locs rfl); (case c2 => exact rfl); (case c3 => exact rfl); (case c4 => exact rfl); k_whole; intro g' L' h' FG' F' N' B' X' T'; (try dsimp only); (try k_lift B')))
local macro_rules | `(tactic| walk_at "execs cons") => `(tactic| ((refine gen_toks (by first | exact Nat.succ_pos _ | assumption | omega) ?_; intro tk9 htk9); (with_reducible refine wpAny_execs_cons ?_); try dsimp only))
local macro_rules | `(tactic| ktr_rel) => `(tactic| first | assumption | exact List.Mem.head _ | (refine List.Mem.tail _ ?_; ktr_rel))
local macro_rules | `(tactic| walk_at "truthy ref") => `(tactic| first | (refine' lt_truthy_snoc ?N ?m ?z ?_; (case N => assumption); (case m => ktr_rel); (case z => omega)) | (refine' lt_truthy_nil ?N ?m ?_; (case N => assumption); (case m => ktr_rel)) | (refine' lt_truthy ?N ?m ?z ?_; (case N => assumption); (case m => ktr_rel); (case z => first | omega | (simp only [List.length_append, List.length_cons, List.length_nil]; omega))))
local macro_rules | `(tactic| tb_rel) => `(tactic| first | assumption | exact Upd.head (by assumption) | exact Upd.tail (by assumption) (Upd.head (by assumption)) | exact Upd.tail (by assumption) (Upd.tail (by assumption) (Upd.head (by assumption))) | k_upd)
local macro_rules | `(tactic| walk_at "call builtin:list.append") => `(tactic| (refine' lt_append ?F ?N ?U ?z ?_; (case F => assumption); (case N => assumption); (case U => tb_rel); (case z => first | omega | (simp only [List.length_append, List.length_cons, List.length_nil]; omega)); intro h' F' N'))
local macro_rules | `(tactic| walk_at "call builtin:list.pop") => `(tactic| (refine' lt_pop ?F ?N ?U ?z ?_; (case F => assumption); (case N => assumption); (case U => tb_rel); (case z => first | omega | (simp only [List.length_append, List.length_cons, List.length_nil]; omega)); intro h' F' N'))
local macro_rules | `(tactic| walk_at "subscriptTail") => `(tactic| ((with_reducible show wpAny _ _ (subscriptTail _ _ (Value.ref _) (Value.int _ _)) _ _ _); (refine' lt_last ?N ?m ?z ?_ ?s; (case N => assumption); (case m => ktr_rel); (case z => first | assumption | omega); (case s => with_unfolding_all rfl))))
local macro_rules | `(tactic| walk_at "last exec While") => `(tactic| refine halt ?_)
local macro_rules | `(tactic| walk_at "exec While") => `(tactic| refine halt ?_)
local macro_rules | `(tactic| walk_at "call builtin:len") => `(tactic| ((with_reducible show wpAny _ _ (call (Value.builtin "len") [Value.ref _]) _ _ _); (refine' lt_len ?N ?m ?z ?_; (case N => assumption); (case m => ktr_rel); (case z => first | omega | (simp only [List.length_append, List.length_cons, List.length_nil]; omega)))))
local macro_rules | `(tactic| walk_at "getMethod ref") => `(tactic| ((with_reducible show wpAny _ _ (getMethod (Value.ref _) (PySem.Str.ofString "append") _) _ _ _); k_dflt (refine' kl_method ?N ?m PySem.F.slot_list_append PySem.F.type_list_append ?_; (case N => assumption); (case m => ktr_rel))))
local macro_rules | `(tactic| walk_at "subscriptTail") => `(tactic| ((with_reducible show wpAny _ _ (subscriptTail (PySem.Expr.Name (Str.ofString "below") _) _ (Value.ref _) (Value.int _ _)) _ _ _); (refine' lt_item ?N ?m ?z0 ?z1 ?hx ?_ ?s; (case N => assumption); (case hx => assumption); (case m => ktr_rel); (case z0 => omega); (case z1 => omega); (case s => with_unfolding_all rfl))))
local macro_rules | `(tactic| walk_at "call ref") => `(tactic| (k_dflt (refine' ll_use ?kC ?k1 ?k2 ?k3 ?k4 ?k5 ?k6 ?k7 ?kB ?kI ?kS ?kz ?k9 ?k10 ?_; (case kC => assumption); (case k1 => assumption); (case k2 => assumption); (case k3 => assumption); (case k4 => assumption); (case k5 => assumption); (case k6 => rfl); (case k7 => exact Nat.succ_pos _); (case kB => assumption); (case kI => ktr_rel); (case kS => assumption); (case kz => omega); (case k9 => (dsimp only [Around.deeper, ktrTop]; omega)); (case k10 => (dsimp only [Around.deeper, ktrTop]; omega)); intro t8 h8 tk8 hpos8 F8 N8)))
local macro_rules | `(tactic| walk_at "subscriptTail") => `(tactic| ((with_reducible show wpAny _ _ (subscriptTail (PySem.Expr.Name (Str.ofString "items") _) _ (Value.ref _) (Value.int _ _)) _ _ _); k_dflt ((refine' str_item ?N ?m ?S ?z1 ?z2 ?z3 (b := 100) ?z4 ?_ ?s; (case N => assumption); (case m => ktr_rel); (case S => assumption); (case z1 => omega); (case z2 => assumption); (case z3 => assumption); (case z4 => assumption); (case s => with_unfolding_all rfl)); intro t8 hl8)))
local macro_rules | `(tactic| walk_at "call builtin:str.join") => `(tactic| (k_dflt ((refine' join_step ?p ?N ?m ?S ?l ?_; (case p => first | exact Nat.succ_pos _ | assumption); (case N => assumption); (case m => ktr_rel); (case S => assumption); (case l => assumption)); intro t8 tk8 hpos8)))
local macro_rules | `(tactic| walk_at "exec For Name Subscript cons nil") => `(tactic| refine halt ?_)
set_option maxHeartbeats 4000000 in
theorem ll_ok (w : World) (p : Program) (loose : List Str) (mean : ExcName → Option Value) (mg mb : Str → Option Value) {n : Nat} {bel : Nat → List Nat} {items : List Str} {LL : Nat → Str} (LF : LLFacts n bel items LL) : ∀ (d place : Nat), place ≤ n → n - place < d →
    LlAt Challenge.rw_ci0010_01.row.prog w (hd.heap_39 w.params) p loose mean mg mb 50 n bel items LL place := by
  intro d
  induction d with
  | zero => intro place _ h; exact absurd h (Nat.not_lt_zero _)
  | succ d ih =>
  intro place hpl hd0
  k_fill
  unfold LlAt
  intro dp un gd cn cs a ccd cl outer A₀ base h₀ L m news s Bl It vi ci z tk Q E B F X N T hk hpos hB hI hS hz hd hu hret
  refine wpAny_back (R := fun t => .str (LL place) t) hpos hret ?_
  obtain ⟨bl, cB, hbl, hBm, hBe⟩ := hB
  obtain ⟨ap, up, cp, hap, ham, hau⟩ := hBe place hpl
  have hbp : (bl.map Value.ref)[z.toNat]? = some (.ref ap) := by rw [hz, show ((place : Nat) : Int).toNat = place from by omega, List.getElem?_map, hap]; rfl
  have hz0 : 0 ≤ z := by omega
  have hz1 : z < 100 := by have := LF.le; omega
  refine wpAny_call ?_
  k_dflt cell_enter
  k_steps
  rename Fr _ _ _ _ => F9
  rename News _ _ _ _ => N9
  rename_i D0 _ lD0
  have hle := LF.le
  cases hks : bel place with
  | nil =>
    refine eq_nil (b := true) N9 (.tail _ ham) hau (.head _) (by dsimp only [Around.deeper, ktrTop]; omega) (by rw [hks]; rfl) ?_
    k_steps
    have e := LF.eq place hpl
    rw [if_pos hks] at e
    rw [e]
    exact ⟨_, _, _, rfl, rfl, by assumption, fun p hp => by (rename News _ _ _ (_ :: news) => kN9; exact kN9 p (List.Mem.tail _ hp))⟩
  | cons k0 ks =>
    refine eq_nil (b := false) N9 (.tail _ ham) hau (.head _) (by dsimp only [Around.deeper, ktrTop]; omega) (by rw [hks]; rfl) ?_
    k_steps
    rename_i Rw _ lRw _ F8 N8 tk9 hpos9
    have hRn : ∀ p ∈ (D0, listOf #[] 0) :: news, p.1 ≠ Rw := fun p hp => by
      rcases List.mem_cons.mp hp with rfl | hp
      · exact Nat.ne_of_lt lRw.1
      · exact allLt_ne lRw.2 p hp
    refine unhalt ?_
    refine wpAny_For ?_
    k_steps
    refine loop_list (l := ap) (vs := up) (nn := cp) (J := fun i m nx => ∃ vr c, nx = (Rw, listOf vr.toArray c) :: (D0, listOf #[] 0) :: news ∧ StrsAre vr (((bel place).take i).map (rowS items LL)) ∧ m (Str.ofString "rows") = some (.ref Rw) ∧ m (Str.ofString "below") = some (.ref Bl) ∧ m (Str.ofString "items") = some (.ref It)) rfl F8 N8 hpos9
      ⟨[], 0, rfl, .nil, rfl, rfl, rfl⟩ (fun i m nx ⟨vr, c, e, _⟩ => e ▸ .tail _ (.tail _ ham)) (fun I l' i v s' Q' E' _ _ hq => wpAny_pure hq) ?_ ?_
    · rintro i v m₁ nx h tk I o hv htk hI ⟨vr, c, rfl, hR, hm1, hm2, hm3⟩ F N
      obtain ⟨nv, tv, rfl, hnv⟩ := hau.at i v hv
      obtain ⟨k, hk, rfl⟩ := asInts_get hnv
      have hkm := LF.mem place hpl k (List.mem_of_getElem? hk)
      have hC := ih (k + 1) (by omega) (by omega)
      have hsm := LF.small (k + 1)
      have hkl : (k : Int) < items.length := by have := LF.len; omega
      have hshort := LF.short
      have hil : items.length ≤ 900 := by have := LF.len; omega
      have hIRw : I ≠ Rw := fun q => hI _ (.head _) q.symm
      have hvr : vr.length ≤ 20 := by
        have h1 := strs_len hR
        rw [List.length_map, List.length_take] at h1
        have := LF.few place hpl
        omega
      have hBI : BelIn ((I, o) :: (Rw, listOf vr.toArray c) :: (D0, listOf #[] 0) :: news) Bl n bel := BelIn.mono ⟨bl, cB, hbl, hBm, hBe⟩ fun p hp => .tail _ (.tail _ (.tail _ hp))
      simp only [envLoc] at F N
      have F := fr_knows [(Str.ofString "rows", Value.ref Rw), (Str.ofString "below", Value.ref Bl), (Str.ofString "items", Value.ref It)] F (by
            intro p hp
            simp only [List.mem_cons, List.not_mem_nil, or_false] at hp
            rcases hp with rfl | rfl | rfl
            · exact hm1
            · exact hm2
            · exact hm3)
      simp only [kstB] at F
      k_steps
      · rename Fr _ _ _ _ => F9
        rename News _ _ _ _ => N9
        refine rows_turn hIRw (fun p hp => hI p (.tail _ hp)) hk hR ?_ F9 N9 rfl rfl rfl
        unfold rowS innS
        rw [if_neg (by omega)]
        rfl
      · rename Fr _ _ _ _ => F9
        rename News _ _ _ _ => N9
        refine rows_turn hIRw (fun p hp => hI p (.tail _ hp)) hk hR ?_ F9 N9 rfl rfl rfl
        unfold rowS innS
        rw [if_pos (by omega)]
        rfl
    · rintro m₁ nx h tk htk ⟨vr, c, rfl, hR, hm1, hm2, hm3⟩ F N
      have hul : up.length = (bel place).length := by have := hau.length; unfold asInts at this; rw [List.length_map] at this; exact this
      rw [hul, List.take_length] at hR
      have e := LF.eq place hpl
      rw [if_neg (by rw [hks]; exact List.cons_ne_nil _ _)] at e
      have hcl : (catS ((bel place).map (rowS items LL))).length ≤ 100000 := by
        have := LF.small place
        rw [e] at this
        simp only [Str.length_append] at this
        omega
      simp only [envLoc] at F N
      have F := fr_knows [(Str.ofString "rows", Value.ref Rw)] F (by
            intro p hp
            simp only [List.mem_cons, List.not_mem_nil, or_false] at hp
            rcases hp with rfl
            exact hm1)
      simp only [kstB] at F
      dsimp only
      k_steps
      rw [e]
      exact ⟨_, _, _, rfl, rfl, by assumption, fun p hp => by (rename News _ _ _ (_ :: _ :: news) => kN9; exact kN9 p (.tail _ (.tail _ hp)))⟩
end Mine1
open PySem PySem.W PyProof.Rows
set_option Elab.async false
namespace Mine
/-! the stack and the depths -/
def chainF (lev : Nat → Int) : Nat → List Int
  | 0 => []
  | q + 1 => lev q :: chainF lev (parF lev q)
termination_by q => q
decreasing_by exact Nat.lt_succ_of_le (searchF_le lev (lev q) q)
def depS (lev : Nat → Int) (q : Nat) : Nat := (chainF lev q).length
theorem chain_zero (lev : Nat → Int) : chainF lev 0 = [] := by rw [chainF]
theorem chain_succ (lev : Nat → Int) (q : Nat) : chainF lev (q + 1) = lev q :: chainF lev (parF lev q) := by rw [chainF]
theorem dep_zero (lev : Nat → Int) : depS lev 0 = 0 := by unfold depS; rw [chain_zero]; rfl
theorem dep_succ (lev : Nat → Int) (q : Nat) : depS lev (q + 1) = depS lev (parF lev q) + 1 := by unfold depS; rw [chain_succ]; rfl
theorem parF_le (lev : Nat → Int) (q : Nat) : parF lev q ≤ q := searchF_le lev _ q
theorem dep_le (lev : Nat → Int) (q : Nat) : depS lev q ≤ q := by
  induction q using Nat.strongRecOn with
  | ind q ih =>
    cases q with
    | zero => rw [dep_zero]; exact Nat.le_refl _
    | succ q =>
      rw [dep_succ]
      have h := parF_le lev q
      have := ih _ (Nat.lt_succ_of_le h)
      omega
theorem search_trans (lev : Nat → Int) {u v : Int} (h : v ≤ u) : ∀ p, searchF lev v (searchF lev u p) = searchF lev v p
  | 0 => rfl
  | p + 1 => by
    by_cases h1 : lev p ≥ u
    · have h2 : lev p ≥ v := Int.le_trans h h1
      have e1 : searchF lev u (p + 1) = searchF lev u p := if_pos h1
      have e2 : searchF lev v (p + 1) = searchF lev v p := if_pos h2
      rw [e1, e2]
      exact search_trans lev h p
    · have e1 : searchF lev u (p + 1) = p + 1 := if_neg h1
      rw [e1]
theorem chain_drop (lev : Nat → Int) (v : Int) (q : Nat) : (chainF lev q).dropWhile (fun x => decide (x ≥ v)) = chainF lev (searchF lev v q) := by
  induction q using Nat.strongRecOn with
  | ind q ih =>
    cases q with
    | zero => rw [chain_zero, show searchF lev v 0 = 0 from rfl, chain_zero]; rfl
    | succ q =>
      rw [chain_succ]
      by_cases h : lev q ≥ v
      · rw [List.dropWhile_cons_of_pos (by simpa using h), ih _ (Nat.lt_succ_of_le (parF_le lev q))]
        have e2 : searchF lev v (q + 1) = searchF lev v q := if_pos h
        rw [e2]
        unfold parF
        rw [search_trans lev h]
      · rw [List.dropWhile_cons_of_neg (by simpa using h)]
        have e2 : searchF lev v (q + 1) = q + 1 := if_neg h
        rw [e2, chain_succ]
/-- strictly falling from the top -/
def Falls : List Int → Prop
  | [] => True
  | [_] => True
  | x :: y :: r => y < x ∧ Falls (y :: r)
theorem falls_tail {x : Int} {r : List Int} (h : Falls (x :: r)) : Falls r := by
  cases r with
  | nil => trivial
  | cons y r => exact h.2
theorem search_below (lev : Nat → Int) (v : Int) : ∀ p q, searchF lev v p = q + 1 → lev q < v
  | 0, q, h => by cases h
  | p + 1, q, h => by
    by_cases h1 : lev p ≥ v
    · have e1 : searchF lev v (p + 1) = searchF lev v p := if_pos h1
      rw [e1] at h
      exact search_below lev v p q h
    · have e1 : searchF lev v (p + 1) = p + 1 := if_neg h1
      rw [e1] at h
      cases h
      omega
theorem chain_falls (lev : Nat → Int) (q : Nat) : Falls (chainF lev q) := by
  induction q using Nat.strongRecOn with
  | ind q ih =>
    cases q with
    | zero => rw [chain_zero]; trivial
    | succ q =>
      rw [chain_succ]
      have h := ih _ (Nat.lt_succ_of_le (parF_le lev q))
      cases hp : parF lev q with
      | zero => rw [chain_zero]; trivial
      | succ p =>
        rw [hp] at h
        rw [chain_succ] at h ⊢
        exact ⟨search_below lev _ _ _ hp, h⟩

/-! texts as lists of signs -/
abbrev tl (x : Str) : List Nat := x.cps.toList
def repL : Nat → List Nat
  | 0 => []
  | k + 1 => tl sUp ++ repL k
theorem up_next : tl sUpNext = tl sUp ++ tl sNext := by decide +kernel
theorem drop_falls {x : Int} {r : List Int} (h : Falls (x :: r)) : r.dropWhile (fun y => decide (y ≥ x)) = r := by
  cases r with
  | nil => rfl
  | cons y r => rw [List.dropWhile_cons_of_neg (by have := h.1; simpa using this)]
theorem popS_is (lv : Int) (it : Str) : ∀ (r : List Int) (s : Str), Falls r →
    (popS lv it s r).2 = lv :: r.dropWhile (fun x => decide (x ≥ lv)) ∧ tl (popS lv it s r).1 = tl s ++ repL (r.length - (r.dropWhile (fun x => decide (x ≥ lv))).length) ++ tl sNext ++ tl it
  | [], s, _ => by
    refine ⟨rfl, ?_⟩
    show tl (s ++ (sNext ++ it)) = _
    simp only [tl, list_app, List.dropWhile_nil, List.length_nil, Nat.sub_self, repL, List.append_nil, List.append_assoc]
  | x :: r, s, hf => by
    unfold popS
    by_cases h1 : lv = x
    · subst h1
      rw [if_pos rfl, List.dropWhile_cons_of_pos (by simp), drop_falls hf]
      refine ⟨rfl, ?_⟩
      have e : (lv :: r).length - r.length = 1 := by simp
      rw [e]
      show tl (s ++ (sUpNext ++ it)) = _
      have := up_next
      simp only [tl] at this
      simp only [tl, list_app, repL, List.append_nil, List.append_assoc, this]
    · rw [if_neg h1]
      by_cases h2 : lv > x
      · rw [if_pos h2, List.dropWhile_cons_of_neg (by simpa using h2)]
        refine ⟨rfl, ?_⟩
        rw [Nat.sub_self]
        show tl (s ++ (sNext ++ it)) = _
        simp only [tl, list_app, repL, List.append_nil, List.append_assoc]
      · rw [if_neg h2, List.dropWhile_cons_of_pos (by simp; omega)]
        obtain ⟨e1, e2⟩ := popS_is lv it r (s ++ sUp) (falls_tail hf)
        refine ⟨e1, ?_⟩
        rw [e2]
        have hle : (r.dropWhile (fun x => decide (x ≥ lv))).length ≤ r.length := List.Sublist.length_le (List.dropWhile_sublist _)
        have e : (x :: r).length - (r.dropWhile (fun x => decide (x ≥ lv))).length = (r.length - (r.dropWhile (fun x => decide (x ≥ lv))).length) + 1 := by
          rw [List.length_cons]; omega
        rw [e]
        simp only [tl, list_app, repL, List.append_assoc]
theorem stepS_stack (s : Str) (stk : List Int) (lv : Int) (it : Str) (hf : Falls stk) : (stepS (s, stk) lv it).2 = lv :: stk.dropWhile (fun x => decide (x ≥ lv)) := by
  cases stk with
  | nil => rfl
  | cons x r =>
    show (if lv = x then _ else if lv > x then _ else popS lv it s r).2 = _
    by_cases h1 : lv = x
    · subst h1
      rw [if_pos rfl, List.dropWhile_cons_of_pos (by simp), drop_falls hf]
    · rw [if_neg h1]
      by_cases h2 : lv > x
      · rw [if_pos h2, List.dropWhile_cons_of_neg (by simpa using h2)]
      · rw [if_neg h2, List.dropWhile_cons_of_pos (by simp; omega)]
        exact (popS_is lv it r s (falls_tail hf)).1
theorem stepS_text (s : Str) (x : Int) (r : List Int) (lv : Int) (it : Str) (hf : Falls (x :: r)) :
    tl (stepS (s, x :: r) lv it).1 = tl s ++ (if (stepS (s, x :: r) lv it).2.length > (x :: r).length then tl sDown else repL ((x :: r).length - (stepS (s, x :: r) lv it).2.length) ++ tl sNext) ++ tl it := by
  have hst := stepS_stack s (x :: r) lv it hf
  have hle : (r.dropWhile (fun x => decide (x ≥ lv))).length ≤ r.length := List.Sublist.length_le (List.dropWhile_sublist _)
  rw [hst]
  show tl (if lv = x then _ else if lv > x then _ else popS lv it s r).1 = _
  by_cases h1 : lv = x
  · subst h1
    rw [if_pos rfl, List.dropWhile_cons_of_pos (by simp), drop_falls hf, if_neg (by simp)]
    rw [List.length_cons, Nat.sub_self]
    show tl (s ++ (sNext ++ it)) = _
    simp only [tl, list_app, repL, List.nil_append, List.append_assoc]
  · rw [if_neg h1]
    by_cases h2 : lv > x
    · rw [if_pos h2, List.dropWhile_cons_of_neg (by simpa using h2), if_pos (by simp)]
      show tl (s ++ (sDown ++ it)) = _
      simp only [tl, list_app, List.append_assoc]
    · rw [if_neg h2, List.dropWhile_cons_of_pos (by simp; omega), if_neg (by simp only [List.length_cons]; omega)]
      rw [(popS_is lv it r s (falls_tail hf)).2]
      have e : (x :: r).length - (lv :: r.dropWhile (fun x => decide (x ≥ lv))).length = r.length - (r.dropWhile (fun x => decide (x ≥ lv))).length := by
        simp only [List.length_cons]; omega
      rw [e]
      simp only [List.append_assoc]
theorem closeS_is : ∀ (stk : List Int) (s : Str), tl (closeS s stk) = tl s ++ repL (stk.length - 1)
  | [], s => by simp [closeS, repL]
  | [_], s => by simp [closeS, repL]
  | _ :: y :: r, s => by
    show tl (closeS (s ++ sUp) (y :: r)) = _
    rw [closeS_is (y :: r) (s ++ sUp)]
    have e : (y :: r).length - 1 + 1 = (y :: r).length := by simp
    have e2 : ∀ z : Int, (z :: y :: r).length - 1 = ((y :: r).length - 1) + 1 := fun z => by simp
    rw [e2]
    simp only [tl, list_app, repL, List.append_assoc]
theorem repL_snoc : ∀ k, repL k ++ tl sUp = repL (k + 1)
  | 0 => by simp [repL]
  | k + 1 => by
    show tl sUp ++ repL k ++ tl sUp = tl sUp ++ repL (k + 1)
    rw [List.append_assoc, repL_snoc k]

/-! what is told behind the k-th heading -/
def Wf (d : Nat → Nat) (it : Nat → List Nat) : Nat → Nat → List Nat
  | 0, k => repL (d k)
  | m + 1, k => (if d (k + 1) > d k then tl sDown else repL (d k - d (k + 1)) ++ tl sNext) ++ it k ++ Wf d it m (k + 1)

theorem ren_scan (lev : Nat → Int) (rows : List RowT) (its : Nat → Str) (hl : ∀ i (h : i < rows.length), rows[i].1 = lev i) (hi : ∀ i (h : i < rows.length), itemS rows[i].2.1 rows[i].2.2 = its i) (hn : 0 < rows.length) :
    tl (renS rows) = tl sUl ++ tl sLi ++ tl (its 0) ++ Wf (depS lev) (fun k => tl (its k)) (rows.length - 1) 1 := by
  have key : ∀ k, k < rows.length → (foldS (Str.ofString "", []) (rows.take (k + 1))).2 = chainF lev (k + 1) ∧
      tl (foldS (Str.ofString "", []) (rows.take (k + 1))).1 ++ Wf (depS lev) (fun k => tl (its k)) (rows.length - (k + 1)) (k + 1) = tl sLi ++ tl (its 0) ++ Wf (depS lev) (fun k => tl (its k)) (rows.length - 1) 1 ∧
      4 ≤ (tl (foldS (Str.ofString "", []) (rows.take (k + 1))).1).length := by
    intro k
    induction k with
    | zero =>
      intro h
      have e : rows.take (0 + 1) = [] ++ [rows[0]] := by rw [List.take_succ_eq_append_getElem h]; rfl
      rw [e, foldS_snoc, hi 0 h, hl 0 h]
      refine ⟨?_, ?_, ?_⟩
      · rw [chain_succ, show parF lev 0 = 0 from rfl, chain_zero]; rfl
      · show tl (Str.ofString "" ++ (sLi ++ its 0)) ++ _ = _
        simp only [tl, list_app, list_nil, List.nil_append, List.append_assoc]
      · show 4 ≤ (tl (Str.ofString "" ++ (sLi ++ its 0))).length
        have h6 : (tl sLi).length = 4 := by decide +kernel
        simp only [tl, list_app, List.length_append] at h6 ⊢
        omega
    | succ k ih =>
      intro h
      obtain ⟨e1, e2, e3⟩ := ih (by omega)
      have e : rows.take (k + 1 + 1) = rows.take (k + 1) ++ [rows[k + 1]] := by rw [List.take_succ_eq_append_getElem h]
      rw [e, foldS_snoc, hi (k + 1) h, hl (k + 1) h]
      generalize foldS (Str.ofString "", []) (rows.take (k + 1)) = st at e1 e2 e3
      obtain ⟨s, stk⟩ := st
      dsimp only at e1 e2 e3
      have hf : Falls stk := e1 ▸ chain_falls lev (k + 1)
      have hstk := stepS_stack s stk (lev (k + 1)) (its (k + 1)) hf
      have hnew : (stepS (s, stk) (lev (k + 1)) (its (k + 1))).2 = chainF lev (k + 1 + 1) := by
        rw [hstk, e1, chain_drop, chain_succ lev (k + 1)]; rfl
      refine ⟨hnew, ?_⟩
      obtain ⟨x, r, hxr⟩ : ∃ x r, stk = x :: r := by rw [e1, chain_succ]; exact ⟨_, _, rfl⟩
      subst hxr
      rw [stepS_text s x r _ _ hf, hnew, ← e2]
      refine ⟨?_, by simp only [List.length_append]; omega⟩
      have hm : rows.length - (k + 1) = (rows.length - (k + 1 + 1)) + 1 := by omega
      rw [hm]
      show _ = tl s ++ ((if depS lev (k + 1 + 1) > depS lev (k + 1) then tl sDown else repL (depS lev (k + 1) - depS lev (k + 1 + 1)) ++ tl sNext) ++ tl (its (k + 1)) ++ _)
      rw [show (x :: r).length = depS lev (k + 1) from by unfold depS; rw [e1]]
      rw [show (chainF lev (k + 1 + 1)).length = depS lev (k + 1 + 1) from rfl]
      simp only [List.append_assoc]
  obtain ⟨e1, e2, e4⟩ := key (rows.length - 1) (by omega)
  have hN : rows.length - 1 + 1 = rows.length := by omega
  rw [hN, List.take_length, Nat.sub_self] at e2
  rw [hN, List.take_length] at e1 e4
  have hne : rows ≠ [] := by intro q; rw [q] at hn; exact Nat.lt_irrefl _ hn
  rw [renS_ne hne]
  generalize foldS (Str.ofString "", []) rows = st at e1 e2 e4
  obtain ⟨s, stk⟩ := st
  dsimp only at e1 e2 e4 ⊢
  have hd : 0 < depS lev rows.length := by rw [← hN, dep_succ]; exact Nat.succ_pos _
  have hclose : tl (closeS s stk) ++ tl sUp = tl s ++ repL (depS lev rows.length) := by
    rw [closeS_is, List.append_assoc, repL_snoc, e1]
    congr 2
    show depS lev rows.length - 1 + 1 = _
    omega
  have hlen : ¬ (closeS s stk).length = 0 := by
    intro q
    have h1 : (tl (closeS s stk)).length = 0 := by rw [← q]; exact (len_list _).symm
    rw [closeS_is, List.length_append] at h1
    omega
  rw [if_neg hlen]
  show tl (sUl ++ closeS s stk ++ sUp) = _
  simp only [tl, list_app] at hclose ⊢
  rw [List.append_assoc, hclose]
  have e3 : tl s ++ repL (depS lev rows.length) = tl sLi ++ tl (its 0) ++ Wf (depS lev) (fun k => tl (its k)) (rows.length - 1) 1 := e2
  simp only [tl] at e3
  rw [e3]
  simp only [List.append_assoc]
end Mine
open PySem PySem.W PyProof.Rows
set_option Elab.async false
namespace Mine
theorem par_or (lev : Nat → Int) (k : Nat) : parF lev k = k ∨ depS lev (parF lev k) < depS lev k := by
  cases k with
  | zero => exact .inl rfl
  | succ k =>
    by_cases h : lev k ≥ lev (k + 1)
    · right
      have e := chain_drop lev (lev (k + 1)) (k + 1)
      rw [chain_succ, List.dropWhile_cons_of_pos (by simpa using h)] at e
      show (chainF lev (searchF lev (lev (k + 1)) (k + 1))).length < (chainF lev (k + 1)).length
      rw [← e, chain_succ, List.length_cons]
      exact Nat.lt_succ_of_le (List.Sublist.length_le (List.dropWhile_sublist _))
    · left
      exact if_neg h
theorem par_self {lev : Nat → Int} {k : Nat} (h : depS lev k < depS lev (k + 1)) : depS lev (k + 1) = depS lev k + 1 := by
  rw [dep_succ] at h ⊢
  rcases par_or lev k with e | e
  · rw [e]
  · omega
theorem search_ge (lev : Nat → Int) {v : Int} {q : Nat} (hq : lev q < v) : ∀ p, q < p → q + 1 ≤ searchF lev v p
  | 0, h => absurd h (Nat.not_lt_zero _)
  | p + 1, h => by
    by_cases h1 : lev p ≥ v
    · have e1 : searchF lev v (p + 1) = searchF lev v p := if_pos h1
      rw [e1]
      have : q ≠ p := fun e => by subst e; omega
      exact search_ge lev hq p (by omega)
    · have e1 : searchF lev v (p + 1) = p + 1 := if_neg h1
      rw [e1]; exact h
theorem search_all (lev : Nat → Int) {v : Int} : ∀ p i, searchF lev v p ≤ i → i < p → lev i ≥ v
  | 0, i, _, h => absurd h (Nat.not_lt_zero _)
  | p + 1, i, h0, h => by
    by_cases h1 : lev p ≥ v
    · have e1 : searchF lev v (p + 1) = searchF lev v p := if_pos h1
      rw [e1] at h0
      by_cases e : i = p
      · subst e; exact h1
      · exact search_all lev p i h0 (by omega)
    · have e1 : searchF lev v (p + 1) = p + 1 := if_neg h1
      rw [e1] at h0
      omega
theorem child_up {lev : Nat → Int} {k p : Nat} (hp : parF lev k = p) (i : Nat) (h1 : p ≤ i) (h2 : i < k) : depS lev p < depS lev (i + 1) := by
  induction i using Nat.strongRecOn with
  | ind i ih =>
    have hge : p ≤ parF lev i := by
      cases p with
      | zero => exact Nat.zero_le _
      | succ q =>
        have ha : lev q < lev k := search_below lev _ _ _ hp
        have hb : lev i ≥ lev k := search_all lev k i (by rw [show searchF lev (lev k) k = q + 1 from hp]; exact h1) h2
        exact search_ge lev (by omega) i (by omega)
    have hle := parF_le lev i
    rw [dep_succ]
    by_cases e : parF lev i = p
    · rw [e]; omega
    · obtain ⟨j, hj⟩ : ∃ j, parF lev i = j + 1 := ⟨parF lev i - 1, by omega⟩
      rw [hj]
      have := ih j (by omega) (by omega) (by omega)
      omega
theorem child_down {lev : Nat → Int} {k p : Nat} (hpk : p ≤ k) (hd : depS lev (k + 1) = depS lev p + 1) (hall : ∀ i, p ≤ i → i < k → depS lev p < depS lev (i + 1)) : parF lev k = p := by
  have hle := parF_le lev k
  rw [dep_succ] at hd
  by_cases h1 : p < parF lev k
  · obtain ⟨j, hj⟩ : ∃ j, parF lev k = j + 1 := ⟨parF lev k - 1, by omega⟩
    have := hall j (by omega) (by omega)
    rw [← hj] at this
    omega
  · by_cases h2 : parF lev k < p
    · obtain ⟨j, hj⟩ : ∃ j, p = j + 1 := ⟨p - 1, by omega⟩
      have := child_up (lev := lev) (k := k) rfl j (by omega) (by omega)
      rw [← hj] at this
      omega
    · omega

/-- the children that stand at or behind j -/
def chl (lev : Nat → Int) (n p : Nat) (j : Nat) : List Nat := (List.range' j (n - j)).filter (fun k => parF lev k = p)
theorem chl_nil {lev : Nat → Int} {n p j : Nat} (h : ∀ k, j ≤ k → k < n → parF lev k ≠ p) : chl lev n p j = [] := by
  unfold chl
  rw [List.filter_eq_nil_iff]
  intro k hk
  rw [List.mem_range'_1] at hk
  simp only [decide_eq_true_eq]
  exact h k hk.1 (by omega)
theorem chl_next {lev : Nat → Int} {n p j : Nat} (hj : j < n) : chl lev n p j = if parF lev j = p then j :: chl lev n p (j + 1) else chl lev n p (j + 1) := by
  unfold chl
  have e : n - j = (n - (j + 1)) + 1 := by omega
  rw [e, List.range'_succ, List.filter_cons]
  by_cases h : parF lev j = p
  · simp [h]
  · simp [h]
theorem chl_skip {lev : Nat → Int} {n p : Nat} : ∀ m j, j + m ≤ n → (∀ k, j ≤ k → k < j + m → parF lev k ≠ p) → chl lev n p j = chl lev n p (j + m)
  | 0, j, _, _ => rfl
  | m + 1, j, h, hk => by
    rw [chl_next (by omega), if_neg (hk j (Nat.le_refl _) (by omega)), chl_skip m (j + 1) (by omega) fun k h1 h2 => hk k (by omega) (by omega)]
    rw [show j + 1 + m = j + (m + 1) from by omega]
theorem bel_chl (lev : Nat → Int) (n p : Nat) (hp : p ≤ n) : belF lev n p = chl lev n p p := by
  have e0 : belF lev n p = chl lev n p 0 := by
    unfold belF chl
    rw [List.range_eq_range', Nat.sub_zero]
  rw [e0]
  have := chl_skip (lev := lev) (n := n) (p := p) p 0 (by omega) fun k _ hk e => by
    have := parF_le lev k
    omega
  rw [this, Nat.zero_add]

def llS (items : List Str) (bel : Nat → List Nat) : Nat → Nat → Str
  | 0, _ => Str.ofString ""
  | f + 1, p => if bel p = [] then Str.ofString "" else sUl ++ catS ((bel p).map (rowS items (llS items bel f))) ++ sUlEnd
theorem llS_fuel {items : List Str} {bel : Nat → List Nat} {n : Nat} (hm : ∀ p, p ≤ n → ∀ k ∈ bel p, p ≤ k ∧ k < n) : ∀ f g q, q ≤ n → n + 1 - q ≤ f → n + 1 - q ≤ g → llS items bel f q = llS items bel g q
  | 0, _, q, hq, h, _ => by omega
  | _, 0, q, hq, _, h => by omega
  | f + 1, g + 1, q, hq, h1, h2 => by
    have e : (bel q).map (rowS items (llS items bel f)) = (bel q).map (rowS items (llS items bel g)) := by
      refine List.map_congr_left fun k hk => ?_
      have := hm q hq k hk
      unfold rowS
      rw [llS_fuel hm f g (k + 1) (by omega) (by omega) (by omega)]
    show (if bel q = [] then _ else sUl ++ catS ((bel q).map (rowS items (llS items bel f))) ++ sUlEnd) = (if bel q = [] then _ else sUl ++ catS ((bel q).map (rowS items (llS items bel g))) ++ sUlEnd)
    rw [e]
theorem llS_eq {items : List Str} {bel : Nat → List Nat} {n : Nat} (hm : ∀ p, p ≤ n → ∀ k ∈ bel p, p ≤ k ∧ k < n) (p : Nat) (hp : p ≤ n) :
    llS items bel (n + 1 - p) p = if bel p = [] then Str.ofString "" else sUl ++ catS ((bel p).map (rowS items (fun q => llS items bel (n + 1 - q) q))) ++ sUlEnd := by
  have e : n + 1 - p = (n - p) + 1 := by omega
  rw [e]
  have e2 : (bel p).map (rowS items (llS items bel (n - p))) = (bel p).map (rowS items (fun q => llS items bel (n + 1 - q) q)) := by
    refine List.map_congr_left fun k hk => ?_
    have := hm p hp k hk
    unfold rowS
    rw [llS_fuel hm (n - p) (n + 1 - (k + 1)) (k + 1) (by omega) (by omega) (by omega)]
  show (if bel p = [] then _ else sUl ++ catS ((bel p).map (rowS items (llS items bel (n - p)))) ++ sUlEnd) = _
  rw [e2]

def Kf (D : Nat → Nat) (it : Nat → List Nat) (n j : Nat) : Nat → List Nat
  | 0 => []
  | d + 1 => if j < n ∧ D (j + 1) = d + 1 then tl sLi ++ it j ++ Wf D it (n - (j + 1)) (j + 1) else tl sUlEnd ++ (if d = 0 then [] else tl sEnd ++ Kf D it n j d)
def Xf (D : Nat → Nat) (it : Nat → List Nat) (n j d : Nat) : List Nat :=
  if j < n then repL (d - D (j + 1)) ++ tl sNext ++ it j ++ Wf D it (n - (j + 1)) (j + 1) else repL d
theorem up_is : tl sUp = tl sEnd ++ tl sUlEnd := by decide +kernel
theorem next_is : tl sNext = tl sEnd ++ tl sLi := by decide +kernel
theorem down_is : tl sDown = tl sNl ++ tl sUl ++ tl sLi := by decide +kernel
theorem xf_kf {D : Nat → Nat} {it : Nat → List Nat} {n j : Nat} (hD : 0 < D (j + 1)) : ∀ d, 0 < d → (j < n → D (j + 1) ≤ d) → Xf D it n j d = tl sEnd ++ Kf D it n j d
  | 0, h, _ => absurd h (Nat.lt_irrefl _)
  | d + 1, _, hle => by
    unfold Kf
    by_cases h1 : j < n ∧ D (j + 1) = d + 1
    · rw [if_pos h1]
      unfold Xf
      rw [if_pos h1.1, h1.2, Nat.sub_self, next_is]
      simp only [repL, List.nil_append, List.append_assoc]
    · rw [if_neg h1]
      have e : Xf D it n j (d + 1) = tl sUp ++ Xf D it n j d := by
        unfold Xf
        by_cases h2 : j < n
        · have := hle h2
          have h3 : D (j + 1) ≠ d + 1 := fun e => h1 ⟨h2, e⟩
          rw [if_pos h2, if_pos h2, show d + 1 - D (j + 1) = (d - D (j + 1)) + 1 from by omega]
          simp only [repL, List.append_assoc]
        · rw [if_neg h2, if_neg h2]
          rfl
      rw [e, up_is]
      by_cases h4 : d = 0
      · subst h4
        rw [if_pos rfl]
        have h2 : ¬ j < n := fun h2 => by
          have := hle h2
          exact h1 ⟨h2, by omega⟩
        unfold Xf
        rw [if_neg h2]
        simp only [repL, List.append_assoc]
      · rw [if_neg h4, xf_kf hD d (by omega) fun h2 => by
          have := hle h2
          have h3 : D (j + 1) ≠ d + 1 := fun e => h1 ⟨h2, e⟩
          omega]
        simp only [List.append_assoc]
theorem wf_stay {D : Nat → Nat} {it : Nat → List Nat} {n j : Nat} (hjn : j ≤ n) (h : j < n → D (j + 1) ≤ D j) : Wf D it (n - j) j = Xf D it n j (D j) := by
  unfold Xf
  by_cases h1 : j < n
  · rw [if_pos h1, show n - j = (n - (j + 1)) + 1 from by omega]
    have := h h1
    show (if D (j + 1) > D j then tl sDown else repL (D j - D (j + 1)) ++ tl sNext) ++ it j ++ _ = _
    rw [if_neg (by omega)]
  · rw [if_neg h1, show n - j = 0 from by omega]
    rfl
theorem wf_down {D : Nat → Nat} {it : Nat → List Nat} {n j : Nat} (h1 : j < n) (h : D j < D (j + 1)) : Wf D it (n - j) j = tl sDown ++ it j ++ Wf D it (n - (j + 1)) (j + 1) := by
  rw [show n - j = (n - (j + 1)) + 1 from by omega]
  show (if D (j + 1) > D j then tl sDown else repL (D j - D (j + 1)) ++ tl sNext) ++ it j ++ _ = _
  rw [if_pos h]

def innL (x : Str) : List Nat := if x.length = 0 then [] else tl sNl ++ tl x
theorem inn_is (x : Str) : tl (innS x) = innL x := by
  unfold innS innL
  split
  · exact list_nil
  · exact list_app _ _

section
variable {lev : Nat → Int} {n : Nat} {items : List Str} {LL : Nat → Str}
abbrev itL (items : List Str) (k : Nat) : List Nat := tl (items.getD k (Str.ofString ""))
def rowsL (items : List Str) (LL : Nat → Str) (ks : List Nat) : List Nat := tl (catS (ks.map (rowS items LL)))
theorem rowsL_nil : rowsL items LL [] = [] := list_nil
theorem rowsL_cons (k : Nat) (ks : List Nat) : rowsL items LL (k :: ks) = tl sLi ++ itL items k ++ innL (LL (k + 1)) ++ tl sEnd ++ rowsL items LL ks := by
  show tl (sLi ++ items.getD k (Str.ofString "") ++ innS (LL (k + 1)) ++ sEnd ++ catS (ks.map (rowS items LL))) = _
  rw [← inn_is]
  simp only [tl, list_app, rowsL]
theorem dep_pos (lev : Nat → Int) (k : Nat) : 0 < depS lev (k + 1) := by rw [dep_succ]; exact Nat.succ_pos _

/-- the two claims at a place -/
theorem told_at (hLL : ∀ p, p ≤ n → LL p = if belF lev n p = [] then Str.ofString "" else sUl ++ catS ((belF lev n p).map (rowS items LL)) ++ sUlEnd) : ∀ (d j : Nat), n - j < d → j ≤ n →
    (∀ p, p ≤ j → (∀ i, p ≤ i → i < j → depS lev p < depS lev (i + 1)) → (j < n → depS lev (j + 1) ≤ depS lev p + 1) →
      ∃ e, j ≤ e ∧ e ≤ n ∧ (e < n → depS lev (e + 1) ≤ depS lev p) ∧ (∀ i, p ≤ i → i < e → depS lev p < depS lev (i + 1)) ∧
        Kf (depS lev) (itL items) n j (depS lev p + 1) = rowsL items LL (chl lev n p j) ++ Kf (depS lev) (itL items) n e (depS lev p + 1)) ∧
    (0 < j → ∃ e, j ≤ e ∧ e ≤ n ∧ (e < n → depS lev (e + 1) ≤ depS lev j) ∧ (∀ i, j ≤ i → i < e → depS lev j < depS lev (i + 1)) ∧
        Wf (depS lev) (itL items) (n - j) j = innL (LL j) ++ tl sEnd ++ Kf (depS lev) (itL items) n e (depS lev j))
  | 0, j, h, _ => absurd h (Nat.not_lt_zero _)
  | d + 1, j, hd, hjn => by
    have hB : ∀ p, p ≤ j → (∀ i, p ≤ i → i < j → depS lev p < depS lev (i + 1)) → (j < n → depS lev (j + 1) ≤ depS lev p + 1) →
      ∃ e, j ≤ e ∧ e ≤ n ∧ (e < n → depS lev (e + 1) ≤ depS lev p) ∧ (∀ i, p ≤ i → i < e → depS lev p < depS lev (i + 1)) ∧
        Kf (depS lev) (itL items) n j (depS lev p + 1) = rowsL items LL (chl lev n p j) ++ Kf (depS lev) (itL items) n e (depS lev p + 1) := by
      intro p hpj hin hnx
      by_cases hstop : j < n → depS lev (j + 1) ≤ depS lev p
      · refine ⟨j, Nat.le_refl _, hjn, hstop, hin, ?_⟩
        rw [chl_nil, rowsL_nil, List.nil_append]
        intro k hjk hkn hpar
        have hlt := hstop (by omega)
        by_cases e : j = k
        · subst e
          rw [dep_succ, hpar] at hlt
          omega
        · have := child_up hpar j hpj (by omega)
          omega
      · obtain ⟨hj, hgt⟩ : j < n ∧ depS lev p < depS lev (j + 1) := by
          refine ⟨?_, ?_⟩
          · exact Classical.byContradiction fun h => hstop fun h' => absurd h' h
          · exact Classical.byContradiction fun h => hstop fun _ => by omega
        have heq : depS lev (j + 1) = depS lev p + 1 := by have := hnx hj; omega
        have hpar : parF lev j = p := child_down hpj heq hin
        obtain ⟨e1, h1, h2, h3, h4, h5⟩ := (told_at hLL d (j + 1) (by omega) (by omega)).2 (Nat.succ_pos _)
        obtain ⟨e2, g1, g2, g3, g4, g5⟩ := (told_at hLL d e1 (by omega) h2).1 p (by omega) (fun i a b => by
          by_cases c : i < j
          · exact hin i a c
          · by_cases c2 : i = j
            · subst c2; exact hgt
            · have := h4 i (by omega) b
              omega) (fun h => by have := h3 h; omega)
        refine ⟨e2, by omega, g2, g3, g4, ?_⟩
        have hk : Kf (depS lev) (itL items) n j (depS lev p + 1) = tl sLi ++ itL items j ++ Wf (depS lev) (itL items) (n - (j + 1)) (j + 1) := if_pos ⟨hj, heq⟩
        have hs := chl_skip (lev := lev) (n := n) (p := p) (e1 - (j + 1)) (j + 1) (by omega) (fun k a b hkp => by
          have := h4 k a (by omega)
          rw [dep_succ lev k, hkp] at this
          omega)
        rw [show j + 1 + (e1 - (j + 1)) = e1 from by omega] at hs
        rw [hk, h5, heq, g5, chl_next hj, if_pos hpar, rowsL_cons, hs]
        simp only [List.append_assoc]
    refine ⟨hB, fun hj0 => ?_⟩
    have hDj : 0 < depS lev j := by
      obtain ⟨q, rfl⟩ : ∃ q, j = q + 1 := ⟨j - 1, by omega⟩
      exact dep_pos lev q
    by_cases hstop : j < n → depS lev (j + 1) ≤ depS lev j
    · refine ⟨j, Nat.le_refl _, hjn, hstop, fun i a b => absurd a (by omega), ?_⟩
      have hno : belF lev n j = [] := by
        rw [bel_chl lev n j hjn]
        refine chl_nil fun k hjk hkn hpar => ?_
        have hlt := hstop (by omega)
        by_cases e : j = k
        · subst e
          rw [dep_succ, hpar] at hlt
          omega
        · have := child_up hpar j (Nat.le_refl _) (by omega)
          omega
      have hl : LL j = Str.ofString "" := by rw [hLL j hjn, if_pos hno]
      have hi : innL (LL j) = [] := by rw [hl]; exact if_pos (by decide +kernel)
      rw [hi, wf_stay hjn hstop, xf_kf (dep_pos lev j) _ hDj hstop, List.nil_append]
    · obtain ⟨hj, hgt⟩ : j < n ∧ depS lev j < depS lev (j + 1) := by
        refine ⟨?_, ?_⟩
        · exact Classical.byContradiction fun h => hstop fun h' => absurd h' h
        · exact Classical.byContradiction fun h => hstop fun _ => by omega
      have heq := par_self hgt
      obtain ⟨e, g1, g2, g3, g4, g5⟩ := hB j (Nat.le_refl _) (fun i a b => absurd a (by omega)) (fun _ => by omega)
      refine ⟨e, g1, g2, g3, g4, ?_⟩
      have hk : Kf (depS lev) (itL items) n j (depS lev j + 1) = tl sLi ++ itL items j ++ Wf (depS lev) (itL items) (n - (j + 1)) (j + 1) := if_pos ⟨hj, heq⟩
      have hke : Kf (depS lev) (itL items) n e (depS lev j + 1) = tl sUlEnd ++ (tl sEnd ++ Kf (depS lev) (itL items) n e (depS lev j)) := by
        show (if _ then _ else tl sUlEnd ++ (if depS lev j = 0 then [] else _)) = _
        rw [if_neg (fun h => by have := g3 h.1; omega), if_neg (by omega)]
      have hpar : parF lev j = j := child_down (Nat.le_refl _) heq fun i a b => absurd a (by omega)
      have hne : belF lev n j ≠ [] := by
        rw [bel_chl lev n j hjn, chl_next hj, if_pos hpar]
        exact List.cons_ne_nil _ _
      have hl : LL j = sUl ++ catS ((belF lev n j).map (rowS items LL)) ++ sUlEnd := by rw [hLL j hjn, if_neg hne]
      have hi : innL (LL j) = tl sNl ++ tl (LL j) := if_neg (by
        rw [hl]
        simp only [Str.length_append, sUl_length]
        omega)
      have ht : tl (LL j) = tl sUl ++ rowsL items LL (chl lev n j j) ++ tl sUlEnd := by
        rw [hl, bel_chl lev n j hjn]
        simp only [tl, list_app, rowsL]
      rw [wf_down hj hgt, hi, ht, down_is]
      rw [hk, hke] at g5
      have : tl sNl ++ tl sUl ++ (tl sLi ++ itL items j ++ Wf (depS lev) (itL items) (n - (j + 1)) (j + 1)) = tl sNl ++ tl sUl ++ (rowsL items LL (chl lev n j j) ++ (tl sUlEnd ++ (tl sEnd ++ Kf (depS lev) (itL items) n e (depS lev j)))) := by rw [g5]
      simp only [List.append_assoc] at this ⊢
      exact this
theorem repL_length : ∀ k, (repL k).length = 12 * k
  | 0 => rfl
  | k + 1 => by
    show (tl sUp ++ repL k).length = _
    rw [List.length_append, repL_length k]
    have : (tl sUp).length = 12 := by decide +kernel
    omega
theorem wf_small {D : Nat → Nat} {it : Nat → List Nat} (hD : ∀ k, D k ≤ k) (hi : ∀ k, k < 20 → (it k).length ≤ 100) : ∀ m k, k + m ≤ 20 → (Wf D it m k).length ≤ 400 * (m + 1)
  | 0, k, h => by
    show (repL (D k)).length ≤ _
    rw [repL_length]
    have := hD k
    omega
  | m + 1, k, h => by
    show ((if D (k + 1) > D k then tl sDown else repL (D k - D (k + 1)) ++ tl sNext) ++ it k ++ Wf D it m (k + 1)).length ≤ _
    have h1 := wf_small hD hi m (k + 1) (by omega)
    have h2 := hi k (by omega)
    have h3 : (if D (k + 1) > D k then tl sDown else repL (D k - D (k + 1)) ++ tl sNext).length ≤ 260 := by
      have e1 : (tl sDown).length = 10 := by decide +kernel
      have e2 : (tl sNext).length = 10 := by decide +kernel
      have := hD k
      split
      · omega
      · rw [List.length_append, repL_length]; omega
    simp only [List.length_append]
    omega
end
theorem law1_facts (cs : List Int) (h : cs.length ≤ 20) : ∃ LL, LLFacts cs.length (belF (levF cs) cs.length) ((List.range cs.length).map (itemF cs)) LL ∧ renS ((List.range cs.length).map (rowF cs)) = LL 0 := by
  generalize hn : cs.length = n at h
  generalize hits : (List.range n).map (itemF cs) = items
  have hmem : ∀ p, p ≤ n → ∀ k ∈ belF (levF cs) n p, p ≤ k ∧ k < n := by
    intro p hp k hk
    unfold belF at hk
    rw [List.mem_filter, List.mem_range] at hk
    have h1 : parF (levF cs) k = p := by simpa using hk.2
    have := parF_le (levF cs) k
    exact ⟨by omega, hk.1⟩
  have hLL := llS_eq (items := items) hmem
  have hLs : ∀ p, n < p → llS items (belF (levF cs) n) (n + 1 - p) p = Str.ofString "" := by
    intro p hp
    rw [show n + 1 - p = 0 from by omega]
    rfl
  generalize hg : (fun q => llS items (belF (levF cs) n) (n + 1 - q) q) = LL at hLL
  have hg' : ∀ q, llS items (belF (levF cs) n) (n + 1 - q) q = LL q := fun q => by rw [← hg]
  simp only [hg'] at hLL hLs
  have hilen : items.length = n := by rw [← hits, List.length_map, List.length_range]
  have hget : ∀ k, k < n → items.getD k (Str.ofString "") = itemF cs k := by
    intro k hk
    rw [← hits, List.getD_eq_getElem?_getD, List.getElem?_map, List.getElem?_range hk]
    rfl
  have hshort : ∀ y ∈ items, y.length ≤ 100 := by
    intro y hy
    rw [← hits] at hy
    obtain ⟨k, hk, rfl⟩ := List.mem_map.mp hy
    rw [List.mem_range] at hk
    exact itemF_short cs k (by omega)
  have hil : ∀ k, k < 20 → (itL items k).length ≤ 100 := by
    intro k _
    by_cases hk : k < items.length
    · show (tl (items.getD k (Str.ofString ""))).length ≤ 100
      rw [show (tl (items.getD k (Str.ofString ""))).length = (items.getD k (Str.ofString "")).length from (len_list _).symm]
      exact getD_mem_len hk hshort
    · show (tl (items.getD k (Str.ofString ""))).length ≤ 100
      rw [List.getD_eq_getElem?_getD, List.getElem?_eq_none (by omega)]
      show (Str.ofString "").cps.toList.length ≤ 100
      rw [list_nil]
      exact Nat.zero_le _
  have hW := wf_small (it := itL items) (dep_le (levF cs)) hil
  have hat := fun j (hj : j ≤ n) => told_at (lev := levF cs) hLL (n - j + 1) j (Nat.lt_succ_self _) hj
  have hren : renS ((List.range n).map (rowF cs)) = LL 0 ∧ (LL 0).length ≤ 100000 := by
    by_cases hn0 : n = 0
    · subst hn0
      have e : LL 0 = Str.ofString "" := by
        rw [hLL 0 (Nat.le_refl _)]
        exact if_pos rfl
      rw [e]
      exact ⟨rfl, by decide +kernel⟩
    · have hr := ren_scan (levF cs) ((List.range n).map (rowF cs)) (itemF cs) (fun i hi => by rw [List.getElem_map, List.getElem_range]; rfl)
        (fun i hi => by rw [List.getElem_map, List.getElem_range]; exact item_same cs i) (by rw [List.length_map, List.length_range]; omega)
      rw [List.length_map, List.length_range] at hr
      have hwf : ∀ m k, k + m ≤ n → Wf (depS (levF cs)) (fun k => tl (itemF cs k)) m k = Wf (depS (levF cs)) (itL items) m k := by
        intro m
        induction m with
        | zero => intro k _; rfl
        | succ m ih =>
          intro k hk
          show _ ++ tl (itemF cs k) ++ Wf (depS (levF cs)) (fun k => tl (itemF cs k)) m (k + 1) = _ ++ itL items k ++ Wf (depS (levF cs)) (itL items) m (k + 1)
          rw [ih (k + 1) (by omega)]
          show _ ++ tl (itemF cs k) ++ _ = _ ++ tl (items.getD k (Str.ofString "")) ++ _
          rw [hget k (by omega)]
      rw [hwf (n - 1) 1 (by omega)] at hr
      have hD1 : depS (levF cs) 1 = 1 := by
        rw [show (1 : Nat) = 0 + 1 from rfl, dep_succ, show parF (levF cs) 0 = 0 from rfl, dep_zero]
      obtain ⟨e, g1, g2, g3, g4, g5⟩ := (hat 0 (Nat.zero_le _)).1 0 (Nat.le_refl _) (fun i a b => absurd b (Nat.not_lt_zero _)) (fun _ => by rw [dep_zero, hD1]; exact Nat.le_refl _)
      rw [dep_zero] at g3 g5
      have hk : Kf (depS (levF cs)) (itL items) n 0 (0 + 1) = tl sLi ++ itL items 0 ++ Wf (depS (levF cs)) (itL items) (n - 1) 1 := if_pos ⟨by omega, hD1⟩
      have hke : Kf (depS (levF cs)) (itL items) n e (0 + 1) = tl sUlEnd ++ [] := by
        show (if _ then _ else tl sUlEnd ++ (if (0 : Nat) = 0 then [] else _)) = _
        rw [if_neg (fun h => by have := g3 h.1; omega), if_pos rfl]
      have hne : belF (levF cs) n 0 ≠ [] := by
        rw [bel_chl _ n 0 (Nat.zero_le _), chl_next (by omega), if_pos (show parF (levF cs) 0 = 0 from rfl)]
        exact List.cons_ne_nil _ _
      have hl : LL 0 = sUl ++ catS ((belF (levF cs) n 0).map (rowS items LL)) ++ sUlEnd := by rw [hLL 0 (Nat.zero_le _), if_neg hne]
      have ht : tl (LL 0) = tl sUl ++ rowsL items LL (chl (levF cs) n 0 0) ++ tl sUlEnd := by
        rw [hl, bel_chl _ n 0 (Nat.zero_le _)]
        simp only [tl, list_app, rowsL]
      have heq : tl (renS ((List.range n).map (rowF cs))) = tl (LL 0) := by
        rw [hr, ht]
        rw [hk, hke] at g5
        have h0 : tl (itemF cs 0) = itL items 0 := by
          show _ = tl (items.getD 0 (Str.ofString ""))
          rw [hget 0 (by omega)]
        rw [h0]
        have : tl sUl ++ (tl sLi ++ itL items 0 ++ Wf (depS (levF cs)) (itL items) (n - 1) 1) = tl sUl ++ (rowsL items LL (chl (levF cs) n 0 0) ++ (tl sUlEnd ++ [])) := by rw [g5]
        simp only [List.append_assoc, List.append_nil] at this ⊢
        exact this
      have hst : renS ((List.range n).map (rowF cs)) = LL 0 := str_ext heq
      refine ⟨hst, ?_⟩
      have hlen : (LL 0).length = (tl (LL 0)).length := len_list _
      rw [hlen, ← heq, hr]
      have h1 := hW (n - 1) 1 (by omega)
      have h2 := itemF_short cs 0 (by omega)
      have h3 : (itemF cs 0).length = (tl (itemF cs 0)).length := len_list _
      have e1 : (tl sUl).length = 5 := by decide +kernel
      have e2 : (tl sLi).length = 4 := by decide +kernel
      simp only [List.length_append]
      omega
  refine ⟨LL, ⟨h, hmem, hilen, hshort, ?_, hLL, ?_⟩, hren.1⟩
  · intro p
    by_cases hp : p ≤ n
    · by_cases hp0 : p = 0
      · subst hp0; exact hren.2
      · obtain ⟨e, _, _, _, _, g5⟩ := (hat p hp).2 (by omega)
        have h1 := hW (n - p) p (by omega)
        rw [g5] at h1
        simp only [List.length_append] at h1
        have hlen : (LL p).length = (tl (LL p)).length := len_list _
        have h2 : (LL p).length ≤ (innL (LL p)).length := by
          unfold innL
          split
          · omega
          · rw [List.length_append]; omega
        omega
    · rw [hLs p (by omega)]
      decide +kernel
  · intro p hp
    have := belF_length (levF cs) n p
    unfold asInts at this
    rw [List.length_map] at this
    omega
end Mine
open PySem PySem.W PyProof.Rows Mine
set_option Elab.async false
set_option maxRecDepth 100000
namespace Mine1
local macro_rules | `(tactic| cell_enter) => `(tactic| (refine' code_def ?k1 ?k2 ?k3 ?k4 ?k5 ?kA ?kF ?kK ?k6 ?k7 ?k8 ?k9 ?kB ?_ ?c2 ?c3 ?c4 ?c5; (case kA => exact rfl); (case kF => exact rfl); (case kK => assumption); (case k1 => k_asm); (case k2 => k_asm); (case k3 => k_asm); (case k4 => k_asm); (case k5 => k_asm); (case k6 => k_is); (case k7 => k_is); (case k8 => ktr_room); (case k9 => first | exact BindsTo.of_eq rfl | exact binds_K (by k_in) rfl (by k_is) rfl rfl rfl); (case c5 => decide); (case kB => exact locs rfl); (case c2 => exact rfl); (case c3 => exact rfl); (case c4 => exact rfl); k_whole; intro g' L' h' FG' F' N' B' X' T'; (try dsimp only); (try k_lift B')))
local macro_rules | `(tactic| walk_at "execs cons") => `(tactic| ((refine gen_toks (by first | exact Nat.succ_pos _ | assumption | omega) ?_; intro tk9 htk9); (with_reducible refine wpAny_execs_cons ?_); try dsimp only))
local macro_rules | `(tactic| ktr_rel) => `(tactic| first | assumption | exact List.Mem.head _ | (refine List.Mem.tail _ ?_; ktr_rel))
local macro_rules | `(tactic| walk_at "truthy ref") => `(tactic| first | (refine' lt_truthy_snoc ?N ?m ?z ?_; (case N => assumption); (case m => ktr_rel); (case z => omega)) | (refine' lt_truthy_nil ?N ?m ?_; (case N => assumption); (case m => ktr_rel)) | (refine' lt_truthy ?N ?m ?z ?_; (case N => assumption); (case m => ktr_rel); (case z => first | omega | (simp only [List.length_append, List.length_cons, List.length_nil]; omega))))
local macro_rules | `(tactic| tb_rel) => `(tactic| first | assumption | exact Upd.head (by assumption) | exact Upd.tail (by assumption) (Upd.head (by assumption)) | exact Upd.tail (by assumption) (Upd.tail (by assumption) (Upd.head (by assumption))) | k_upd)
local macro_rules | `(tactic| walk_at "call builtin:list.append") => `(tactic| (refine' lt_append ?F ?N ?U ?z ?_; (case F => assumption); (case N => assumption); (case U => tb_rel); (case z => first | omega | (simp only [List.length_append, List.length_cons, List.length_nil]; omega)); intro h' F' N'))
local macro_rules | `(tactic| walk_at "call builtin:list.pop") => `(tactic| (refine' lt_pop ?F ?N ?U ?z ?_; (case F => assumption); (case N => assumption); (case U => tb_rel); (case z => first | omega | (simp only [List.length_append, List.length_cons, List.length_nil]; omega)); intro h' F' N'))
local macro_rules | `(tactic| walk_at "subscriptTail") => `(tactic| ((with_reducible show wpAny _ _ (subscriptTail _ _ (Value.ref _) (Value.int _ _)) _ _ _); (refine' lt_last ?N ?m ?z ?_ ?s; (case N => assumption); (case m => ktr_rel); (case z => first | assumption | omega); (case s => with_unfolding_all rfl))))
local macro_rules | `(tactic| walk_at "last exec While") => `(tactic| refine halt ?_)
local macro_rules | `(tactic| walk_at "exec While") => `(tactic| refine halt ?_)
local macro_rules | `(tactic| walk_at "call builtin:len") => `(tactic| ((with_reducible show wpAny _ _ (call (Value.builtin "len") [Value.ref _]) _ _ _); (refine' lt_len ?N ?m ?z ?_; (case N => assumption); (case m => ktr_rel); (case z => first | omega | (simp only [List.length_append, List.length_cons, List.length_nil]; omega)))))
local macro_rules | `(tactic| walk_at "getMethod ref") => `(tactic| ((with_reducible show wpAny _ _ (getMethod (Value.ref _) (PySem.Str.ofString "append") _) _ _ _); k_dflt (refine' kl_method ?N ?m PySem.F.slot_list_append PySem.F.type_list_append ?_; (case N => assumption); (case m => ktr_rel))))
local macro_rules | `(tactic| walk_at "call ref") => `(tactic| (k_dflt (((first
  | refine' list_use (names_ok _ _ _ _ _ _) ?k1 ?k2 ?k3 ?k4 ?k5 ?k6 ?k7 ?k9 ?k10 ?_
  | refine' list_use (told_ok _ _ _ _ _ _) ?k1 ?k2 ?k3 ?k4 ?k5 ?k6 ?k7 ?k9 ?k10 ?_); (case k1 => assumption); (case k2 => assumption); (case k3 => assumption); (case k4 => assumption); (case k5 => assumption); (case k6 => rfl); (case k7 => exact Nat.succ_pos _); (case k9 => decide); (case k10 => decide); intro D8 vs8 h8 tk8 hpos8 F8 N8 lt8 hS8; (try k_lt lt8)))))
local macro_rules | `(tactic| walk_at "subscriptTail") => `(tactic| ((with_reducible show wpAny _ _ (subscriptTail (PySem.Expr.Call _ _ _ _) _ (Value.ref _) (Value.int _ _)) _ _ _); (refine' str_item ?N ?m ?S ?z1 ?z2 ?z3 (b := 8) ?z4 ?_ ?s; (case N => assumption); (case m => ktr_rel); (case S => assumption); (case z1 => exact Int.fmod_nonneg_of_pos _ (by decide)); (case z2 => exact Int.fmod_lt_of_pos _ (by decide)); (case z3 => decide); (case z4 => first | exact names_len | exact told_len); (case s => with_unfolding_all rfl)); intro t8 hl8))
local macro_rules | `(tactic| walk_at "exec For Name Call cons nil") => `(tactic| refine halt ?_)
local macro_rules | `(tactic| walk_at "subscriptTail") => `(tactic| ((with_reducible show wpAny _ _ (subscriptTail (PySem.Expr.Name (Str.ofString "below") _) _ (Value.ref _) (Value.int _ _)) _ _ _); refine halt ?_))
local macro_rules | `(tactic| walk_at "CompSrc") => `(tactic| refine halt ?_)
local macro_rules | `(tactic| walk_at "exec Assign cons ListComp") => `(tactic| refine halt ?_)
local macro_rules | `(tactic| walk_at "call ref") => `(tactic| (k_dflt (refine' ren_use2 (ren_ok _ _ _ _ _ _) ?k1 ?k2 ?k3 ?k4 ?k5 ?k6 ?k7 ?km ?kR ?kX ?kl ?ks ?k9 ?k10 ?_; (case k1 => assumption); (case k2 => assumption); (case k3 => assumption); (case k4 => assumption); (case k5 => assumption); (case k6 => rfl); (case k7 => first | exact Nat.succ_pos _ | assumption | (dsimp only; omega)); (case km => assumption); (case kR => assumption); (case kX => assumption); (case kl => assumption); (case ks => assumption); (case k9 => decide); (case k10 => decide); intro t8 h8 tk8 hpos8 F8 N8)))
local macro_rules | `(tactic| walk_at "call ref") => `(tactic| (k_dflt (refine' ll_use (ll_ok _ _ _ _ _ _ ?kC _ 0 (Nat.zero_le _) (Nat.lt_succ_self _)) ?k1 ?k2 ?k3 ?k4 ?k5 ?k6 ?k7 ?kB ?kI ?kS ?kz ?k9 ?k10 ?_; (case kC => assumption); (case k1 => assumption); (case k2 => assumption); (case k3 => assumption); (case k4 => assumption); (case k5 => assumption); (case k6 => rfl); (case k7 => first | exact Nat.succ_pos _ | assumption | (dsimp only; omega)); (case kB => assumption); (case kI => assumption); (case kS => assumption); (case kz => rfl); (case k9 => exact Nat.lt_of_le_of_lt (Nat.add_le_add_right (Nat.add_le_add_left (show _ ≤ 20 by omega) _) 1) (by decide)); (case k10 => exact Nat.lt_of_le_of_lt (Nat.add_le_add_right (Nat.add_le_add_left (show _ ≤ 168 by omega) _) 100) (by decide)); intro t8 h8 tk8 hpos8 F8 N8)))
set_option maxHeartbeats 4000000 in
theorem law_ok : PySem.Challenge.rw_ci0010_01.Holds := hd (by
  w_strict (
    k_go0; (all_goals try k_fold); k_steps; refine unhalt ?_; refine wpAny_For ?_
    (rename 0 < _ => hpos9)
    refine wpAny_with_toks (n := 1) hpos9 ?_
    k_steps
    rename_i C ws _ hWs hC' hL' _ _ _ _ T _ lT It _ lIt Lv _ lLv D0 _ lD0 _ _ _ _ _ _ _ h9 tk t1 u1 v1 hrng F9 N9 _ htk
    generalize List.take 20 _ = cs at hWs hrng hC' hL'
    have hn : cs.length ≤ 20 := by omega
    refine loop_range (J := J1 cs ws T It Lv C) rfl rfl rfl hrng (small_one (by omega) (by omega) (by omega) (by omega)) (n := cs.length) ?_ F9 (news := (T, listOf #[] 0) :: (It, listOf #[] 0) :: (Lv, listOf #[] 0) :: (C, listOf ws.toArray 0) :: []) ?_ htk
      ⟨[], 0, [], 0, [], 0, [], rfl, .nil, .nil, .nil, (fun _ h => nomatch h), rfl, rfl, rfl, rfl⟩ ?_ ?_
    · rw [rangeSize_one]; split <;> omega
    · intro p hp
      refine N9 p ?_
      simp only [List.mem_cons, List.not_mem_nil, or_false] at hp ⊢
      rcases hp with h | h | h | h <;> simp only [h, true_or, or_true]
    · rintro i t m₁ nx h tk2 I o hi htk2 hI ⟨vt, ct, vi, ci, vl, cl, tups, rfl, hR, hS, hV, hoff, hm1, hm2, hm3, hm4⟩ F N
      simp only [envLoc] at F N
      have hIT : @Ne Nat I T := fun q => hI _ (.head _) q.symm
      have hIIt : @Ne Nat I It := fun q => hI _ (.tail _ (.head _)) q.symm
      have hILv : @Ne Nat I Lv := fun q => hI _ (.tail _ (.tail _ (.head _))) q.symm
      have hIC : @Ne Nat I C := fun q => hI _ (.tail _ (.tail _ (.tail _ (.head _)))) q.symm
      have hvt : vt.length ≤ 20 := by have := hR.length; simp only [List.length_map, List.length_range] at this; omega
      have hvi : vi.length ≤ 20 := by have := strs_len hS; simp only [List.length_map, List.length_range] at this; omega
      have hvl : vl.length ≤ 20 := by have := hV.length; simp only [List.length_map, List.length_range] at this; omega
      have F := fr_knows [(Str.ofString "k", Value.int (i : Int) t), (Str.ofString "toc", Value.ref T), (Str.ofString "items", Value.ref It), (Str.ofString "levels", Value.ref Lv), (Str.ofString "cells", Value.ref C)] F (by
            intro p hp
            simp only [List.mem_cons, List.not_mem_nil, or_false] at hp
            rcases hp with rfl | rfl | rfl | rfl | rfl
            · rfl
            · exact hm1
            · exact hm2
            · exact hm3
            · exact hm4)
      simp only [kstB] at F
      k_steps
      rename Fr _ _ _ _ => F9
      rename News _ _ _ _ => N9
      simp only [List.push_toArray] at N9
      exact j1_turn (fun p hp => hI p (.tail _ (.tail _ (.tail _ (.tail _ hp))))) hIT hIIt hILv hIC hR hS hV hoff F9 N9 (by omega) (by omega) (by omega) (by omega) (by omega) rfl rfl rfl rfl
    · rintro m₁ nx h tk2 htk2 ⟨vt, ct, vi, ci, vl, cl, tups, rfl, hR, hS, hV, hoff, hm1, hm2, hm3, hm4⟩ F N
      simp only [envLoc] at F N
      have F := fr_knows [(Str.ofString "toc", Value.ref T), (Str.ofString "items", Value.ref It), (Str.ofString "levels", Value.ref Lv), (Str.ofString "cells", Value.ref C)] F (by
            intro p hp
            simp only [List.mem_cons, List.not_mem_nil, or_false] at hp
            rcases hp with rfl | rfl | rfl | rfl
            · exact hm1
            · exact hm2
            · exact hm3
            · exact hm4)
      simp only [kstB] at F
      dsimp only
      k_steps
      refine unhalt ?_
      rename Fr _ _ _ _ => F9
      (rename 0 < _ => hpos8)
      refine wpAny_with_toks (n := 1) hpos8 ?_
      refine LCg.Assign_ListComp_U (F₀ := F9) rfl (by with_unfolding_all rfl) (by with_unfolding_all rfl) (by decide) rfl (by decide) rfl rfl rfl ?_
      k_steps
      refine unhalt ?_
      rename IsRange _ _ _ _ _ _ _ _ => hrng2
      rename Fr _ _ _ _ => F7
      rename News _ _ _ _ => N7
      refine LCg.CompSrc.range (n := cs.length + 1) rfl F7 N7 hrng2 (small_one (by omega) (by omega) (by omega) (by omega)) (by rw [rangeSize_one]; split <;> omega) (by rw [sizeLine_eq]; omega) (fun g => ?_)
      refine rest_empties (base := (T, listOf vt.toArray ct) :: (It, listOf vi.toArray ci) :: (Lv, listOf vl.toArray cl) :: (C, listOf ws.toArray 0) :: tups) (n := cs.length + 1) ?_ (cs.length + 1) 0 [] (by omega) rfl List.nodup_nil (fun _ _ h => nomatch h)
      intro bl hbl hbn hbb Bl hB tkB FB NB offB htkB
      have hvl : vl.length = cs.length := by have := hV.length; simp only [List.length_map, List.length_range] at this; exact this
      have htkB : 0 < tkB := htkB
      have hBl : Bl ∉ bl := fun hm => by
        obtain ⟨j, hj⟩ := List.mem_iff_getElem?.mp hm
        have hj2 : j < cs.length + 1 := by rw [← hbl]; exact (List.getElem?_eq_some_iff.mp hj).1
        exact off1_mem offB _ (List.mem_append.mpr (.inl (mem_cells (y := ([], 0)) hj (by rw [List.getElem?_replicate, if_pos hj2])))) rfl
      have NB : News _ _ _ ((Bl, listOf (bl.map Value.ref).toArray (bl.map Value.ref).length) :: (T, listOf vt.toArray ct) :: (It, listOf vi.toArray ci) :: (Lv, listOf vl.toArray cl) :: (C, listOf ws.toArray 0) :: (cellsOf bl (List.replicate (cs.length + 1) ([], 0)) ++ tups)) := fun p hp => NB p (by
        simp only [List.mem_cons, List.mem_append] at hp ⊢
        rcases hp with h | h | h | h | h | h | h <;> simp only [h, true_or, or_true])
      dsimp only
      k_steps
      refine unhalt ?_
      refine wpAny_For ?_
      (rename 0 < _ => hpos7)
      refine wpAny_with_toks (n := 1) hpos7 ?_
      k_steps
      rename IsRange _ _ _ _ _ _ _ _ => hrng3
      rename Fr _ _ _ _ => F6
      rename News _ _ _ _ => N6
      rename 1 ≤ _ => hpos6
      refine loop_range (n := cs.length) (J := J2 (levF cs) bl Bl _ vt vi vl ws ct ci cl tups T It Lv C) rfl rfl rfl hrng3 (small_one (by omega) (by omega) (by omega) (by omega)) (by rw [rangeSize_one]; split <;> omega) F6 N6 hpos6
        ⟨_, by rw [List.length_replicate]; exact hbl.symm, rfl, ?_, rfl, rfl, rfl, rfl⟩ ?_ ?_
      · intro p y hy
        rw [List.getElem?_replicate] at hy
        split at hy
        · cases hy; exact .nil
        · cases hy
      · rintro i t m₂ nx h2 tk3 I o hi htk3 hI2 ⟨bs, hbs, rfl, hbv, hb1, hb2, hb3, hb4⟩ F N
        simp only [envLoc] at F N
        have F := fr_knows [(Str.ofString "k", Value.int (i : Int) t), (Str.ofString "toc", Value.ref T), (Str.ofString "items", Value.ref It), (Str.ofString "levels", Value.ref Lv), (Str.ofString "below", Value.ref Bl)] F (by
            intro p hp
            simp only [List.mem_cons, List.not_mem_nil, or_false] at hp
            rcases hp with rfl | rfl | rfl | rfl | rfl
            · rfl
            · exact hb1
            · exact hb2
            · exact hb3
            · exact hb4)
        simp only [kstB] at F
        k_steps
        rename Fr _ _ _ _ => F5
        rename News _ _ _ _ => N5
        rename 0 < _ => hpos5
        refine unhalt ?_
        refine loop_down (x := Str.ofString "place") (n₀ := i) (fun p => p ≤ i ∧ searchF (levF cs) (levF cs i) p = parF (levF cs) i) F5 N5 hpos5 rfl ⟨Nat.le_refl _, rfl⟩ ?_
        rintro p tp h3 tk4 htk4 ⟨hpi, hps⟩ F N
        simp only [envLoc] at F N
        k_steps
        · rename Fr _ _ _ _ => F4
          rename News _ _ _ _ => N4
          rename (0 : Int) < (p : Int) => hp0
          rename List.getD _ _ _ ≤ List.getD _ _ _ => hle
          have e : ((p - 1 : Nat) : Int) = (p : Int) - 1 := by omega
          exact ⟨_, _, _, _, rfl, F4, N4, rfl, p - 1, _, by omega, ⟨by omega, by rw [← hps]; exact (search_down hp0 hpi hi hle).symm⟩, by rw [e]; rfl, fun z hz => by simp only [if_neg hz]⟩
        all_goals (
          have hpar : parF (levF cs) i = p := by
            rw [← hps]
            first
              | (rename (0 : Int) < (p : Int) => hp0
                 rename ¬ (List.getD _ _ _ ≤ List.getD _ _ _) => hle
                 exact search_stop hp0 hpi hi hle)
              | (rename ¬ (0 : Int) < (p : Int) => hp0
                 exact search_zero hp0)
          have hp1 : p < bl.length := by omega
          have hp2 : p < bs.length := by omega
          have ha := List.getElem?_eq_getElem hp1
          have hy := List.getElem?_eq_getElem hp2
          generalize bl[p] = a at ha
          generalize bs[p] = y at hy
          have hyl : y.1.length ≤ 20 := by
            have h1 := (hbv p y hy).length
            have h2 := belF_length (levF cs) i p
            omega
          have hab : a ∈ bl := List.mem_of_getElem? ha
          have hne : ∀ b : Addr, b ∉ bl → b ≠ a := fun b hb q => hb (by rw [q]; exact hab)
          have hma : (a, listOf y.1.toArray y.2) ∈ cellsOf bl bs ++ tups := List.mem_append.mpr (.inl (mem_cells ha hy))
          have hU : Upd a (listOf y.1.toArray y.2) (listOf (y.1 ++ [Value.int (i : Int) t]).toArray (y.2 + 1))
              ((I, o) :: (Bl, listOf (bl.map Value.ref).toArray (bl.map Value.ref).length) :: (T, listOf vt.toArray ct) :: (It, listOf vi.toArray ci) :: (Lv, listOf vl.toArray cl) :: (C, listOf ws.toArray 0) :: (cellsOf bl bs ++ tups))
              ((I, o) :: (Bl, listOf (bl.map Value.ref).toArray (bl.map Value.ref).length) :: (T, listOf vt.toArray ct) :: (It, listOf vi.toArray ci) :: (Lv, listOf vl.toArray cl) :: (C, listOf ws.toArray 0) :: (cellsOf bl (bs.set p (y.1 ++ [Value.int (i : Int) t], y.2 + 1)) ++ tups)) :=
            Upd.tail (fun q => hI2 _ (.tail _ (.tail _ (.tail _ (.tail _ (.tail _ hma))))) q.symm) (Upd.tail (hne _ hBl) (Upd.tail (hne _ (hbb _ (.head _))) (Upd.tail (hne _ (hbb _ (.tail _ (.head _)))) (Upd.tail (hne _ (hbb _ (.tail _ (.tail _ (.head _)))))
              (Upd.tail (hne _ (hbb _ (.tail _ (.tail _ (.tail _ (.head _)))))) (upd_cells (x := (y.1 ++ [Value.int (i : Int) t], y.2 + 1)) ha hy hbn fun z hz => hbb z (.tail _ (.tail _ (.tail _ (.tail _ hz))))))))))
          refine unhalt (lt_item N (List.Mem.tail _ (List.Mem.head _)) (by omega) (by omega) (v := .ref a) (by rw [List.getElem?_map, show ((p : Int)).toNat = p from by omega, ha]; rfl) ?_ (by with_unfolding_all rfl))
          k_steps
          rename Fr _ _ _ _ => F4
          rename News _ _ _ _ => N4
          exact j2_turn hI2 hbs hbv hy hpar F4 N4 rfl rfl rfl rfl)
      · rintro m₂ nx h2 tk3 htk3 ⟨bs, hbs, rfl, hbv, hb1, hb2, hb3, hb4⟩ F N
        simp only [envLoc] at F N
        have F := fr_knows [(Str.ofString "toc", Value.ref T), (Str.ofString "items", Value.ref It), (Str.ofString "levels", Value.ref Lv), (Str.ofString "below", Value.ref Bl)] F (by
            intro p hp
            simp only [List.mem_cons, List.not_mem_nil, or_false] at hp
            rcases hp with rfl | rfl | rfl | rfl
            · exact hb1
            · exact hb2
            · exact hb3
            · exact hb4)
        simp only [kstB] at F
        obtain ⟨LL, LF, hfin⟩ := law1_facts cs hn
        have hRW : RowsIn ((Bl, listOf (bl.map Value.ref).toArray (bl.map Value.ref).length) :: (T, listOf vt.toArray ct) :: (It, listOf vi.toArray ci) :: (Lv, listOf vl.toArray cl) :: (C, listOf ws.toArray 0) :: (cellsOf bl bs ++ tups)) vt ((List.range cs.length).map (rowF cs)) :=
          hR.mono fun p hp => .tail _ (.tail _ (.tail _ (.tail _ (.tail _ (List.mem_append.mpr (.inr hp))))))
        have hTm : (T, listOf vt.toArray ct) ∈ ((Bl, listOf (bl.map Value.ref).toArray (bl.map Value.ref).length) :: (T, listOf vt.toArray ct) :: (It, listOf vi.toArray ci) :: (Lv, listOf vl.toArray cl) :: (C, listOf ws.toArray 0) :: (cellsOf bl bs ++ tups)) := .tail _ (.head _)
        have hIm : (It, listOf vi.toArray ci) ∈ ((Bl, listOf (bl.map Value.ref).toArray (bl.map Value.ref).length) :: (T, listOf vt.toArray ct) :: (It, listOf vi.toArray ci) :: (Lv, listOf vl.toArray cl) :: (C, listOf ws.toArray 0) :: (cellsOf bl bs ++ tups)) := .tail _ (.tail _ (.head _))
        have hB1 : BelIn ((Bl, listOf (bl.map Value.ref).toArray (bl.map Value.ref).length) :: (T, listOf vt.toArray ct) :: (It, listOf vi.toArray ci) :: (Lv, listOf vl.toArray cl) :: (C, listOf ws.toArray 0) :: (cellsOf bl bs ++ tups)) Bl cs.length (belF (levF cs) cs.length) := by
          refine ⟨bl, _, hbl, .head _, fun p hp => ?_⟩
          have hp1 : p < bl.length := by omega
          have hp2 : p < bs.length := by omega
          exact ⟨bl[p], bs[p].1, bs[p].2, List.getElem?_eq_getElem hp1, .tail _ (.tail _ (.tail _ (.tail _ (.tail _ (List.mem_append.mpr (.inl (mem_cells (List.getElem?_eq_getElem hp1) (List.getElem?_eq_getElem hp2)))))))), hbv p _ (List.getElem?_eq_getElem hp2)⟩
        have hrl : ((List.range cs.length).map (rowF cs)).length ≤ 20 := by rw [List.length_map, List.length_range]; exact hn
        have hrs : ∀ r ∈ (List.range cs.length).map (rowF cs), r.2.1.length ≤ 8 ∧ r.2.2.length ≤ 8 := by
          intro r hr
          obtain ⟨k, hk, rfl⟩ := List.mem_map.mp hr
          rw [List.mem_range] at hk
          exact rowF_short cs k (by omega)
        have hsm := LF.small 0
        dsimp only
        k_steps))
end Mine1
theorem PySem.Challenge.cw_ci0010_01_holds : PySem.Challenge.rw_ci0010_01.Holds := by
  exact Mine1.law_ok
