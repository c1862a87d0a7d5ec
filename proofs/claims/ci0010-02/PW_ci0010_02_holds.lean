import PyProof.Rows.All
import Wide.All
import OpenK.AllK
import Wide.FinOn
import PySem.Challenge.RW_ci0010_02
open PySem PySem.W PyProof.Rows
set_option Elab.async false
set_option maxRecDepth 100000
set_option maxHeartbeats 8000000
namespace Mine2
open_top hd for PySem.Challenge.rw_ci0010_02
end Mine2
open PySem PySem.W PyProof.Rows
set_option Elab.async false
set_option maxRecDepth 100000
namespace Mine

abbrev rngObj (x left : Int) : Obj := { cls := .type "range_iterator", dict := none, data := .fields #[rawInt x, rawInt left, rawInt 1], slots := #[] }

/-- what a turn of a loop ends in: the iterator's object stands as it stood -/
def TurnPost (h₀ : Heap) (L : Addr) (J : (Str → Option Value) → List (Addr × Obj) → Prop) (I : Addr) (o : Obj) (s₁ : Shared) (Q : Flow → Shared → Prop) (f : Flow) (s₂ : Shared) : Prop :=
  match f with
  | .ret v => Q (.ret v) s₂
  | .brk => Q .next s₂
  | _ => ∃ h' tk m' nx, s₂ = { s₁ with heap := h', toks := tk } ∧ Fr h₀ L h' m' ∧ News h₀ L h' ((I, o) :: nx) ∧ (∀ p ∈ nx, p.1 ≠ I) ∧ J m' nx

section
variable {prog : Program} {w : World} {A : Around} {E : Value → Shared → Prop} {s : Shared} {env : Env} {h₀ : Heap} {target : PySem.Expr} {body : List Stmt} {Q : Flow → Shared → Prop}

theorem loop_list {l : Addr} {vs : List Value} {nn : Nat} {m₀ : Str → Option Value} {news : List (Addr × Obj)} (J : Nat → (Str → Option Value) → List (Addr × Obj) → Prop)
    (hh : A.handled = none) (F : Fr h₀ env.locals s.heap m₀) (N : News h₀ env.locals s.heap news) (ht : 0 < s.toks) (hj : J 0 m₀ news)
    (hJl : ∀ i m nx, J i m nx → (l, listOf vs.toArray nn) ∈ nx)
    (hgo : ∀ (I l' : Addr) (i : Nat) (v : Value) (s' : Shared) (Q' : Unit → Shared → Prop) (E' : Value → Shared → Prop), s'.heap.IsListIter I l' i → v ∈ vs → Q' () s' → wpAny (model prog w) A (letOwnedTupleGo target (.ref I) v) Q' E' s')
    (turn : ∀ i v m₁ nx h tk I o, vs[i]? = some v → 0 < tk → (∀ p ∈ nx, p.1 ≠ I) → J i m₁ nx → Fr h₀ env.locals h m₁ → News h₀ env.locals h ((I, o) :: nx) →
      wpAny (model prog w) A (assign target env v) (fun _ s₂ => wpAny (model prog w) A (execs body env) (TurnPost h₀ env.locals (J (i + 1)) I o { s with heap := h, toks := tk } Q) (fun _ _ => False) s₂) (fun _ _ => False) { s with heap := h, toks := tk })
    (done : ∀ m₁ nx h tk, 0 < tk → J vs.length m₁ nx → Fr h₀ env.locals h m₁ → News h₀ env.locals h nx → Q .next { s with heap := h, toks := tk }) :
    wpAny (model prog w) A (pyIter (.ref l)) (fun it s₂ => codeAny (model prog w) A (.forLoop target it body [] env) (fun r s' => match r with | .ok f => Q f s' | .error e => cameBackBy (model prog w) A env E e s') s₂) E s := by
  have hol : s.heap.get? l = some (listOf vs.toArray nn) := (N _ (hJl _ _ _ hj)).1
  have hls : s.heap.IsList l vs.toArray := ⟨_, hol, rfl, nn, rfl⟩
  have hIL : s.heap.objs.size ≠ env.locals := Nat.ne_of_gt F.ns.lt
  have hI0 : h₀.get? s.heap.objs.size = none := next_is_new F
  refine wpAny_pyIter_list hls ?_
  refine codeAny_forLoop_any
    (fun k s' => ∃ h' tk m' nx i, s' = { s with heap := h', toks := tk } ∧ 0 < tk ∧ h'.IsListIter s.heap.objs.size l i ∧ Fr h₀ env.locals h' m' ∧ News h₀ env.locals h' nx ∧ (∀ p ∈ nx, p.1 ≠ s.heap.objs.size) ∧ J i m' nx ∧ i ≤ vs.length ∧ k = vs.length + 1 - i) ?_ (vs.length + 1)
    ⟨_, _, m₀, news, 0, rfl, ht, ⟨_, Heap.get?_push_size _ rfl, rfl, rfl⟩, F.push _, (fun p hp => ⟨Heap.get?_push_of_some _ (N p hp).1, (N p hp).2⟩), (fun p hp => Nat.ne_of_lt (Heap.lt_size (N p hp).1)), hj, Nat.zero_le _, rfl⟩
  rintro k s' ⟨h', tk, m', nx, i, rfl, htk, hit, F', N', hoff, hJ, hi, rfl⟩
  have hl' : h'.IsList l vs.toArray := ⟨_, (N' _ (hJl _ _ _ hJ)).1, rfl, nn, rfl⟩
  cases hv : vs[i]? with
  | none =>
    have hsz : i = vs.length := Nat.le_antisymm hi (by simpa using hv)
    refine wpAny_pyNext_list_end hh hit hl' (by simpa using hv) fun h₁ he₁ => wpAny_execs_nil ?_
    refine done m' nx h₁ tk htk (hsz ▸ hJ) ⟨F'.ns.extBut he₁ hIL.symm, fun b o e => he₁ b o (fun q => by rw [q, hI0] at e; cases e) (F'.keep b o e), F'.above⟩ fun p hp => ⟨he₁ _ _ (hoff p hp) (N' p hp).1, (N' p hp).2⟩
  | some v =>
    have hlt : i < vs.length := (List.getElem?_eq_some_iff.mp hv).1
    refine wpAny_pyNext_list_item hit hl' (by simpa using hv) fun h₁ hit₁ hs₁ => ?_
    obtain ⟨oI, hoI, hcI, hdI⟩ := id hit₁
    have F₁ : Fr h₀ env.locals h₁ m' := F'.change hs₁ hIL hI0
    have N₁ : News h₀ env.locals h₁ ((s.heap.objs.size, oI) :: nx) := by
      intro p hp
      rcases List.mem_cons.mp hp with rfl | hp
      · exact ⟨hoI, hIL, hI0⟩
      · exact ⟨(hs₁.2 _ (hoff p hp)).trans (N' p hp).1, (N' p hp).2⟩
    refine hgo _ _ _ _ _ _ _ hit₁ (List.mem_of_getElem? hv) ?_
    have T := turn i v m' nx h₁ tk _ _ hv htk hoff hJ F₁ N₁
    refine wpAny_mono (wpAny_toks_of (n := 1) htk T) (fun _ s₂ h₂ => ?_) fun _ _ e => e.2.elim
    refine wpAny_mono (wpAny_toks_of (n := 1) h₂.1 h₂.2) (fun f s₃ h₃ => ?_) fun _ _ e => e.2.elim
    obtain ⟨htk₃, h₃⟩ := h₃
    have next : (∃ h' tk₂ m' nx, s₃ = { ({ s with heap := h₁, toks := tk } : Shared) with heap := h', toks := tk₂ } ∧ Fr h₀ env.locals h' m' ∧ News h₀ env.locals h' ((s.heap.objs.size, oI) :: nx) ∧ (∀ p ∈ nx, p.1 ≠ s.heap.objs.size) ∧ J (i + 1) m' nx) →
        ∃ m, m < vs.length + 1 - i ∧ ∃ h' tk m' nx i, s₃ = { s with heap := h', toks := tk } ∧ 0 < tk ∧ h'.IsListIter s.heap.objs.size l i ∧ Fr h₀ env.locals h' m' ∧ News h₀ env.locals h' nx ∧ (∀ p ∈ nx, p.1 ≠ s.heap.objs.size) ∧ J i m' nx ∧ i ≤ vs.length ∧ m = vs.length + 1 - i := by
      rintro ⟨h₄, tk₄, m₄, nx₄, rfl, F₄, N₄, hoff₄, hJ₄⟩
      exact ⟨vs.length + 1 - (i + 1), by omega, h₄, tk₄, m₄, nx₄, i + 1, rfl, htk₃, ⟨oI, (N₄ _ (.head _)).1, hcI, hdI⟩, F₄, fun p hp => N₄ p (.tail _ hp), hoff₄, hJ₄, hlt, rfl⟩
    cases f with
    | next => exact next h₃
    | cont => exact next h₃
    | brk => exact h₃
    | ret v => exact h₃

theorem loop_range {r : Addr} {b₀ : Int} {t₀ u₀ v₀ : Tok} {n : Nat} {m₀ : Str → Option Value} {news : List (Addr × Obj)} {x : Str} {px : Pos} (J : Nat → (Str → Option Value) → List (Addr × Obj) → Prop)
    (hx : env.kindOf x = some .local) (hp : (env.scope.kind == .class || (env.scope.kind == .module && env.locals != env.globals)) = false)
    (hh : A.handled = none) (hr : IsRange s.heap r 0 b₀ 1 t₀ u₀ v₀) (hsmall : Builtin.Range.small 0 b₀ 1 = true) (hn : Builtin.Range.rangeSize 0 b₀ 1 = (n : Int))
    (F : Fr h₀ env.locals s.heap m₀) (N : News h₀ env.locals s.heap news) (ht : 0 < s.toks) (hj : J 0 m₀ news)
    (turn : ∀ i t m₁ nx h tk I o, i < n → 0 < tk → (∀ p ∈ nx, p.1 ≠ I) → J i m₁ nx → Fr h₀ env.locals h (fun y => if y = x then some (.int (i : Int) t) else m₁ y) → News h₀ env.locals h ((I, o) :: nx) →
      wpAny (model prog w) A (execs body env) (TurnPost h₀ env.locals (J (i + 1)) I o { s with heap := h, toks := tk } Q) (fun _ _ => False) { s with heap := h, toks := tk })
    (done : ∀ m₁ nx h tk, 0 < tk → J n m₁ nx → Fr h₀ env.locals h m₁ → News h₀ env.locals h nx → Q .next { s with heap := h, toks := tk }) :
    wpAny (model prog w) A (pyIter (.ref r)) (fun it s₂ => codeAny (model prog w) A (.forLoop (.Name x px) it body [] env) (fun r s' => match r with | .ok f => Q f s' | .error e => cameBackBy (model prog w) A env E e s') s₂) E s := by
  have hIL : s.heap.objs.size ≠ env.locals := Nat.ne_of_gt F.ns.lt
  have hI0 : h₀.get? s.heap.objs.size = none := next_is_new F
  refine wpAny_pyIter_range hr hsmall ?_
  rw [hn]
  refine codeAny_forLoop
    (fun k s' => ∃ h' tk m' nx i, s' = { s with heap := h', toks := tk } ∧ 0 < tk ∧ IsRangeIter h' s.heap.objs.size (i : Nat) ((n : Int) - (i : Nat)) 1 ∧ Fr h₀ env.locals h' m' ∧ News h₀ env.locals h' nx ∧ (∀ p ∈ nx, p.1 ≠ s.heap.objs.size) ∧ J i m' nx ∧ i ≤ n ∧ k = n + 1 - i) ?_ (n + 1)
    ⟨_, _, m₀, news, 0, rfl, ht, (by simpa using Heap.get?_push_size _ rfl), F.push _, (fun p hp => ⟨Heap.get?_push_of_some _ (N p hp).1, (N p hp).2⟩), (fun p hp => Nat.ne_of_lt (Heap.lt_size (N p hp).1)), hj, Nat.zero_le _, rfl⟩
  rintro k s' ⟨h', tk, m', nx, i, rfl, htk, hit, F', N', hoff, hJ, hi, rfl⟩
  by_cases hlt : i < n
  · refine wpAny_pyNext_range_item hit (by omega) fun h₁ hit₁ hs₁ => ?_
    have e1 : (i : Int) + 1 = ((i + 1 : Nat) : Int) := by omega
    have e2 : (n : Int) - (i : Nat) - 1 = (n : Int) - ((i + 1 : Nat) : Int) := by omega
    rw [e1, e2] at hit₁
    have F₁ : Fr h₀ env.locals h₁ m' := F'.change hs₁ hIL hI0
    have N₁ : News h₀ env.locals h₁ ((s.heap.objs.size, rngObj ((i + 1 : Nat) : Int) ((n : Int) - ((i + 1 : Nat) : Int))) :: nx) := by
      intro p hp
      rcases List.mem_cons.mp hp with rfl | hp
      · exact ⟨hit₁, hIL, hI0⟩
      · exact ⟨(hs₁.2 _ (hoff p hp)).trans (N' p hp).1, (N' p hp).2⟩
    refine wpAny_assign_Name (wpAny_storeName_local hx F₁.ns (fun h₂ hn₂ hs₂ => ?_) hp)
    have T := turn i _ m' nx h₂ (tk + 1 + 1) _ _ hlt (Nat.succ_pos _) hoff hJ (F₁.set hn₂ hs₂) (N₁.set hs₂)
    refine wpAny_mono (wpAny_toks_of (n := 1) (Nat.succ_le_succ (Nat.zero_le _)) T) (fun f s₃ h₃ => ?_) fun _ _ e => e.2.elim
    obtain ⟨htk₃, h₃⟩ := h₃
    have next : (∃ h' tk₂ m₃ nx₃, s₃ = { ({ s with heap := h₂, toks := tk + 1 + 1 } : Shared) with heap := h', toks := tk₂ } ∧ Fr h₀ env.locals h' m₃ ∧ News h₀ env.locals h' ((s.heap.objs.size, rngObj ((i + 1 : Nat) : Int) ((n : Int) - ((i + 1 : Nat) : Int))) :: nx₃) ∧ (∀ p ∈ nx₃, p.1 ≠ s.heap.objs.size) ∧ J (i + 1) m₃ nx₃) →
        ∃ m, m < n + 1 - i ∧ ∃ h' tk m' nx i, s₃ = { s with heap := h', toks := tk } ∧ 0 < tk ∧ IsRangeIter h' s.heap.objs.size (i : Nat) ((n : Int) - (i : Nat)) 1 ∧ Fr h₀ env.locals h' m' ∧ News h₀ env.locals h' nx ∧ (∀ p ∈ nx, p.1 ≠ s.heap.objs.size) ∧ J i m' nx ∧ i ≤ n ∧ m = n + 1 - i := by
      rintro ⟨h₄, tk₄, m₄, nx₄, rfl, F₄, N₄, hoff₄, hJ₄⟩
      exact ⟨n + 1 - (i + 1), by omega, h₄, tk₄, m₄, nx₄, i + 1, rfl, htk₃, (N₄ _ (.head _)).1, F₄, fun p hp => N₄ p (.tail _ hp), hoff₄, hJ₄, hlt, rfl⟩
    cases f with
    | next => exact next h₃
    | cont => exact next h₃
    | brk => exact h₃
    | ret v => exact h₃
  · have hin : i = n := by omega
    refine wpAny_pyNext_range_end hh hit (by omega) fun h₁ he₁ => wpAny_execs_nil ?_
    exact done m' nx h₁ tk htk (hin ▸ hJ) ⟨F'.ns.extBut he₁ hIL.symm, fun b o e => he₁ b o (fun q => by rw [q, hI0] at e; cases e) (F'.keep b o e), F'.above⟩ fun p hp => ⟨he₁ _ _ (hoff p hp) (N' p hp).1, (N' p hp).2⟩

/-- what a turn of a while ends in -/
def WhilePost (h₀ : Heap) (L : Addr) (J : (Str → Option Value) → List (Addr × Obj) → Prop) (s₁ : Shared) (Q : Flow → Shared → Prop) (f : Flow) (s₂ : Shared) : Prop :=
  match f with
  | .ret v => Q (.ret v) s₂
  | .brk => Q .next s₂
  | _ => ∃ h' tk m' nx, s₂ = { s₁ with heap := h', toks := tk } ∧ Fr h₀ L h' m' ∧ News h₀ L h' nx ∧ J m' nx

theorem loop_while {test : PySem.Expr} {orelse : List Stmt} {pos : Pos} {m₀ : Str → Option Value} {news : List (Addr × Obj)} {n₀ : Nat} (J : Nat → (Str → Option Value) → List (Addr × Obj) → Prop)
    (F : Fr h₀ env.locals s.heap m₀) (N : News h₀ env.locals s.heap news) (ht : 0 < s.toks) (hj : J n₀ m₀ news)
    (turn : ∀ n m₁ nx h tk, 0 < tk → J n m₁ nx → Fr h₀ env.locals h m₁ → News h₀ env.locals h nx →
      wpAny (model prog w) A (isTrue test env (eval test env)) (fun b s₂ =>
        if b = true then wpAny (model prog w) A (execs body env) (WhilePost h₀ env.locals (fun m' nx' => ∃ n', n' < n ∧ J n' m' nx') { s with heap := h, toks := tk } Q) (fun _ _ => False) s₂
        else wpAny (model prog w) A (execs orelse env) Q (fun _ _ => False) s₂) (fun _ _ => False) { s with heap := h, toks := tk }) :
    wpAny (model prog w) A (exec (.While test body orelse pos) env) Q E s := by
  refine wpAny_While (codeAny_whileLoop (fun n s' => ∃ h₁ tk₁ m₁ nx, s' = { s with heap := h₁, toks := tk₁ } ∧ 0 < tk₁ ∧ Fr h₀ env.locals h₁ m₁ ∧ News h₀ env.locals h₁ nx ∧ J n m₁ nx) ?_ n₀ ⟨s.heap, s.toks, m₀, news, rfl, ht, F, N, hj⟩)
  rintro n s' ⟨h₁, tk₁, m₁, nx, rfl, htk, F₁, N₁, J₁⟩
  refine wpAny_mono (wpAny_toks_of (n := 1) htk (turn n m₁ nx h₁ tk₁ htk J₁ F₁ N₁)) (fun b s₂ h₂ => ?_) fun _ _ e => e.2.elim
  obtain ⟨htk₂, h₂⟩ := h₂
  cases b with
  | false =>
    simp only [Bool.false_eq_true, if_false] at h₂ ⊢
    exact wpAny_mono h₂ (fun _ _ x => x) fun _ _ e => e.elim
  | true =>
    simp only [if_true] at h₂ ⊢
    refine wpAny_mono (wpAny_toks_of (n := 1) htk₂ h₂) (fun f s₃ h₃ => ?_) fun _ _ e => e.2.elim
    obtain ⟨htk₃, h₃⟩ := h₃
    have next : (∃ h' tk₂ m' nx', s₃ = { ({ s with heap := h₁, toks := tk₁ } : Shared) with heap := h', toks := tk₂ } ∧ Fr h₀ env.locals h' m' ∧ News h₀ env.locals h' nx' ∧ ∃ n', n' < n ∧ J n' m' nx') →
        ∃ m, m < n ∧ ∃ h₁ tk₁ m₁ nx, s₃ = { s with heap := h₁, toks := tk₁ } ∧ 0 < tk₁ ∧ Fr h₀ env.locals h₁ m₁ ∧ News h₀ env.locals h₁ nx ∧ J m m₁ nx := by
      rintro ⟨h₄, tk₄, m₄, nx₄, rfl, F₄, N₄, n', hn', hJ₄⟩
      exact ⟨n', hn', h₄, tk₄, m₄, nx₄, rfl, htk₃, F₄, N₄, hJ₄⟩
    cases f with
    | next => exact next h₃
    | cont => exact next h₃
    | brk => exact h₃
    | ret v => exact h₃
end
end Mine
open PySem PySem.W PyProof.Rows
set_option Elab.async false
set_option maxRecDepth 100000
namespace Mine

/-- one sign replaced by a text, over the list of signs -/
def subC (c : Nat) (z : List Nat) (l : List Nat) : List Nat := l.flatMap fun a => if a = c then z else [a]
theorem subC_append (c : Nat) (z a b : List Nat) : subC c z (a ++ b) = subC c z a ++ subC c z b := by simp [subC]
theorem subC_free (c : Nat) (z : List Nat) : ∀ l : List Nat, c ∉ l → subC c z l = l
  | [], _ => rfl
  | k :: r, h => by
    have h1 : ¬ k = c := fun e => h (e ▸ List.mem_cons_self ..)
    have ih := subC_free c z r fun m => h (List.mem_cons_of_mem _ m)
    unfold subC at ih ⊢
    rw [List.flatMap_cons, ih, if_neg h1]; rfl
theorem subC_join (c : Nat) (z : Str) : ∀ parts : List Str, (∀ p ∈ parts, c ∉ p.cps.toList) → subC c z.cps.toList (Str.join ⟨#[c]⟩ parts).cps.toList = (Str.join z parts).cps.toList
  | [], _ => rfl
  | [p], h => subC_free c _ _ (h p (List.mem_singleton.mpr rfl))
  | p :: q :: r, h => by
    have ih := subC_join c z (q :: r) fun a ha => h a (List.mem_cons_of_mem _ ha)
    show subC c z.cps.toList (p ++ ⟨#[c]⟩ ++ Str.join ⟨#[c]⟩ (q :: r)).cps.toList = (p ++ z ++ Str.join z (q :: r)).cps.toList
    simp only [Str.cps_append, Array.toList_append]
    rw [subC_append, subC_append, ih, subC_free c _ _ (h p (List.mem_cons_self ..))]
    show p.cps.toList ++ subC c z.cps.toList [c] ++ _ = _
    have e : subC c z.cps.toList [c] = z.cps.toList := by simp [subC]
    rw [e]
theorem replace_sub (x z : Str) (c : Nat) : (Txt.replace x ⟨#[c]⟩ z).cps.toList = subC c z.cps.toList x.cps.toList := by
  rw [StrLaws.replace_one, ← subC_join c z _ (StrLaws.split_free x c), StrLaws.join_split]
theorem subC_length (c : Nat) (z : List Nat) (l : List Nat) (k : Nat) (hz : z.length ≤ k) (hk : 1 ≤ k) : (subC c z l).length ≤ k * l.length := by
  induction l with
  | nil => simp [subC]
  | cons a r ih =>
    unfold subC at ih ⊢
    rw [List.flatMap_cons, List.length_append, List.length_cons, Nat.mul_succ]
    have : (if a = c then z else [a]).length ≤ k := by
      split
      · exact hz
      · exact hk
    omega

def ampL : List Nat := [38, 97, 109, 112, 59]
def ltL : List Nat := [38, 108, 116, 59]
def gtL : List Nat := [38, 103, 116, 59]
def quL : List Nat := [38, 113, 117, 111, 116, 59]
/-- the sign told -/
def escC (a : Nat) : List Nat := if a = 38 then ampL else if a = 60 then ltL else if a = 62 then gtL else if a = 34 then quL else [a]
def escL (l : List Nat) : List Nat := l.flatMap escC
def escS (x : Str) : Str := ⟨(escL x.cps.toList).toArray⟩

theorem esc_all (l : List Nat) : subC 34 quL (subC 62 gtL (subC 60 ltL (subC 38 ampL l))) = escL l := by
  induction l with
  | nil => rfl
  | cons a r ih =>
    have e : ∀ c z, subC c z (a :: r) = (if a = c then z else [a]) ++ subC c z r := fun c z => by simp [subC]
    rw [e, subC_append, subC_append, subC_append, ih]
    show _ = escC a ++ escL r
    congr 1
    unfold escC
    by_cases h1 : a = 38
    · subst h1; decide
    · by_cases h2 : a = 60
      · subst h2; decide
      · by_cases h3 : a = 62
        · subst h3; decide
        · by_cases h4 : a = 34
          · subst h4; decide
          · simp [subC, h1, h2, h3, h4]
theorem escF_is (x : Str) : Txt.replace (Txt.replace (Txt.replace (Txt.replace x (Str.ofString "&") (Str.ofString "&amp;")) (Str.ofString "<") (Str.ofString "&lt;")) (Str.ofString ">") (Str.ofString "&gt;")) (Str.ofString "\"") (Str.ofString "&quot;") = escS x := by
  rw [show Str.ofString "&" = Str.mk #[38] from by decide +kernel, show Str.ofString "<" = Str.mk #[60] from by decide +kernel, show Str.ofString ">" = Str.mk #[62] from by decide +kernel, show Str.ofString "\"" = Str.mk #[34] from by decide +kernel]
  have e : ∀ y : Str, y.cps.toList = (escS x).cps.toList → y = escS x := fun y h => by
    cases y with | mk c => exact congrArg Str.mk (Array.toList_inj.mp h)
  apply e
  rw [replace_sub, replace_sub, replace_sub, replace_sub]
  rw [show (Str.ofString "&amp;").cps.toList = ampL from by decide +kernel, show (Str.ofString "&lt;").cps.toList = ltL from by decide +kernel, show (Str.ofString "&gt;").cps.toList = gtL from by decide +kernel, show (Str.ofString "&quot;").cps.toList = quL from by decide +kernel, esc_all]
  simp [escS]
theorem len_list (x : Str) : x.length = x.cps.toList.length := by rw [Array.length_toList]; rfl
theorem replace_len (x y z : Str) (c k : Nat) (hy : y = Str.mk #[c]) (hz : z.length ≤ k) (hk : 1 ≤ k) : (Txt.replace x y z).length ≤ k * x.length := by
  subst hy
  rw [len_list, len_list x, replace_sub]
  exact subC_length _ _ _ _ (by rw [← len_list]; exact hz) hk
theorem escC_length (a : Nat) : (escC a).length ≤ 6 := by
  unfold escC; (repeat' split) <;> simp [ampL, ltL, gtL, quL]
theorem escS_length (x : Str) : (escS x).length ≤ 6 * x.length := by
  rw [len_list, len_list x]
  show (escL x.cps.toList).toArray.toList.length ≤ _
  rw [List.toList_toArray]
  induction x.cps.toList with
  | nil => simp [escL]
  | cons a r ih =>
    have := escC_length a
    simp only [escL, List.flatMap_cons, List.length_append, List.length_cons] at ih ⊢
    omega

section
variable {prog : Program} {w : World} {A : Around} {E : Value → Shared → Prop} {s : Shared} {x y z : Str} {t u v : Nat} {Q : Value → Shared → Prop}
theorem replace_step (c k n : Nat) (ht : 0 < s.toks) (hu : 0 < u) (huv : v = u + 1) (hy : y = Str.mk #[c]) (hyz : (y == z) = false) (hx : x.length ≤ n) (hz : z.length ≤ k) (hk : 1 ≤ k) (hb : n + (n + 1) * k ≤ 16777216)
    (hq : ∀ t' tk, 0 < tk → (Txt.replace x y z).length ≤ k * n → Q (.str (Txt.replace x y z) t') { s with toks := tk }) : wpAny (model prog w) A (call (.builtin "str.replace") [.str x t, .str y u, .str z v]) Q E s := by
  have hl : (Txt.replace x y z).length ≤ k * n := Nat.le_trans (replace_len x y z c k hy hz hk) (Nat.mul_le_mul_left _ hx)
  refine wpAny_with_toks (n := 1) ht (SC.replace (Nat.ne_of_gt hu) (huv ▸ Nat.succ_ne_zero u) (huv ▸ (Nat.ne_of_lt (Nat.lt_succ_self u))) hyz ?_ fun t' tk htk => hq t' tk htk hl)
  have h1 : (x.length + 1) * z.length ≤ (n + 1) * k := Nat.mul_le_mul (by omega) hz
  omega
end
/-- what comes back from a call that leaves the caller's things as they stood -/
def Back (h₀ : Heap) (L : Addr) (m : Str → Option Value) (news : List (Addr × Obj)) (s : Shared) (R : Tok → Value) (v : Value) (s' : Shared) : Prop :=
  ∃ t h' tk', v = R t ∧ s' = { s with heap := h', toks := tk' } ∧ Fr h₀ L h' m ∧ News h₀ L h' news
theorem wpAny_back {M : Model} {A : Around} {t : Sem Value} {E : Value → Shared → Prop} {Q : Value → Shared → Prop} {s : Shared} {h₀ : Heap} {L : Addr} {m : Str → Option Value} {news : List (Addr × Obj)} {R : Tok → Value}
    (hpos : 0 < s.toks) (hret : ∀ t h' tk', 0 < tk' → Fr h₀ L h' m → News h₀ L h' news → Q (R t) { s with heap := h', toks := tk' })
    (h : wpAny M A t (Back h₀ L m news s R) E s) : wpAny M A t Q E s :=
  wpAny_mono (wpAny_toks_of (n := 1) hpos h) (fun v s' ⟨hk, t, h', tk', e, e', F, N⟩ => by subst e; subst e'; exact hret t h' tk' hk F N) fun _ _ e => e.2
theorem gen_toks {α : Type} {M : Model} {A : Around} {t : Sem α} {Q : α → Shared → Prop} {E : Value → Shared → Prop} {hp : Heap} {g : Array GenState} {d : Drawn} {X : Nat} {o : OsState} (hX : 0 < X)
    (h : ∀ tk, 0 < tk → wpAny M A t Q E ⟨hp, g, d, tk, o⟩) : wpAny M A t Q E ⟨hp, g, d, X, o⟩ := h X hX
def EscOk (prog : Program) (w : World) (K : Frag) (p : Program) (loose : List Str) (mean : ExcName → Option Value) (mg mb : Str → Option Value) (f : Addr) : Prop :=
  ∀ (dp un : Nat) (gd : Option (List Code)) (cn : Str) (cs : Scope) (a : Addr) (ccd : Value) (cl : List (Str × Addr)) (outer : List Env) (A₀ : Around) (base h₀ : Heap) (L : Addr) (m : Str → Option Value) (news : List (Addr × Obj)) (s : Shared) (x : Str) (tk : Tok) (Q E : Value → Shared → Prop),
    Below A₀ base outer h₀ → Fr h₀ L s.heap m → K.In h₀ → News h₀ L s.heap news → Top p loose mean mg mb h₀ → cs.kind = .function → 0 < s.toks →
    x.length ≤ 8 → dp + 1 < recursionLimit → un + 8 < cLine →
    (∀ t h' tk', 0 < tk' → Fr h₀ L h' m → News h₀ L h' news → Q (.str (escS x) t) { s with heap := h', toks := tk' }) →
    wpAny (model prog w) (ktrTop dp un gd cn cs L a ccd cl outer) (call (.ref f) [.str x tk]) Q E s

theorem esc_use {prog : Program} {w : World} {K : Frag} {p : Program} {loose : List Str} {mean : ExcName → Option Value} {mg mb : Str → Option Value} {f : Addr} {dp un : Nat} {gd : Option (List Code)} {cn : Str} {cs : Scope} {a : Addr} {ccd : Value} {cl : List (Str × Addr)} {outer : List Env} {A₀ : Around} {base h₀ : Heap} {L : Addr} {m : Str → Option Value} {news : List (Addr × Obj)} {s : Shared} {x : Str} {tk : Tok} {Q E : Value → Shared → Prop}
    (C : EscOk prog w K p loose mean mg mb f) (B : Below A₀ base outer h₀) (F : Fr h₀ L s.heap m) (X : K.In h₀) (N : News h₀ L s.heap news) (T : Top p loose mean mg mb h₀) (hk : cs.kind = .function) (hpos : 0 < s.toks) (hx : x.length ≤ 8) (hd : dp + 1 < recursionLimit) (hu : un + 8 < cLine)
    (ret : ∀ t h' tk', 0 < tk' → Fr h₀ L h' m → News h₀ L h' news → Q (.str (escS x) t) { s with heap := h', toks := tk' }) :
    wpAny (model prog w) (ktrTop dp un gd cn cs L a ccd cl outer) (call (.ref f) [.str x tk]) Q E s :=
  C _ _ _ _ _ _ _ _ _ _ _ _ _ _ _ _ _ _ _ _ B F X N T hk hpos hx hd hu ret
end Mine
open PySem PySem.W PyProof.Rows
set_option Elab.async false
namespace Mine

/-- a row of the table of contents: its level, its name, its text -/
abbrev RowT := Int × Str × Str
def RowIn (news : List (Addr × Obj)) (v : Value) (r : RowT) : Prop :=
  ∃ T n t1 t2 t3, v = .ref T ∧ (T, ({ cls := .type "tuple", data := .seq [Value.int r.1 t1, Value.str r.2.1 t2, Value.str r.2.2 t3].toArray n } : Obj)) ∈ news
inductive RowsIn (news : List (Addr × Obj)) : List Value → List RowT → Prop
  | nil : RowsIn news [] []
  | cons {v : Value} {vs : List Value} {r : RowT} {rs : List RowT} : RowIn news v r → RowsIn news vs rs → RowsIn news (v :: vs) (r :: rs)
theorem RowIn.mono {news news' : List (Addr × Obj)} {v : Value} {r : RowT} (h : RowIn news v r) (hs : ∀ p ∈ news, p ∈ news') : RowIn news' v r := by
  obtain ⟨T, n, t1, t2, t3, e, hm⟩ := h
  exact ⟨T, n, t1, t2, t3, e, hs _ hm⟩
theorem RowsIn.mono {news news' : List (Addr × Obj)} {vs : List Value} {rs : List RowT} (h : RowsIn news vs rs) (hs : ∀ p ∈ news, p ∈ news') : RowsIn news' vs rs := by
  induction h with
  | nil => exact .nil
  | cons h _ ih => exact .cons (h.mono hs) ih
theorem RowsIn.length {news : List (Addr × Obj)} {vs : List Value} {rs : List RowT} (h : RowsIn news vs rs) : vs.length = rs.length := by
  induction h with
  | nil => rfl
  | cons _ _ ih => rw [List.length_cons, List.length_cons, ih]
theorem RowsIn.get {news : List (Addr × Obj)} {vs : List Value} {rs : List RowT} (h : RowsIn news vs rs) {i : Nat} {v : Value} (hv : vs[i]? = some v) : ∃ r, rs[i]? = some r ∧ RowIn news v r := by
  induction h generalizing i with
  | nil => cases hv
  | cons h _ ih =>
    cases i with
    | zero => cases hv; exact ⟨_, rfl, h⟩
    | succ i => exact ih hv
theorem RowsIn.snoc {news : List (Addr × Obj)} {vs : List Value} {rs : List RowT} (h : RowsIn news vs rs) {v : Value} {r : RowT} (hr : RowIn news v r) : RowsIn news (vs ++ [v]) (rs ++ [r]) := by
  induction h with
  | nil => exact .cons hr .nil
  | cons h _ ih => exact .cons h ih

def sLi : Str := Str.ofString "<li>"
def sNext : Str := Str.ofString "</li>\n<li>"
def sDown : Str := Str.ofString "\n<ul>\n<li>"
def sUpNext : Str := Str.ofString "</li>\n</ul>\n</li>\n<li>"
def sUp : Str := Str.ofString "</li>\n</ul>\n"
def sUl : Str := Str.ofString "<ul>\n"
def itemS (k t : Str) : Str := Str.ofString "<a href=\"#" ++ escS k ++ Str.ofString "\">" ++ t ++ Str.ofString "</a>"

/-- the pops of a turn that goes up; the stack's top is the head -/
def popS (lv : Int) (it : Str) : Str → List Int → Str × List Int
  | s, [] => (s ++ (sNext ++ it), [lv])
  | s, x :: r => if lv = x then (s ++ (sUpNext ++ it), lv :: r) else if lv > x then (s ++ (sNext ++ it), lv :: x :: r) else popS lv it (s ++ sUp) r
def stepS (st : Str × List Int) (lv : Int) (it : Str) : Str × List Int :=
  match st with
  | (s, []) => (s ++ (sLi ++ it), [lv])
  | (s, x :: r) => if lv = x then (s ++ (sNext ++ it), x :: r) else if lv > x then (s ++ (sDown ++ it), lv :: x :: r) else popS lv it s r
def foldS (st : Str × List Int) (rows : List RowT) : Str × List Int := rows.foldl (fun st r => stepS st r.1 (itemS r.2.1 r.2.2)) st
def closeS : Str → List Int → Str
  | s, _ :: y :: r => closeS (s ++ sUp) (y :: r)
  | s, _ => s
def renS (rows : List RowT) : Str :=
  match rows with
  | [] => Str.ofString ""
  | rows => let st := foldS (Str.ofString "", []) rows
    if (closeS st.1 st.2).length = 0 then Str.ofString "" else sUl ++ closeS st.1 st.2 ++ sUp

section
variable {prog : Program} {w : World} {A : Around} {E : Value → Shared → Prop} {s : Shared} {h₀ : Heap} {L D : Addr} {m : Str → Option Value} {news news' : List (Addr × Obj)} {vs : List Value} {v : Value} {n : Nat}
theorem lt_is (N : News h₀ L s.heap news) (hm : (D, listOf vs.toArray n) ∈ news) : s.heap.IsList D vs.toArray := ⟨_, (N _ hm).1, rfl, n, rfl⟩
theorem lt_truthy {Q : Bool → Shared → Prop} (N : News h₀ L s.heap news) (hm : (D, listOf vs.toArray n) ∈ news) (hz : vs.length ≤ 1000) (h : Q (!vs.isEmpty) { s with toks := s.toks + 1 + 1 }) :
    wpAny (model prog w) A (truthy (.ref D)) Q E s := by
  refine wpAny_truthy_list (lt_is N hm) (by rw [List.size_toArray]; omega) ?_
  have e : vs.toArray.isEmpty = vs.isEmpty := by cases vs <;> rfl
  rw [e]; exact h
theorem lt_last {value slice : PySem.Expr} {u : Tok} {Q : Value → Shared → Prop} (N : News h₀ L s.heap news) (hm : (D, listOf (vs ++ [v]).toArray n) ∈ news) (hz : vs.length ≤ 1000) (h : Q v s)
    (hs : subscripted slice false (.ref D) (.int (-1) u) = operate [.ref D, .int (-1) u] (getItem (.ref D) (.int (-1) u)) := by with_unfolding_all rfl) :
    wpAny (model prog w) A (subscriptTail value slice (.ref D) (.int (-1) u)) Q E s := by
  have hl := lt_is N hm
  refine tail_any hl.typeIs slot_list_getitem.lookup (wpAny_getItem_list_neg hl (by decide) ?_ (by decide) ?_ h) hs
  · rw [List.size_toArray, List.length_append, List.length_singleton]; omega
  · rw [List.size_toArray, List.length_append, List.length_singleton]
    have e : ((-1 : Int) + ((vs.length + 1 : Nat) : Int)).toNat = vs.length := by omega
    rw [e]; simp
theorem lt_get {k : Int} {u : Tok} {Q : Value → Shared → Prop} (N : News h₀ L s.heap news) (hm : (D, listOf vs.toArray n) ∈ news) (h0 : 0 ≤ k) (h1 : k < 1000) (hx : vs[k.toNat]? = some v) (h : Q v s) :
    wpAny (model prog w) A (getItem (.ref D) (.int k u)) Q E s := wpAny_getItem_list (lt_is N hm) h0 (by omega) (by simpa using hx) h
theorem lt_item {value slice : PySem.Expr} {k : Int} {u : Tok} {Q : Value → Shared → Prop} (N : News h₀ L s.heap news) (hm : (D, listOf vs.toArray n) ∈ news) (h0 : 0 ≤ k) (h1 : k < 1000) (hx : vs[k.toNat]? = some v) (h : Q v s)
    (hs : subscripted slice false (.ref D) (.int k u) = operate [.ref D, .int k u] (getItem (.ref D) (.int k u)) := by with_unfolding_all rfl) :
    wpAny (model prog w) A (subscriptTail value slice (.ref D) (.int k u)) Q E s :=
  tail_any (lt_is N hm).typeIs slot_list_getitem.lookup (lt_get N hm h0 h1 hx h) hs
theorem lt_len {Q : Value → Shared → Prop} (N : News h₀ L s.heap news) (hm : (D, listOf vs.toArray n) ∈ news) (hz : vs.length ≤ 1000) (h : Q (.int (vs.length : Int) (s.toks + 1)) { s with toks := s.toks + 1 + 1 }) :
    wpAny (model prog w) A (call (.builtin "len") [.ref D]) Q E s := kst_len N hm rfl (by omega) h
theorem lt_append {x : Value} {Q : Value → Shared → Prop} (F : Fr h₀ L s.heap m) (N : News h₀ L s.heap news) (U : Upd D (listOf vs.toArray n) (listOf (vs ++ [x]).toArray (n + 1)) news news') (hz : vs.length ≤ 1000)
    (h : ∀ h', Fr h₀ L h' m → News h₀ L h' news' → Q .none { s with heap := h' }) : wpAny (model prog w) A (call (.builtin "list.append") [.ref D, x]) Q E s := by
  refine append_K F N (its := vs.toArray) (n := n) ?_ h (by rw [List.size_toArray, sizeLine_eq]; omega)
  rw [List.push_toArray]; exact U
theorem kl_last_snoc (v : Value) : ∀ p : List Value, kl_last (p ++ [v]) = some (p, v)
  | [] => rfl
  | x :: r => by
    show kl_last (x :: (r ++ [v])) = _
    unfold kl_last
    rw [kl_last_snoc v r]
theorem lt_pop {Q : Value → Shared → Prop} (F : Fr h₀ L s.heap m) (N : News h₀ L s.heap news) (U : Upd D (listOf (vs ++ [v]).toArray n) (listOf vs.toArray (n + 1)) news news') (hz : vs.length ≤ 1000)
    (h : ∀ h', Fr h₀ L h' m → News h₀ L h' news' → Q v { s with heap := h' }) : wpAny (model prog w) A (call (.builtin "list.pop") [.ref D]) Q E s :=
  kl_pop F N (its := (vs ++ [v]).toArray) (by rw [List.toList_toArray]; exact kl_last_snoc v vs) U (by rw [List.toList_toArray, List.length_append, List.length_singleton, sizeLine_eq]; omega) h
end

theorem fr_know {h₀ h : Heap} {L : Addr} {m : Str → Option Value} {x : Str} {v : Value} (F : Fr h₀ L h m) (e : m x = some v) : Fr h₀ L h (fun y => if y = x then some v else m y) := by
  have : (fun y => if y = x then some v else m y) = m := by
    funext y
    by_cases h : y = x
    · rw [if_pos h, h, e]
    · rw [if_neg h]
  rw [this]; exact F
end Mine
namespace Mine
theorem itemS_length {k t : Str} (hk : k.length ≤ 8) (ht : t.length ≤ 8) : (itemS k t).length ≤ 80 := by
  have := escS_length k
  unfold itemS
  simp only [Str.length_append]
  have e1 : (Str.ofString "<a href=\"#").length = 10 := by decide +kernel
  have e2 : (Str.ofString "\">").length = 2 := by decide +kernel
  have e3 : (Str.ofString "</a>").length = 4 := by decide +kernel
  omega
theorem sNext_length : sNext.length = 10 := by decide +kernel
theorem sUpNext_length : sUpNext.length = 22 := by decide +kernel
theorem sUp_length : sUp.length = 12 := by decide +kernel
theorem sDown_length : sDown.length = 10 := by decide +kernel
theorem sLi_length : sLi.length = 4 := by decide +kernel
theorem sUl_length : sUl.length = 5 := by decide +kernel
theorem popS_bound (lv : Int) (it : Str) (hi : it.length ≤ 80) : ∀ (r : List Int) (s : Str), (popS lv it s r).1.length ≤ s.length + 12 * r.length + 102 ∧ (popS lv it s r).2.length ≤ r.length + 1
  | [], s => by
    unfold popS
    simp only [Str.length_append, sNext_length, List.length_cons, List.length_nil]
    omega
  | x :: r, s => by
    unfold popS
    split
    · simp only [Str.length_append, sUpNext_length, List.length_cons]
      omega
    · split
      · simp only [Str.length_append, sNext_length, List.length_cons]
        omega
      · have := popS_bound lv it hi r (s ++ sUp)
        simp only [Str.length_append, sUp_length, List.length_cons] at this ⊢
        omega
theorem stepS_bound (st : Str × List Int) (lv : Int) (it : Str) (hi : it.length ≤ 80) : (stepS st lv it).1.length ≤ st.1.length + 12 * st.2.length + 102 ∧ (stepS st lv it).2.length ≤ st.2.length + 1 := by
  obtain ⟨s, stk⟩ := st
  cases stk with
  | nil =>
    simp only [stepS, Str.length_append, sLi_length, List.length_cons, List.length_nil]
    omega
  | cons x r =>
    simp only [stepS]
    split
    · simp only [Str.length_append, sNext_length, List.length_cons]
      omega
    · split
      · simp only [Str.length_append, sDown_length, List.length_cons]
        omega
      · have := popS_bound lv it hi r s
        simp only [List.length_cons]
        omega
theorem foldS_snoc (st : Str × List Int) (rows : List RowT) (r : RowT) : foldS st (rows ++ [r]) = stepS (foldS st rows) r.1 (itemS r.2.1 r.2.2) := by
  unfold foldS
  rw [List.foldl_append]; rfl
theorem foldS_bound (rows : List RowT) (hl : rows.length ≤ 20) (hsz : ∀ r ∈ rows, r.2.1.length ≤ 8 ∧ r.2.2.length ≤ 8) : ∀ i, i ≤ rows.length →
    (foldS (Str.ofString "", []) (rows.take i)).1.length ≤ 400 * i ∧ (foldS (Str.ofString "", []) (rows.take i)).2.length ≤ i := by
  intro i
  induction i with
  | zero => intro _; rw [List.take_zero]; decide +kernel
  | succ i ih =>
    intro hi
    have h := ih (by omega)
    have e : rows.take (i + 1) = rows.take i ++ [rows[i]] := by rw [List.take_succ_eq_append_getElem (by omega)]
    rw [e, foldS_snoc]
    have hr := hsz rows[i] (List.getElem_mem _)
    have b := stepS_bound (foldS (Str.ofString "", []) (rows.take i)) rows[i].1 _ (itemS_length hr.1 hr.2)
    omega
end Mine
namespace Mine
theorem RowsIn.mem {news : List (Addr × Obj)} {vs : List Value} {rs : List RowT} (h : RowsIn news vs rs) {v : Value} (hv : v ∈ vs) : ∃ r, r ∈ rs ∧ RowIn news v r := by
  obtain ⟨i, hi⟩ := List.mem_iff_getElem?.mp hv
  obtain ⟨r, hr, hR⟩ := h.get hi
  exact ⟨r, List.mem_of_getElem? hr, hR⟩
theorem go_tuple {prog : Program} {w : World} {A : Around} {news : List (Addr × Obj)} {vs : List Value} {rows : List RowT} {elts : List PySem.Expr} {x1 : Nat} {pos : Pos} (hR : RowsIn news vs rows) (I l' : Addr) (i : Nat) (v : Value) (s' : Shared) (Q' : Unit → Shared → Prop) (E' : Value → Shared → Prop)
    (hit : s'.heap.IsListIter I l' i) (hv : v ∈ vs) (hq : Q' () s') : wpAny (model prog w) A (letOwnedTupleGo (.Tuple elts x1 pos) (.ref I) v) Q' E' s' := by
  obtain ⟨r, _, T, n, t1, t2, t3, rfl, _⟩ := hR.mem hv
  exact wpAny_letOwnedTupleGo_listiter hit hq
end Mine
namespace Mine
theorem envLoc {name : Str} {scope : Scope} {L a : Addr} {cd : Value} : (envOf name scope L a cd).locals = L := rfl
end Mine
namespace Mine
theorem fr_know2 {h₀ h : Heap} {L : Addr} {m : Str → Option Value} {x y : Str} {v u : Value} (F : Fr h₀ L h m) (e : m x = some v) (e' : m y = some u) : Fr h₀ L h (fun z => if z = x then some v else if z = y then some u else m z) := by
  have F1 := fr_know F e'
  refine fr_know F1 ?_
  by_cases h : x = y
  · subst h
    simp only [if_true]
    rw [e] at e'
    exact e'.symm
  · rw [if_neg h]; exact e
end Mine
namespace Mine
theorem fmt_x1 : Str.ofString "<a href=\"#{}\">{}</a>" = Str.mk #[60, 97, 32, 104, 114, 101, 102, 61, 34, 35, 123, 125, 34, 62, 123, 125, 60, 47, 97, 62] := by decide +kernel
set_option maxRecDepth 100000 in
set_option maxHeartbeats 1000000 in
theorem fmt_call {prog : Program} {w : World} {A : Around} {E : Value → Shared → Prop} {s : Shared} {x y : Str} {t u v : Tok} {Q : Value → Shared → Prop} (hx : x.length ≤ 48) (hy : y.length ≤ 8)
    (h : ∀ t' k, Q (.str (Str.ofString "<a href=\"#" ++ x ++ Str.ofString "\">" ++ y ++ Str.ofString "</a>") t') { s with toks := k }) :
    wpAny (model prog w) A (call (.builtin "str.format") [.str (Str.ofString "<a href=\"#{}\">{}</a>") t, .str x u, .str y v]) Q E s := by
  refine' KFm.call_k fmt_x1 ?kfmg ?kfmm ?_
  (case kfmg => exact KFm.args_3 _ _ _)
  case kfmm =>
    apply KPc.meets_of
    intro _ _ _ _ _ _ _
    unfold Builtin.«str.format»
    refine wpAny_bind (wpAny_of_eq (a := (_, _, _)) rfl ?_)
    refine wpAny_bind ?_
    unfold Builtin.Str.buildString
    refine wpAny_bind ?_
    rw [KPc.range_list]
    refine KFm.start ?_
    intro _ _
    kfm_turns
  · exact fun t' k => h t' k
theorem fmt_step {prog : Program} {w : World} {A : Around} {E : Value → Shared → Prop} {s : Shared} {x y : Str} {t u v : Tok} {Q : Value → Shared → Prop} (hpos : 0 < s.toks) (hx : x.length ≤ 8) (hy : y.length ≤ 8)
    (h : ∀ t' k, 0 < k → Q (.str (itemS x y) t') { s with toks := k }) :
    wpAny (model prog w) A (call (.builtin "str.format") [.str (Str.ofString "<a href=\"#{}\">{}</a>") t, .str (escS x) u, .str y v]) Q E s :=
  wpAny_with_toks (n := 1) hpos (fmt_call (Nat.le_trans (escS_length x) (by omega)) hy fun t' k hk => h t' k hk)
end Mine
namespace Mine
theorem ints_last : ∀ {l : List Int} {us : List Value} {x : Int}, IntsAre us (l ++ [x]) → ∃ us' t, us = us' ++ [Value.int x t] ∧ IntsAre us' l
  | [], us, x, h => by
    obtain ⟨t, vs', rfl, h'⟩ := IntsAre.cons_inv h
    rw [IntsAre.nil_inv h']
    exact ⟨[], t, rfl, .nil⟩
  | y :: l, us, x, h => by
    obtain ⟨t, vs', rfl, h'⟩ := IntsAre.cons_inv h
    obtain ⟨us', t', rfl, h''⟩ := ints_last h'
    exact ⟨_ :: us', t', rfl, .cons _ _ h''⟩
section
variable {prog : Program} {w : World} {A : Around} {E : Value → Shared → Prop} {s : Shared} {h₀ : Heap} {L D : Addr} {m : Str → Option Value} {news news' : List (Addr × Obj)} {vs : List Value} {v : Value} {n : Nat}
theorem lt_truthy_snoc {Q : Bool → Shared → Prop} (N : News h₀ L s.heap news) (hm : (D, listOf (vs ++ [v]).toArray n) ∈ news) (hz : vs.length ≤ 1000) (h : Q true { s with toks := s.toks + 1 + 1 }) :
    wpAny (model prog w) A (truthy (.ref D)) Q E s := by
  refine wpAny_truthy_list (lt_is N hm) (by rw [List.size_toArray, List.length_append, List.length_singleton]; omega) ?_
  have e : (!(vs ++ [v]).toArray.isEmpty) = true := by cases vs <;> rfl
  rw [e]; exact h
theorem lt_truthy_nil {Q : Bool → Shared → Prop} (N : News h₀ L s.heap news) (hm : (D, listOf #[] n) ∈ news) (h : Q false { s with toks := s.toks + 1 + 1 }) :
    wpAny (model prog w) A (truthy (.ref D)) Q E s := by
  refine wpAny_truthy_list (items := #[]) (lt_is (vs := []) N hm) (by decide) ?_
  exact h
end
end Mine
namespace Mine
/-- the walk stands still here -/
def Halt (P : Prop) : Prop := P
theorem halt {P : Prop} (h : Halt P) : P := h
theorem unhalt {P : Prop} (h : P) : Halt P := h
end Mine
namespace Mine
theorem fr_knows {h₀ h : Heap} {L : Addr} {m : Str → Option Value} (ps : List (Str × Value)) (F : Fr h₀ L h m) (e : ∀ p ∈ ps, m p.1 = some p.2) : Fr h₀ L h (kstB m ps) := by
  have : kstB m ps = m := by
    funext y
    exact kstB_eq e fun _ => rfl
  rw [this]; exact F
/-- a turn of the outer loop ends with its list and its text -/
theorem turn_end {h₀ : Heap} {L I lv : Addr} {o : Obj} {news : List (Addr × Obj)} {s₁ : Shared} {Q : Flow → Shared → Prop} {h' : Heap} {tk : Nat} {m' : Str → Option Value} {us : List Value} {c : Nat} {st : Str × List Int}
    (hIlv : I ≠ lv) (hI : ∀ p ∈ news, p.1 ≠ I) (F : Fr h₀ L h' m') (N : News h₀ L h' ((I, o) :: (lv, listOf us.toArray c) :: news)) (hus : IntsAre us st.2.reverse) (hs : ∃ t, m' (Str.ofString "s") = some (.str st.1 t)) (hl : m' (Str.ofString "levels") = some (.ref lv)) :
    TurnPost h₀ L (fun m nx => ∃ us c t, nx = (lv, listOf us.toArray c) :: news ∧ IntsAre us st.2.reverse ∧ m (Str.ofString "s") = some (.str st.1 t) ∧ m (Str.ofString "levels") = some (.ref lv)) I o s₁ Q .next { s₁ with heap := h', toks := tk } := by
  obtain ⟨t, hs⟩ := hs
  refine ⟨_, _, _, _, rfl, F, N, fun p hp => ?_, _, _, _, rfl, hus, hs, hl⟩
  rcases List.mem_cons.mp hp with rfl | hp
  · exact hIlv.symm
  · exact hI p hp
end Mine
namespace Mine
theorem renS_ne {rows : List RowT} (h : rows ≠ []) : renS rows = if (closeS (foldS (Str.ofString "", []) rows).1 (foldS (Str.ofString "", []) rows).2).length = 0 then Str.ofString "" else sUl ++ closeS (foldS (Str.ofString "", []) rows).1 (foldS (Str.ofString "", []) rows).2 ++ sUp := by
  cases rows with
  | nil => exact absurd rfl h
  | cons r rs => rfl
end Mine
namespace Mine
def RenOk (prog : Program) (w : World) (K : Frag) (p : Program) (loose : List Str) (mean : ExcName → Option Value) (mg mb : Str → Option Value) (f : Addr) : Prop :=
  ∀ (dp un : Nat) (gd : Option (List Code)) (cn : Str) (cs : Scope) (a : Addr) (ccd : Value) (cl : List (Str × Addr)) (outer : List Env) (A₀ : Around) (base h₀ : Heap) (L : Addr) (m : Str → Option Value) (news : List (Addr × Obj)) (s : Shared) (l : Addr) (vs : List Value) (nn : Nat) (rows : List RowT) (Q E : Value → Shared → Prop),
    Below A₀ base outer h₀ → Fr h₀ L s.heap m → K.In h₀ → News h₀ L s.heap news → Top p loose mean mg mb h₀ → cs.kind = .function → 0 < s.toks →
    (l, listOf vs.toArray nn) ∈ news → RowsIn news vs rows → rows.length ≤ 20 → (∀ r ∈ rows, r.2.1.length ≤ 8 ∧ r.2.2.length ≤ 8) → dp + 2 < recursionLimit → un + 16 < cLine →
    (∀ t h' tk', 0 < tk' → Fr h₀ L h' m → News h₀ L h' news → Q (.str (renS rows) t) { s with heap := h', toks := tk' }) →
    wpAny (model prog w) (ktrTop dp un gd cn cs L a ccd cl outer) (call (.ref f) [.ref l]) Q E s

theorem ren_use {prog : Program} {w : World} {K : Frag} {p : Program} {loose : List Str} {mean : ExcName → Option Value} {mg mb : Str → Option Value} {f : Addr} {dp un : Nat} {gd : Option (List Code)} {cn : Str} {cs : Scope} {a : Addr} {ccd : Value} {cl : List (Str × Addr)} {outer : List Env} {A₀ : Around} {base h₀ : Heap} {L : Addr} {m : Str → Option Value} {news : List (Addr × Obj)} {s : Shared} {l : Addr} {vs : List Value} {nn : Nat} {rows : List RowT} {Q E : Value → Shared → Prop}
    (C : RenOk prog w K p loose mean mg mb f) (B : Below A₀ base outer h₀) (F : Fr h₀ L s.heap m) (X : K.In h₀) (N : News h₀ L s.heap news) (T : Top p loose mean mg mb h₀) (hk : cs.kind = .function) (hpos : 0 < s.toks) (hl : (l, listOf vs.toArray nn) ∈ news) (hR : RowsIn news vs rows) (hlen : rows.length ≤ 20) (hsz : ∀ r ∈ rows, r.2.1.length ≤ 8 ∧ r.2.2.length ≤ 8) (hd : dp + 2 < recursionLimit) (hu : un + 16 < cLine)
    (ret : ∀ t h' tk', 0 < tk' → Fr h₀ L h' m → News h₀ L h' news → Q (.str (renS rows) t) { s with heap := h', toks := tk' }) :
    wpAny (model prog w) (ktrTop dp un gd cn cs L a ccd cl outer) (call (.ref f) [.ref l]) Q E s :=
  C _ _ _ _ _ _ _ _ _ _ _ _ _ _ _ _ _ _ _ _ _ _ B F X N T hk hpos hl hR hlen hsz hd hu ret
end Mine
open PySem PySem.W PyProof.Rows Mine
set_option Elab.async false
set_option maxRecDepth 100000
namespace Mine2
local macro_rules | `(tactic| cell_enter) => `(tactic| (refine' code_def ?k1 ?k2 ?k3 ?k4 ?k5 ?kA ?kF ?kK ?k6 ?k7 ?k8 ?k9 ?kB ?_ ?c2 ?c3 ?c4 ?c5; (case kA => exact rfl); (case kF => exact rfl); (case kK => assumption); (case k1 => k_asm); (case k2 => k_asm); (case k3 => k_asm); (case k4 => k_asm); (case k5 => k_asm); (case k6 => k_is); (case k7 => k_is); (case k8 => ktr_room); (case k9 => first | exact BindsTo.of_eq rfl | exact binds_K (by k_in) rfl (by k_is) rfl rfl rfl); (case c5 => decide); (case kB => exact locs rfl); (case c2 => exact rfl); (case c3 => exact rfl); (case c4 => exact rfl); k_whole; intro g' L' h' FG' F' N' B' X' T'; (try dsimp only); (try k_lift B')))
local macro_rules | `(tactic| walk_at "execs cons") => `(tactic| ((refine gen_toks (by first | exact Nat.succ_pos _ | assumption | omega) ?_; intro tk9 htk9); (with_reducible refine wpAny_execs_cons ?_); try dsimp only))
local macro_rules | `(tactic| walk_at "call builtin:str.replace") => `(tactic| (first
  | (refine' replace_step 38 5 8 ?a1 ?a2 rfl ?a3 ?a4 ?a5 ?a6 ?a7 ?a8 ?_; (case a1 => exact Nat.succ_pos _); (case a2 => assumption); (case a3 => decide +kernel); (case a4 => decide +kernel); (case a5 => assumption); (case a6 => decide +kernel); (case a7 => decide); (case a8 => decide); intro t' tk' htk' hlen')
  | (refine' replace_step 60 4 40 ?a1 ?a2 rfl ?a3 ?a4 ?a5 ?a6 ?a7 ?a8 ?_; (case a1 => exact Nat.succ_pos _); (case a2 => assumption); (case a3 => decide +kernel); (case a4 => decide +kernel); (case a5 => assumption); (case a6 => decide +kernel); (case a7 => decide); (case a8 => decide); intro t' tk' htk' hlen')
  | (refine' replace_step 62 4 160 ?a1 ?a2 rfl ?a3 ?a4 ?a5 ?a6 ?a7 ?a8 ?_; (case a1 => exact Nat.succ_pos _); (case a2 => assumption); (case a3 => decide +kernel); (case a4 => decide +kernel); (case a5 => assumption); (case a6 => decide +kernel); (case a7 => decide); (case a8 => decide); intro t' tk' htk' hlen')
  | (refine' replace_step 34 6 640 ?a1 ?a2 rfl ?a3 ?a4 ?a5 ?a6 ?a7 ?a8 ?_; (case a1 => exact Nat.succ_pos _); (case a2 => assumption); (case a3 => decide +kernel); (case a4 => decide +kernel); (case a5 => assumption); (case a6 => decide +kernel); (case a7 => decide); (case a8 => decide); intro t' tk' htk' hlen')))

set_option maxHeartbeats 4000000 in
theorem esc_ok (w : World) (p : Program) (loose : List Str) (mean : ExcName → Option Value) (mg mb : Str → Option Value) :
    EscOk Challenge.rw_ci0010_02.row.prog w (hd.heap_39 w.params) p loose mean mg mb 22 := by
  k_fill
  unfold EscOk
  intro dp un gd cn cs a ccd cl outer A₀ base h₀ L m news s x tk Q E B F X N T hk hpos hx hd hu hret
  refine wpAny_back (R := fun t => .str (escS x) t) hpos hret ?_
  refine wpAny_call ?_
  k_dflt cell_enter
  k_steps
  all_goals exact ⟨_, _, _, by rw [escF_is], rfl, by assumption, by assumption⟩
end Mine2
open PySem PySem.W PyProof.Rows Mine
set_option Elab.async false
set_option maxRecDepth 100000
namespace Mine2
local macro_rules | `(tactic| cell_enter) => `(tactic| (refine' code_def ?k1 ?k2 ?k3 ?k4 ?k5 ?kA ?kF ?kK ?k6 ?k7 ?k8 ?k9 ?kB ?_ ?c2 ?c3 ?c4 ?c5; (case kA => exact rfl); (case kF => exact rfl); (case kK => assumption); (case k1 => k_asm); (case k2 => k_asm); (case k3 => k_asm); (case k4 => k_asm); (case k5 => k_asm); (case k6 => k_is); (case k7 => k_is); (case k8 => ktr_room); (case k9 => first | exact BindsTo.of_eq rfl | exact binds_K (by k_in) rfl (by k_is) rfl rfl rfl); (case c5 => decide); (case kB => exact locs rfl); (case c2 => exact rfl); (case c3 => exact rfl); (case c4 => exact rfl); k_whole; intro g' L' h' FG' F' N' B' X' T'; (try dsimp only); (try k_lift B')))
local macro_rules | `(tactic| walk_at "execs cons") => `(tactic| ((refine gen_toks (by first | exact Nat.succ_pos _ | assumption | omega) ?_; intro tk9 htk9); (with_reducible refine wpAny_execs_cons ?_); try dsimp only))
local macro_rules | `(tactic| ktr_rel) => `(tactic| first | assumption | exact List.Mem.head _ | exact List.Mem.tail _ (List.Mem.head _) | exact List.Mem.tail _ (by assumption) | exact List.Mem.tail _ (List.Mem.tail _ (by assumption)) | exact List.Mem.tail _ (List.Mem.tail _ (List.Mem.head _)))
local macro_rules | `(tactic| walk_at "truthy ref") => `(tactic| first | (refine' lt_truthy_snoc ?N ?m ?z ?_; (case N => assumption); (case m => ktr_rel); (case z => omega)) | (refine' lt_truthy_nil ?N ?m ?_; (case N => assumption); (case m => ktr_rel)) | (refine' lt_truthy ?N ?m ?z ?_; (case N => assumption); (case m => ktr_rel); (case z => first | omega | (simp only [List.length_append, List.length_cons, List.length_nil]; omega))))
local macro_rules | `(tactic| tb_rel) => `(tactic| first | exact Upd.head (by assumption) | exact Upd.tail (by assumption) (Upd.head (by assumption)) | exact Upd.tail (by assumption) (Upd.tail (by assumption) (Upd.head (by assumption))))
local macro_rules | `(tactic| walk_at "call builtin:list.append") => `(tactic| (refine' lt_append ?F ?N ?U ?z ?_; (case F => assumption); (case N => assumption); (case U => tb_rel); (case z => first | omega | (simp only [List.length_append, List.length_cons, List.length_nil]; omega)); intro h' F' N'))
local macro_rules | `(tactic| walk_at "call builtin:list.pop") => `(tactic| (refine' lt_pop ?F ?N ?U ?z ?_; (case F => assumption); (case N => assumption); (case U => tb_rel); (case z => first | omega | (simp only [List.length_append, List.length_cons, List.length_nil]; omega)); intro h' F' N'))
local macro_rules | `(tactic| walk_at "subscriptTail") => `(tactic| ((with_reducible show wpAny _ _ (subscriptTail _ _ (Value.ref _) (Value.int _ _)) _ _ _); (refine' lt_last ?N ?m ?z ?_ ?s; (case N => assumption); (case m => ktr_rel); (case z => first | assumption | omega); (case s => with_unfolding_all rfl))))
local macro_rules | `(tactic| walk_at "last exec While") => `(tactic| refine halt ?_)
local macro_rules | `(tactic| walk_at "exec While") => `(tactic| refine halt ?_)
local macro_rules | `(tactic| walk_at "call builtin:len") => `(tactic| ((with_reducible show wpAny _ _ (call (Value.builtin "len") [Value.ref _]) _ _ _); (refine' lt_len ?N ?m ?z ?_; (case N => assumption); (case m => ktr_rel); (case z => first | omega | (simp only [List.length_append, List.length_cons, List.length_nil]; omega)))))
local macro_rules | `(tactic| walk_at "call ref") => `(tactic| (refine' esc_use (esc_ok _ _ _ _ _ _) ?k1 ?k2 ?k3 ?k4 ?k5 ?k6 ?k7 ?k8 ?k9 ?k10 ?_; (case k1 => assumption); (case k2 => assumption); (case k3 => assumption); (case k4 => assumption); (case k5 => assumption); (case k6 => rfl); (case k7 => exact Nat.succ_pos _); (case k8 => assumption); (case k9 => (dsimp only [Around.deeper, ktrTop]; omega)); (case k10 => (dsimp only [Around.deeper, ktrTop]; omega)); intro t8 h8 tk8 hpos8 F8 N8))

local macro_rules | `(tactic| walk_at "call builtin:str.format") => `(tactic| (refine' fmt_step ?k1 ?k2 ?k3 ?_; (case k1 => first | assumption | exact Nat.succ_pos _); (case k2 => assumption); (case k3 => assumption); intro t8 tk8 hpos8))

set_option maxHeartbeats 4000000 in
theorem ren_ok (w : World) (p : Program) (loose : List Str) (mean : ExcName → Option Value) (mg mb : Str → Option Value) :
    RenOk Challenge.rw_ci0010_02.row.prog w (hd.heap_39 w.params) p loose mean mg mb 29 := by
  k_fill
  unfold RenOk
  intro dp un gd cn cs a ccd cl outer A₀ base h₀ L m news s l vs nn rows Q E B F X N T hk hpos hl hR hlen hsz hd hu hret
  refine wpAny_back (R := fun t => .str (renS rows) t) hpos hret ?_
  refine wpAny_call ?_
  k_dflt cell_enter
  have hvl : vs.length ≤ 1000 := by have := hR.length; omega
  k_steps
  · cases hR with
    | nil => exact ⟨_, _, _, rfl, rfl, by assumption, by assumption⟩
    | cons _ _ => rename_i h9; cases h9
  refine wpAny_For ?_
  k_steps
  rename_i lv h7 hlt9 h8 F9 N9 tk9 hpos9
  have hne : ∀ p ∈ news, p.1 ≠ lv := fun p hp => Nat.ne_of_lt (hlt9 p hp)
  refine loop_list (J := fun i m nx => ∃ us c t, nx = (lv, listOf us.toArray c) :: news ∧ IntsAre us (foldS (Str.ofString "", []) (rows.take i)).2.reverse ∧ m (Str.ofString "s") = some (.str (foldS (Str.ofString "", []) (rows.take i)).1 t) ∧ m (Str.ofString "levels") = some (.ref lv)) rfl F9 N9 hpos9
    ⟨[], 0, _, rfl, .nil, rfl, rfl⟩ (fun i m nx ⟨us, c, t, e, _⟩ => e ▸ List.Mem.tail _ hl) (go_tuple hR) ?_ ?_
  · rintro i v m₁ nx h tk I o hv htk hI ⟨us, c, t, rfl, hus, hs, hlv⟩ F N
    have hi : i < rows.length := by have := hR.length; have := (List.getElem?_eq_some_iff.mp hv).1; omega
    obtain ⟨r, hr, Tt, nt, t1, t2, t3, rfl, hT⟩ := hR.get hv
    simp only [envLoc] at F N
    have F := fr_know2 F hs hlv
    have hr8 := hsz r (List.mem_of_getElem? hr)
    have hr1 := hr8.1
    have hr2 := hr8.2
    have hb := foldS_bound rows hlen hsz i (Nat.le_of_lt hi)
    have hnext : foldS (Str.ofString "", []) (rows.take (i + 1)) = stepS (foldS (Str.ofString "", []) (rows.take i)) r.1 (itemS r.2.1 r.2.2) := by
      rw [← foldS_snoc, List.take_succ_eq_append_getElem hi]
      congr 2
      rw [List.getElem?_eq_getElem hi] at hr
      exact congrArg (fun z => [z]) (Option.some.inj hr)
    have hIlv : I ≠ lv := fun q => hI _ (List.Mem.head _) q.symm
    have hIn : ∀ p ∈ news, p.1 ≠ I := fun p hp => hI p (List.Mem.tail _ hp)
    have hnIlv : ∀ p ∈ (lv, listOf us.toArray c) :: news, p.1 ≠ I := hI
    have hit := itemS_length hr1 hr2
    generalize foldS (Str.ofString "", []) (rows.take i) = st at hus hs hb hnext F
    obtain ⟨S, stk⟩ := st
    dsimp only at hus hs hb hnext F
    refine unpackN_ F N (News.isTup N (List.Mem.tail _ (List.Mem.tail _ hT))) rfl rfl rfl (fun h' F' N' => ?_)
    rcases stk with _ | ⟨x, stk⟩
    · have hus := IntsAre.nil_inv hus
      subst hus
      k_steps
      rename Fr _ _ _ _ => F9
      rename News _ _ _ _ => N9
      rw [hnext]
      exact turn_end hIlv hIn F9 N9 (.cons _ _ .nil) ⟨_, rfl⟩ rfl
    · rw [List.reverse_cons] at hus
      obtain ⟨us', tx, rfl, hus2⟩ := ints_last hus
      have hul : us'.length ≤ 900 := by have := hus2.length; rw [List.length_reverse] at this; simp only [List.length_cons] at hb; omega
      k_steps
      · rename Fr _ _ _ _ => F9
        rename News _ _ _ _ => N9
        have e : stepS (S, x :: stk) r.1 (itemS r.2.1 r.2.2) = (S ++ (sNext ++ itemS r.2.1 r.2.2), x :: stk) := if_pos (by omega)
        rw [hnext, e]
        exact turn_end hIlv hIn F9 N9 (by rw [List.reverse_cons]; exact hus2.append (.cons _ _ .nil)) ⟨_, rfl⟩ rfl
      · rename Fr _ _ _ _ => F9
        rename News _ _ _ _ => N9
        have e : stepS (S, x :: stk) r.1 (itemS r.2.1 r.2.2) = (S ++ (sDown ++ itemS r.2.1 r.2.2), r.1 :: x :: stk) := (if_neg (by omega)).trans (if_pos (by omega))
        rw [hnext, e]
        exact turn_end hIlv hIn F9 N9 (by rw [List.reverse_cons, List.reverse_cons]; exact (hus2.append (.cons _ _ .nil)).append (.cons _ _ .nil)) ⟨_, rfl⟩ rfl
      · rename Fr _ _ _ _ => F9
        rename News _ _ _ _ => N9
        have e : stepS (S, x :: stk) r.1 (itemS r.2.1 r.2.2) = popS r.1 (itemS r.2.1 r.2.2) S stk := (if_neg (by omega)).trans (if_neg (by omega))
        rw [e] at hnext
        rename 0 < _ => hpos9
        refine unhalt ?_
        have hbs : S.length + 12 * stk.length ≤ 10000 := by simp only [List.length_cons] at hb; omega
        have hbt : stk.length ≤ 20 := by simp only [List.length_cons] at hb; omega
        refine loop_while (n₀ := stk.length) (J := fun n m nx => ∃ S' stk' us c, n = stk'.length ∧ nx = (I, o) :: (lv, listOf us.toArray c) :: news ∧ IntsAre us stk'.reverse ∧ popS r.1 (itemS r.2.1 r.2.2) S' stk' = popS r.1 (itemS r.2.1 r.2.2) S stk ∧ S'.length + 12 * stk'.length ≤ 10000 ∧ stk'.length ≤ 20 ∧
          (∃ t, m (Str.ofString "s") = some (Value.str S' t)) ∧ m (Str.ofString "levels") = some (Value.ref lv) ∧ m (Str.ofString "level") = some (Value.int r.1 t1) ∧ ∃ t, m (Str.ofString "item") = some (Value.str (itemS r.2.1 r.2.2) t)) F9 N9 (by assumption) ⟨S, stk, us', _, rfl, rfl, hus2, rfl, hbs, hbt, ⟨_, rfl⟩, rfl, rfl, ⟨_, rfl⟩⟩ ?_
        · rintro n m₂ nx h2 tk2 htk2 ⟨S', stk', us2, c2, rfl, rfl, hus3, hpop, hb2, hb3, ⟨t2', hm1⟩, hm2, hm3, ⟨t8', hm4⟩⟩ F2 N2
          simp only [envLoc] at F2 N2
          have F2 := fr_knows [(Str.ofString "s", Value.str S' t2'), (Str.ofString "levels", Value.ref lv), (Str.ofString "level", Value.int r.1 t1), (Str.ofString "item", Value.str (itemS r.2.1 r.2.2) t8')] F2 (by
            intro p hp
            simp only [List.mem_cons, List.not_mem_nil, or_false] at hp
            rcases hp with rfl | rfl | rfl | rfl <;> assumption)
          simp only [kstB] at F2
          rcases stk' with _ | ⟨y, stk'⟩
          · have hus3 := IntsAre.nil_inv hus3
            subst hus3
            k_steps
            rename Fr _ _ _ _ => F9
            rename News _ _ _ _ => N9
            rw [hnext, ← hpop]
            exact turn_end hIlv hIn F9 N9 (.cons _ _ .nil) ⟨_, rfl⟩ rfl
          · rw [List.reverse_cons] at hus3
            obtain ⟨us3, ty, rfl, hus4⟩ := ints_last hus3
            have hul3 : us3.length ≤ 900 := by have := hus4.length; rw [List.length_reverse] at this; simp only [List.length_cons] at hb3; omega
            k_steps
            · dsimp only [WhilePost]
              k_steps
              rename Fr _ _ _ _ => F9
              rename News _ _ _ _ => N9
              have e : popS r.1 (itemS r.2.1 r.2.2) S' (y :: stk') = (S' ++ (sUpNext ++ itemS r.2.1 r.2.2), r.1 :: stk') := if_pos (by omega)
              rw [hnext, ← hpop, e]
              exact turn_end hIlv hIn F9 N9 (by rw [List.reverse_cons]; exact hus4.append (.cons _ _ .nil)) ⟨_, rfl⟩ rfl
            · dsimp only [WhilePost]
              k_steps
              rename Fr _ _ _ _ => F9
              rename News _ _ _ _ => N9
              have e : popS r.1 (itemS r.2.1 r.2.2) S' (y :: stk') = (S' ++ (sNext ++ itemS r.2.1 r.2.2), r.1 :: y :: stk') := (if_neg (by omega)).trans (if_pos (by omega))
              rw [hnext, ← hpop, e]
              exact turn_end hIlv hIn F9 N9 (by rw [List.reverse_cons, List.reverse_cons]; exact (hus4.append (.cons _ _ .nil)).append (.cons _ _ .nil)) ⟨_, rfl⟩ rfl
            · rename Fr _ _ _ _ => F9
              rename News _ _ _ _ => N9
              have e : popS r.1 (itemS r.2.1 r.2.2) S' (y :: stk') = popS r.1 (itemS r.2.1 r.2.2) (S' ++ sUp) stk' := (if_neg (by omega)).trans (if_neg (by omega))
              refine ⟨_, _, _, _, rfl, F9, N9, stk'.length, Nat.lt_succ_self _, S' ++ sUp, stk', us3, _, rfl, rfl, hus4, e.symm.trans hpop, ?_, ?_, ⟨_, rfl⟩, rfl, rfl, ⟨_, rfl⟩⟩
              · simp only [Str.length_append, sUp_length, List.length_cons] at hb2 ⊢
                omega
              · simp only [List.length_cons] at hb3; omega
  · rintro m₁ nx h tk htk ⟨us, c, t, rfl, hus, hs, hlv⟩ F N
    have hvr : vs.length = rows.length := hR.length
    have hne0 : rows ≠ [] := by
      rename vs.isEmpty = false => hve
      intro q
      rw [q] at hvr
      cases vs with
      | nil => cases hve
      | cons _ _ => cases hvr
    have hb := foldS_bound rows hlen hsz rows.length (Nat.le_refl _)
    have hren := renS_ne hne0
    rw [List.take_length] at hb
    rw [hvr, List.take_length] at hus hs
    generalize foldS (Str.ofString "", []) rows = st at hus hs hb hren
    obtain ⟨S, stk⟩ := st
    dsimp only at hus hs hb hren
    simp only [envLoc] at F N
    have F := fr_know2 F hs hlv
    dsimp only
    k_steps
    refine unhalt ?_
    have hbs : S.length + 12 * stk.length ≤ 10000 := by omega
    have hbt : stk.length ≤ 20 := by omega
    refine loop_while (n₀ := stk.length) (J := fun n m nx => ∃ S' stk' us c, n = stk'.length ∧ nx = (lv, listOf us.toArray c) :: news ∧ IntsAre us stk'.reverse ∧ closeS S' stk' = closeS S stk ∧ S'.length + 12 * stk'.length ≤ 10000 ∧ stk'.length ≤ 20 ∧
      (∃ t, m (Str.ofString "s") = some (Value.str S' t)) ∧ m (Str.ofString "levels") = some (Value.ref lv)) F N (by assumption) ⟨S, stk, us, _, rfl, rfl, hus, rfl, hbs, hbt, ⟨_, rfl⟩, rfl⟩ ?_
    rintro n m₂ nx h2 tk2 htk2 ⟨S', stk', us2, c2, rfl, rfl, hus3, hcl, hb2, hb3, ⟨t2', hm1⟩, hm2⟩ F2 N2
    simp only [envLoc] at F2 N2
    have F2 := fr_know2 F2 hm1 hm2
    rw [← hcl] at hren
    have hin : ∀ p ∈ news, p.1 ≠ lv := hne
    rcases stk' with _ | ⟨y, stk'⟩
    · have hus3 := IntsAre.nil_inv hus3
      subst hus3
      k_steps
      · rw [hren, show closeS S' [] = S' from rfl, if_neg (by omega)]
        exact ⟨_, _, _, rfl, rfl, by assumption, by first | assumption | exact fun p hp => by (rename News _ _ _ (_ :: news) => kN9; exact kN9 p (List.Mem.tail _ hp))⟩
      · rw [hren, show closeS S' [] = S' from rfl, if_pos (by omega)]
        exact ⟨_, _, _, rfl, rfl, by assumption, by first | assumption | exact fun p hp => by (rename News _ _ _ (_ :: news) => kN9; exact kN9 p (List.Mem.tail _ hp))⟩
    · rw [List.reverse_cons] at hus3
      obtain ⟨us3, ty, rfl, hus4⟩ := ints_last hus3
      have hl4 := hus4.length
      rw [List.length_reverse] at hl4
      have hul3 : us3.length ≤ 900 := by simp only [List.length_cons] at hb3; omega
      k_steps
      · rename Fr _ _ _ _ => F9
        rename News _ _ _ _ => N9
        rename (1 : Int) < _ => h19
        cases stk' with
        | nil =>
          cases us3 with
          | nil => simp at h19
          | cons _ _ => cases hl4
        | cons z stk' =>
          refine ⟨_, _, _, _, rfl, F9, N9, (z :: stk').length, Nat.lt_succ_self _, S' ++ sUp, z :: stk', us3, _, rfl, rfl, hus4, hcl, ?_, ?_, ⟨_, rfl⟩, rfl⟩
          · simp only [Str.length_append, sUp_length, List.length_cons] at hb2 ⊢
            omega
          · simp only [List.length_cons] at hb3 ⊢; omega
      all_goals (
        have e0 : stk' = [] := by
          rename ¬ (1 : Int) < _ => h19
          cases stk' with
          | nil => rfl
          | cons z r =>
            exfalso
            simp only [List.length_append, List.length_cons, List.length_nil] at h19 hl4
            omega
        subst e0)
      · rw [hren, show closeS S' [y] = S' from rfl, if_neg (by omega)]
        exact ⟨_, _, _, rfl, rfl, by assumption, by first | assumption | exact fun p hp => by (rename News _ _ _ (_ :: news) => kN9; exact kN9 p (List.Mem.tail _ hp))⟩
      · rw [hren, show closeS S' [y] = S' from rfl, if_pos (by omega)]
        exact ⟨_, _, _, rfl, rfl, by assumption, by first | assumption | exact fun p hp => by (rename News _ _ _ (_ :: news) => kN9; exact kN9 p (List.Mem.tail _ hp))⟩
end Mine2
open PySem PySem.W PyProof.Rows
set_option Elab.async false
set_option maxRecDepth 100000
namespace Mine

def namesL : List Str := [Str.ofString "a", Str.ofString "b&c", Str.ofString "d<e", Str.ofString "f>g", Str.ofString "h\"i", Str.ofString "j-k", Str.ofString "&lt;", Str.ofString "l m"]
def toldL : List Str := [Str.ofString "a", Str.ofString "b&amp;c", Str.ofString "d&lt;e", Str.ofString "f&gt;g", Str.ofString "h&quot;i", Str.ofString "j-k", Str.ofString "&amp;lt;", Str.ofString "l m"]
def nameAt (c : Int) : Nat := (Int.fmod (Int.fdiv c 6) 8).toNat
def numS (k : Nat) : Str := Str.ofString (toString (k : Int))
def levF (cs : List Int) (k : Nat) : Int := 1 + Int.fmod (cs.getD k 0) 6
def rowF (cs : List Int) (k : Nat) : RowT := (levF cs k, namesL.getD (nameAt (cs.getD k 0)) (Str.ofString ""), Str.ofString "t" ++ numS k)
def itemF (cs : List Int) (k : Nat) : Str := Str.ofString "<a href=\"#" ++ toldL.getD (nameAt (cs.getD k 0)) (Str.ofString "") ++ Str.ofString "\">t" ++ numS k ++ Str.ofString "</a>"

theorem nameAt_lt (c : Int) : nameAt c < 8 := by
  unfold nameAt
  have h1 := Int.fmod_nonneg_of_pos (Int.fdiv c 6) (b := 8) (by decide)
  have h2 := Int.fmod_lt_of_pos (Int.fdiv c 6) (b := 8) (by decide)
  omega
end Mine
namespace Mine
theorem strs_get {vs : List Value} {ys : List Str} (h : StrsAre vs ys) {i : Nat} (hi : i < ys.length) : ∃ t, vs[i]? = some (.str (ys.getD i (Str.ofString "")) t) := by
  induction h generalizing i with
  | nil => cases hi
  | cons y t _ ih =>
    cases i with
    | zero => exact ⟨t, rfl⟩
    | succ i => exact ih (Nat.lt_of_succ_lt_succ hi)
theorem strs_len {vs : List Value} {ys : List Str} (h : StrsAre vs ys) : vs.length = ys.length := by
  induction h with
  | nil => rfl
  | cons _ _ _ ih => rw [List.length_cons, List.length_cons, ih]
theorem strs_snoc {vs : List Value} {ys : List Str} (h : StrsAre vs ys) (y : Str) (t : Tok) : StrsAre (vs ++ [.str y t]) (ys ++ [y]) := by
  induction h with
  | nil => exact .cons y t .nil
  | cons z u _ ih => exact .cons z u ih
section
variable {prog : Program} {w : World} {A : Around} {E : Value → Shared → Prop} {s : Shared} {h₀ : Heap} {L D : Addr} {m : Str → Option Value} {news news' : List (Addr × Obj)} {vs : List Value} {v : Value} {n : Nat}
theorem str_item {value slice : PySem.Expr} {k : Int} {u : Tok} {ys : List Str} {Q : Value → Shared → Prop} (N : News h₀ L s.heap news) (hm : (D, listOf vs.toArray n) ∈ news) (hS : StrsAre vs ys) (h0 : 0 ≤ k) (h1 : k < ys.length) (hl : ys.length ≤ 900) {b : Nat} (hb : ∀ y ∈ ys, y.length ≤ b)
    (h : ∀ t', (ys.getD k.toNat (Str.ofString "")).length ≤ b → Q (.str (ys.getD k.toNat (Str.ofString "")) t') s)
    (hs : subscripted slice false (.ref D) (.int k u) = operate [.ref D, .int k u] (getItem (.ref D) (.int k u)) := by with_unfolding_all rfl) :
    wpAny (model prog w) A (subscriptTail value slice (.ref D) (.int k u)) Q E s := by
  have hk : k.toNat < ys.length := by omega
  obtain ⟨t, ht⟩ := strs_get hS hk
  refine lt_item N hm h0 (by omega) ht (h t (hb _ ?_)) hs
  rw [List.getD_eq_getElem?_getD, List.getElem?_eq_getElem hk]
  exact List.getElem_mem hk
end
theorem names_len : ∀ y ∈ namesL, y.length ≤ 8 := by decide +kernel
theorem told_len : ∀ y ∈ toldL, y.length ≤ 8 := by decide +kernel
/-- a def without arguments that hands back a new list of written texts -/
def ListOk (prog : Program) (w : World) (K : Frag) (p : Program) (loose : List Str) (mean : ExcName → Option Value) (mg mb : Str → Option Value) (f : Addr) (ys : List Str) : Prop :=
  ∀ (dp un : Nat) (gd : Option (List Code)) (cn : Str) (cs : Scope) (a : Addr) (ccd : Value) (cl : List (Str × Addr)) (outer : List Env) (A₀ : Around) (base h₀ : Heap) (L : Addr) (m : Str → Option Value) (news : List (Addr × Obj)) (s : Shared) (Q E : Value → Shared → Prop),
    Below A₀ base outer h₀ → Fr h₀ L s.heap m → K.In h₀ → News h₀ L s.heap news → Top p loose mean mg mb h₀ → cs.kind = .function → 0 < s.toks →
    dp + 1 < recursionLimit → un + 8 < cLine →
    (∀ D vs h' tk', 0 < tk' → Fr h₀ L h' m → News h₀ L h' ((D, listOf vs.toArray 0) :: news) → (∀ p ∈ news, p.1 < D) → StrsAre vs ys → Q (.ref D) { s with heap := h', toks := tk' }) →
    wpAny (model prog w) (ktrTop dp un gd cn cs L a ccd cl outer) (call (.ref f) []) Q E s
theorem list_use {prog : Program} {w : World} {K : Frag} {p : Program} {loose : List Str} {mean : ExcName → Option Value} {mg mb : Str → Option Value} {f : Addr} {ys : List Str} {dp un : Nat} {gd : Option (List Code)} {cn : Str} {cs : Scope} {a : Addr} {ccd : Value} {cl : List (Str × Addr)} {outer : List Env} {A₀ : Around} {base h₀ : Heap} {L : Addr} {m : Str → Option Value} {news : List (Addr × Obj)} {s : Shared} {Q E : Value → Shared → Prop}
    (C : ListOk prog w K p loose mean mg mb f ys) (B : Below A₀ base outer h₀) (F : Fr h₀ L s.heap m) (X : K.In h₀) (N : News h₀ L s.heap news) (T : Top p loose mean mg mb h₀) (hk : cs.kind = .function) (hpos : 0 < s.toks) (hd : dp + 1 < recursionLimit) (hu : un + 8 < cLine)
    (ret : ∀ D vs h' tk', 0 < tk' → Fr h₀ L h' m → News h₀ L h' ((D, listOf vs.toArray 0) :: news) → (∀ p ∈ news, p.1 < D) → StrsAre vs ys → Q (.ref D) { s with heap := h', toks := tk' }) :
    wpAny (model prog w) (ktrTop dp un gd cn cs L a ccd cl outer) (call (.ref f) []) Q E s :=
  C _ _ _ _ _ _ _ _ _ _ _ _ _ _ _ _ _ _ B F X N T hk hpos hd hu ret
end Mine
namespace Mine
theorem range_snoc {α : Type} (f : Nat → α) (i : Nat) : (List.range (i + 1)).map f = (List.range i).map f ++ [f i] := by rw [List.range_succ, List.map_append]; rfl
abbrev tupOf (vs : List Value) : Obj := { cls := .type "tuple", data := .seq vs.toArray }
/-- what the law's first loop keeps -/
def J1 (cs : List Int) (ws : List Value) (T It Lv C : Addr) (i : Nat) (m : Str → Option Value) (nx : List (Addr × Obj)) : Prop :=
  ∃ vt ct vi ci vl cl tups, nx = (T, listOf vt.toArray ct) :: (It, listOf vi.toArray ci) :: (Lv, listOf vl.toArray cl) :: (C, listOf ws.toArray 0) :: tups ∧ RowsIn tups vt ((List.range i).map (rowF cs)) ∧ StrsAre vi ((List.range i).map (itemF cs)) ∧ IntsAre vl ((List.range i).map (levF cs)) ∧ OwnOff tups [T, It, Lv, C] ∧
      m (Str.ofString "toc") = some (.ref T) ∧ m (Str.ofString "items") = some (.ref It) ∧ m (Str.ofString "levels") = some (.ref Lv) ∧ m (Str.ofString "cells") = some (.ref C)
theorem j1_turn {h₀ : Heap} {L I : Addr} {o : Obj} {s₁ : Shared} {Q : Flow → Shared → Prop} {h' : Heap} {tk : Nat} {m' : Str → Option Value} {cs : List Int} {ws : List Value} {T It Lv C : Addr} {i : Nat} {vt vi vl : List Value} {ct ci cl : Nat} {tups : List (Addr × Obj)} {D0 D1 D2 : Addr} {o0 o2 : Obj} {t1 t2 t3 t4 t5 : Tok}
    (hI : ∀ p ∈ tups, p.1 ≠ I) (hIT : @Ne Nat I T) (hIIt : @Ne Nat I It) (hILv : @Ne Nat I Lv) (hIC : @Ne Nat I C)
    (hR : RowsIn tups vt ((List.range i).map (rowF cs))) (hS : StrsAre vi ((List.range i).map (itemF cs))) (hV : IntsAre vl ((List.range i).map (levF cs))) (hoff : OwnOff tups [T, It, Lv, C])
    (F : Fr h₀ L h' m')
    (N : News h₀ L h' ((D2, o2) :: (D1, tupOf [Value.int (levF cs i) t1, Value.str (namesL.getD (nameAt (cs.getD i 0)) (Str.ofString "")) t2, Value.str (Str.ofString "t" ++ numS i) t3]) :: (D0, o0) :: (I, o) ::
      (T, listOf (vt ++ [Value.ref D1]).toArray ct) :: (It, listOf (vi ++ [Value.str (itemF cs i) t4]).toArray ci) :: (Lv, listOf (vl ++ [Value.int (levF cs i) t5]).toArray cl) :: (C, listOf ws.toArray 0) :: tups))
    (hDI : @Ne Nat D1 I) (hDT : @Ne Nat D1 T) (hDIt : @Ne Nat D1 It) (hDLv : @Ne Nat D1 Lv) (hDC : @Ne Nat D1 C)
    (hm1 : m' (Str.ofString "toc") = some (.ref T)) (hm2 : m' (Str.ofString "items") = some (.ref It)) (hm3 : m' (Str.ofString "levels") = some (.ref Lv)) (hm4 : m' (Str.ofString "cells") = some (.ref C)) :
    TurnPost h₀ L (J1 cs ws T It Lv C (i + 1)) I o s₁ Q .next { s₁ with heap := h', toks := tk } := by
  refine ⟨h', tk, m', _, rfl, F, ?_, ?_, vt ++ [Value.ref D1], ct, vi ++ [Value.str (itemF cs i) t4], ci, vl ++ [Value.int (levF cs i) t5], cl, (D1, tupOf [Value.int (levF cs i) t1, Value.str (namesL.getD (nameAt (cs.getD i 0)) (Str.ofString "")) t2, Value.str (Str.ofString "t" ++ numS i) t3]) :: tups, rfl, ?_, ?_, ?_, ?_, hm1, hm2, hm3, hm4⟩
  · intro p hp
    refine N p ?_
    simp only [List.mem_cons] at hp ⊢
    rcases hp with h | h | h | h | h | h | h <;> simp only [h, true_or, or_true]
  · intro p hp
    simp only [List.mem_cons] at hp
    rcases hp with h | h | h | h | h | h
    · rw [h]; exact hIT.symm
    · rw [h]; exact hIIt.symm
    · rw [h]; exact hILv.symm
    · rw [h]; exact hIC.symm
    · rw [h]; exact hDI
    · exact hI p h
  · rw [range_snoc]
    exact (hR.mono fun p hp => .tail _ hp).snoc ⟨D1, _, t1, t2, t3, rfl, .head _⟩
  · rw [range_snoc]; exact strs_snoc hS _ _
  · rw [range_snoc]; exact hV.append (.cons _ _ .nil)
  · intro p hp b hb
    rcases List.mem_cons.mp hp with rfl | hp
    · simp only [List.mem_cons, List.not_mem_nil, or_false] at hb
      rcases hb with rfl | rfl | rfl | rfl
      · exact hDT
      · exact hDIt
      · exact hDLv
      · exact hDC
    · exact hoff p hp b hb
end Mine
namespace Mine
/-- the made empty lists: their addresses and what they hold -/
def cellsOf (bl : List Addr) (bs : List (List Value × Nat)) : List (Addr × Obj) := List.zipWith (fun a x => (a, listOf x.1.toArray x.2)) bl bs
theorem cellsOf_snoc (bl : List Addr) (bs : List (List Value × Nat)) (h : bl.length = bs.length) (a : Addr) (x : List Value × Nat) : cellsOf (bl ++ [a]) (bs ++ [x]) = cellsOf bl bs ++ [(a, listOf x.1.toArray x.2)] := by
  unfold cellsOf
  rw [List.zipWith_append h]; rfl
theorem cellsOf_fst {bl : List Addr} {bs : List (List Value × Nat)} {p : Addr × Obj} (h : p ∈ cellsOf bl bs) : p.1 ∈ bl := by
  induction bl generalizing bs with
  | nil => cases h
  | cons a bl ih =>
    cases bs with
    | nil => cases h
    | cons x bs =>
      rcases List.mem_cons.mp h with rfl | h
      · exact .head _
      · exact .tail _ (ih h)
theorem upd_cells : ∀ {bl : List Addr} {bs : List (List Value × Nat)} {base : List (Addr × Obj)} {j : Nat} {a : Addr} {y x : List Value × Nat} (_ : bl[j]? = some a) (_ : bs[j]? = some y) (_ : bl.Nodup) (_ : ∀ p ∈ base, p.1 ∉ bl),
    Upd a (listOf y.1.toArray y.2) (listOf x.1.toArray x.2) (cellsOf bl bs ++ base) (cellsOf bl (bs.set j x) ++ base)
  | b :: bl, z :: bs, base, 0, a, y, x, ha, hy, hn, hb => by
    have e1 : b = a := Option.some.inj ha
    have e2 : z = y := Option.some.inj hy
    subst e1
    subst e2
    show Upd b _ _ ((b, _) :: (cellsOf bl bs ++ base)) ((b, _) :: (cellsOf bl bs ++ base))
    refine Upd.head fun p hp => ?_
    rcases List.mem_append.mp hp with hp | hp
    · exact fun q => (List.nodup_cons.mp hn).1 (q ▸ cellsOf_fst hp)
    · exact fun q => hb p hp (q ▸ .head _)
  | b :: bl, z :: bs, base, j + 1, a, y, x, ha, hy, hn, hb => by
    show Upd a _ _ ((b, _) :: (cellsOf bl bs ++ base)) ((b, _) :: (cellsOf bl (bs.set j x) ++ base))
    refine Upd.tail ?_ (upd_cells (bl := bl) (bs := bs) ha hy (List.nodup_cons.mp hn).2 fun p hp q => hb p hp (.tail _ q))
    exact fun q => (List.nodup_cons.mp hn).1 (by rw [show b = a from q]; exact List.mem_of_getElem? (l := bl) ha)
theorem mem_cells : ∀ {bl : List Addr} {bs : List (List Value × Nat)} {j : Nat} {a : Addr} {y : List Value × Nat} (_ : bl[j]? = some a) (_ : bs[j]? = some y), (a, listOf y.1.toArray y.2) ∈ cellsOf bl bs
  | b :: bl, z :: bs, 0, a, y, ha, hy => by
    cases ha
    cases hy
    exact .head _
  | b :: bl, z :: bs, j + 1, a, y, ha, hy => .tail _ (mem_cells (bl := bl) (bs := bs) ha hy)

section
open LCg
variable {prog : Program} {w : World} {A : Around} {s : Shared} {h₀ : Heap} {L : Addr} {m : Str → Option Value} {env : Env}
/-- a comprehension of empty lists -/
theorem rest_empties {x : Str} {scope : Scope} {cl : List (Str × Addr)} {pos : Pos} {P : Nat → Value → Prop} {Fin : List Value → List (Addr × Obj) → Prop} {base : List (Addr × Obj)} {n : Nat}
    (fin : ∀ bl : List Addr, bl.length = n → bl.Nodup → (∀ p ∈ base, p.1 ∉ bl) → Fin (bl.map .ref) (cellsOf bl (List.replicate n ([], 0)) ++ base)) :
    ∀ (k i : Nat) (bl : List Addr), i + k = n → bl.length = i → bl.Nodup → (∀ p ∈ base, p.1 ∉ bl) → CompRest prog w A h₀ L m env (.List [] pos) x scope cl s (fun _ => True) P Fin k i (bl.map .ref) (cellsOf bl (List.replicate i ([], 0)) ++ base)
  | 0, i, bl, hk, hl, hn, hb => CompRest.zero (by
      have e : i = n := by omega
      subst e
      exact fin bl hl hn hb)
  | k + 1, i, bl, hk, hl, hn, hb => by
    refine CompRest.succ fun v I oI C oC D m₂ h tk E' _ _ _ F N off hne => ?_
    refine List_ ?_
    refine wpAny_mono (Q := fun vs s' => vs = [] ∧ s' = { s with heap := h, toks := tk }) (E := E') ?_ ?_ (fun _ _ e => e)
    · exact fun Γ p hΓ => ⟨rfl, rfl⟩
    · rintro vs s' ⟨rfl, rfl⟩
      refine newList_K F N fun q h' F' N' lt => ?_
      refine CompEnd.intro (s₁ := { s with heap := h, toks := tk }) F' N' (cellsOf (bl ++ [q]) (List.replicate (i + 1) ([], 0)) ++ base) ?_ ?_ trivial ?_
      · intro p hp
        rw [List.replicate_succ', cellsOf_snoc _ _ (by rw [List.length_replicate]; exact hl)] at hp
        simp only [List.mem_cons, List.mem_append, List.not_mem_nil, or_false] at hp ⊢
        rcases hp with h1 | h1 | h1 | (h1 | h1) | h1
        · exact .inr (.inl h1)
        · exact .inr (.inr (.inl h1))
        · exact .inr (.inr (.inr (.inl h1)))
        · exact .inr (.inr (.inr (.inr (.inl h1))))
        · exact .inl h1
        · exact .inr (.inr (.inr (.inr (.inr h1))))
      · refine Off3.of fun p hp => ?_
        rw [List.replicate_succ', cellsOf_snoc _ _ (by rw [List.length_replicate]; exact hl)] at hp
        simp only [List.mem_append, List.mem_cons, List.not_mem_nil, or_false] at hp
        rcases hp with (h1 | h1) | h1
        · exact off.mem p (List.mem_append.mpr (.inl h1))
        · rw [h1]
          exact ⟨Nat.ne_of_gt (lt _ (.head _)), Nat.ne_of_gt (lt _ (.tail _ (.head _))), Nat.ne_of_gt (lt _ (.tail _ (.tail _ (.head _))))⟩
        · exact off.mem p (List.mem_append.mpr (.inr h1))
      · have hq : q ∉ bl := fun hq => by
          obtain ⟨j, hj, e⟩ := List.getElem_of_mem hq
          have hm := mem_cells (bs := List.replicate i ([], 0)) (y := ([], 0)) (List.getElem?_eq_getElem hj) (by rw [List.getElem?_replicate, if_pos (by omega)])
          have := lt _ (.tail _ (.tail _ (.tail _ (List.mem_append.mpr (.inl hm)))))
          rw [e] at this
          exact Nat.lt_irrefl _ this
        have := rest_empties (x := x) (scope := scope) (cl := cl) (pos := pos) (P := P) fin k (i + 1) (bl ++ [q]) (by omega) (by rw [List.length_append, List.length_singleton, hl]) (List.nodup_append.mpr ⟨hn, List.nodup_cons.mpr ⟨by simp, List.nodup_nil⟩, fun a ha b hb e => by
          rw [List.mem_singleton] at hb; subst hb; subst e; exact hq ha⟩) (fun p hp hm => by
          rcases List.mem_append.mp hm with hm | hm
          · exact hb p hp hm
          · rw [List.mem_singleton] at hm
            have := lt p (.tail _ (.tail _ (.tail _ (List.mem_append.mpr (.inr hp)))))
            rw [hm] at this
            exact Nat.lt_irrefl _ this)
        rw [List.map_append] at this
        exact this
end
end Mine
namespace Mine
/-- the place that the law's walk back finds -/
def searchF (lev : Nat → Int) (v : Int) : Nat → Nat
  | 0 => 0
  | p + 1 => if lev p ≥ v then searchF lev v p else p + 1
def parF (lev : Nat → Int) (k : Nat) : Nat := searchF lev (lev k) k
theorem searchF_le (lev : Nat → Int) (v : Int) : ∀ p, searchF lev v p ≤ p
  | 0 => Nat.le_refl _
  | p + 1 => by
    unfold searchF
    split
    · exact Nat.le_succ_of_le (searchF_le lev v p)
    · exact Nat.le_refl _
def belF (lev : Nat → Int) (i p : Nat) : List Nat := (List.range i).filter (fun k => parF lev k = p)
def asInts (ks : List Nat) : List Int := ks.map fun k => ((k : Nat) : Int)
theorem fr_but1 {h₀ h : Heap} {L : Addr} {m m₀ : Str → Option Value} {x : Str} {v : Value} (F : Fr h₀ L h m) (e : m x = some v) (e' : ∀ z, z ≠ x → m z = m₀ z) : Fr h₀ L h (fun y => if y = x then some v else m₀ y) := by
  have : (fun y => if y = x then some v else m₀ y) = m := by
    funext y
    by_cases h : y = x
    · rw [if_pos h, h, e]
    · rw [if_neg h, e' y h]
  rw [this]; exact F
/-- what the law's second loop keeps -/
def J2 (lev : Nat → Int) (bl : List Addr) (Bl : Addr) (cB : Nat) (vt vi vl ws : List Value) (ct ci cl : Nat) (tups : List (Addr × Obj)) (T It Lv C : Addr) (i : Nat) (m : Str → Option Value) (nx : List (Addr × Obj)) : Prop :=
  ∃ bs : List (List Value × Nat), bs.length = bl.length ∧ nx = (Bl, listOf (bl.map Value.ref).toArray cB) :: (T, listOf vt.toArray ct) :: (It, listOf vi.toArray ci) :: (Lv, listOf vl.toArray cl) :: (C, listOf ws.toArray 0) :: (cellsOf bl bs ++ tups) ∧ (∀ p y, bs[p]? = some y → IntsAre y.1 (asInts (belF lev i p))) ∧
      m (Str.ofString "toc") = some (.ref T) ∧ m (Str.ofString "items") = some (.ref It) ∧ m (Str.ofString "levels") = some (.ref Lv) ∧ m (Str.ofString "below") = some (.ref Bl)
theorem getD_map_range {f : Nat → Int} {n j : Nat} (h : j < n) : ((List.range n).map f).getD j 0 = f j := by
  rw [List.getD_eq_getElem?_getD, List.getElem?_map, List.getElem?_range h]; rfl
end Mine
namespace Mine
section
variable {prog : Program} {w : World} {A : Around} {E : Value → Shared → Prop} {s : Shared} {env : Env} {h₀ : Heap} {body : List Stmt} {Q : Flow → Shared → Prop}
/-- a while that turns one name's natural number down -/
theorem loop_down {x : Str} {test : PySem.Expr} {orelse : List Stmt} {pos : Pos} {m₀ : Str → Option Value} {news : List (Addr × Obj)} {n₀ : Nat} {t₀ : Tok} (Inv : Nat → Prop)
    (F : Fr h₀ env.locals s.heap m₀) (N : News h₀ env.locals s.heap news) (ht : 0 < s.toks) (hx : m₀ x = some (.int (n₀ : Int) t₀)) (hi : Inv n₀)
    (turn : ∀ n t h tk, 0 < tk → Inv n → Fr h₀ env.locals h (fun y => if y = x then some (.int (n : Int) t) else m₀ y) → News h₀ env.locals h news →
      wpAny (model prog w) A (isTrue test env (eval test env)) (fun b s₂ =>
        if b = true then wpAny (model prog w) A (execs body env) (WhilePost h₀ env.locals (fun m' nx' => nx' = news ∧ ∃ n' t, n' < n ∧ Inv n' ∧ m' x = some (.int (n' : Int) t) ∧ ∀ z, z ≠ x → m' z = m₀ z) { s with heap := h, toks := tk } Q) (fun _ _ => False) s₂
        else wpAny (model prog w) A (execs orelse env) Q (fun _ _ => False) s₂) (fun _ _ => False) { s with heap := h, toks := tk }) :
    wpAny (model prog w) A (exec (.While test body orelse pos) env) Q E s := by
  refine loop_while (n₀ := n₀) (J := fun n m nx => nx = news ∧ Inv n ∧ (∃ t, m x = some (.int (n : Int) t)) ∧ ∀ z, z ≠ x → m z = m₀ z) F N ht ⟨rfl, hi, ⟨_, hx⟩, fun _ _ => rfl⟩ ?_
  rintro n m₁ nx h tk htk ⟨rfl, hi', ⟨t, hx'⟩, hz⟩ F₁ N₁
  refine wpAny_mono (turn n t h tk htk hi' (fr_but1 F₁ hx' hz) N₁) (fun b s₂ h₂ => ?_) fun _ _ e => e
  cases b with
  | false => exact h₂
  | true =>
    simp only [if_true] at h₂ ⊢
    refine wpAny_mono h₂ (fun f s₃ h₃ => ?_) fun _ _ e => e
    cases f with
    | ret v => exact h₃
    | brk => exact h₃
    | next =>
      obtain ⟨h', tk', m', nx', e, F', N', rfl, n', t', hlt, hi'', hx'', hz''⟩ := h₃
      exact ⟨h', tk', m', _, e, F', N', n', hlt, rfl, hi'', ⟨t', hx''⟩, hz''⟩
    | cont =>
      obtain ⟨h', tk', m', nx', e, F', N', rfl, n', t', hlt, hi'', hx'', hz''⟩ := h₃
      exact ⟨h', tk', m', _, e, F', N', n', hlt, rfl, hi'', ⟨t', hx''⟩, hz''⟩
end
end Mine
namespace Mine
theorem search_down {lev : Nat → Int} {n i p : Nat} (hp : (0 : Int) < (p : Int)) (hpi : p ≤ i) (hi : i < n) (h : ((List.range n).map lev).getD ((i : Int)).toNat 0 ≤ ((List.range n).map lev).getD ((p : Int) - 1).toNat 0) :
    searchF lev (lev i) p = searchF lev (lev i) (p - 1) := by
  obtain ⟨q, rfl⟩ : ∃ q, p = q + 1 := ⟨p - 1, by omega⟩
  have e1 : ((i : Int)).toNat = i := by omega
  have e2 : (((q + 1 : Nat) : Int) - 1).toNat = q := by omega
  rw [e1, e2, getD_map_range hi, getD_map_range (by omega)] at h
  show (if lev q ≥ lev i then searchF lev (lev i) q else q + 1) = searchF lev (lev i) q
  rw [if_pos h]
theorem search_stop {lev : Nat → Int} {n i p : Nat} (hp : (0 : Int) < (p : Int)) (hpi : p ≤ i) (hi : i < n) (h : ¬ ((List.range n).map lev).getD ((i : Int)).toNat 0 ≤ ((List.range n).map lev).getD ((p : Int) - 1).toNat 0) :
    searchF lev (lev i) p = p := by
  obtain ⟨q, rfl⟩ : ∃ q, p = q + 1 := ⟨p - 1, by omega⟩
  have e1 : ((i : Int)).toNat = i := by omega
  have e2 : (((q + 1 : Nat) : Int) - 1).toNat = q := by omega
  rw [e1, e2, getD_map_range hi, getD_map_range (by omega)] at h
  show (if lev q ≥ lev i then searchF lev (lev i) q else q + 1) = q + 1
  rw [if_neg h]
theorem search_zero {lev : Nat → Int} {v : Int} {p : Nat} (hp : ¬ (0 : Int) < (p : Int)) : searchF lev v p = p := by
  have : p = 0 := by omega
  subst this; rfl
theorem belF_next (lev : Nat → Int) (i p : Nat) : belF lev (i + 1) p = if parF lev i = p then belF lev i p ++ [i] else belF lev i p := by
  unfold belF
  rw [List.range_succ, List.filter_append]
  by_cases h : parF lev i = p
  · simp [h]
  · simp [h]
theorem j2_turn {h₀ : Heap} {L I : Addr} {o : Obj} {s₁ : Shared} {Q : Flow → Shared → Prop} {h' : Heap} {tk : Nat} {m' : Str → Option Value} {lev : Nat → Int} {bl : List Addr} {Bl : Addr} {cB : Nat} {vt vi vl ws : List Value} {ct ci cl : Nat} {tups : List (Addr × Obj)} {T It Lv C : Addr} {i p : Nat} {bs : List (List Value × Nat)} {y : List Value × Nat} {t : Tok}
    (hI : ∀ p ∈ (Bl, listOf (bl.map Value.ref).toArray cB) :: (T, listOf vt.toArray ct) :: (It, listOf vi.toArray ci) :: (Lv, listOf vl.toArray cl) :: (C, listOf ws.toArray 0) :: (cellsOf bl bs ++ tups), p.1 ≠ I)
    (hl : bs.length = bl.length) (hbv : ∀ p y, bs[p]? = some y → IntsAre y.1 (asInts (belF lev i p))) (hy : bs[p]? = some y) (hpar : parF lev i = p)
    (F : Fr h₀ L h' m') (N : News h₀ L h' ((I, o) :: (Bl, listOf (bl.map Value.ref).toArray cB) :: (T, listOf vt.toArray ct) :: (It, listOf vi.toArray ci) :: (Lv, listOf vl.toArray cl) :: (C, listOf ws.toArray 0) :: (cellsOf bl (bs.set p (y.1 ++ [Value.int (i : Int) t], y.2 + 1)) ++ tups)))
    (hm1 : m' (Str.ofString "toc") = some (.ref T)) (hm2 : m' (Str.ofString "items") = some (.ref It)) (hm3 : m' (Str.ofString "levels") = some (.ref Lv)) (hm4 : m' (Str.ofString "below") = some (.ref Bl)) :
    TurnPost h₀ L (J2 lev bl Bl cB vt vi vl ws ct ci cl tups T It Lv C (i + 1)) I o s₁ Q .next { s₁ with heap := h', toks := tk } := by
  have hblI : ∀ a ∈ bl, a ≠ I := by
    intro a ha
    obtain ⟨j, hj⟩ := List.mem_iff_getElem?.mp ha
    have hj2 : j < bs.length := by rw [hl]; exact (List.getElem?_eq_some_iff.mp hj).1
    exact hI _ (.tail _ (.tail _ (.tail _ (.tail _ (.tail _ (List.mem_append.mpr (.inl (mem_cells hj (List.getElem?_eq_getElem hj2)))))))))
  refine ⟨h', tk, m', _, rfl, F, N, ?_, bs.set p (y.1 ++ [Value.int (i : Int) t], y.2 + 1), by rw [List.length_set, hl], rfl, ?_, hm1, hm2, hm3, hm4⟩
  · intro q hq
    simp only [List.mem_cons, List.mem_append] at hq
    rcases hq with h | h | h | h | h | h | h
    · rw [h]; exact hI _ (.head _)
    · rw [h]; exact hI _ (.tail _ (.head _))
    · rw [h]; exact hI _ (.tail _ (.tail _ (.head _)))
    · rw [h]; exact hI _ (.tail _ (.tail _ (.tail _ (.head _))))
    · rw [h]; exact hI _ (.tail _ (.tail _ (.tail _ (.tail _ (.head _)))))
    · exact hblI _ (cellsOf_fst h)
    · exact hI _ (.tail _ (.tail _ (.tail _ (.tail _ (.tail _ (List.mem_append.mpr (.inr h)))))))
  · intro q z hz
    rw [List.getElem?_set] at hz
    rw [belF_next]
    by_cases h : p = q
    · subst h
      rw [if_pos rfl] at hz
      split at hz
      · cases hz
        rw [if_pos hpar]
        unfold asInts
        rw [List.map_append]
        exact (hbv _ _ hy).append (.cons _ _ .nil)
      · cases hz
    · rw [if_neg h] at hz
      rw [if_neg (by rw [hpar]; exact h)]
      exact hbv _ _ hz
end Mine
namespace Mine
theorem off1_mem {D : Addr} {l : List (Addr × Obj)} (h : LCg.Off1 D l) : ∀ p ∈ l, p.1 ≠ D := by
  induction l with
  | nil => intro p hp; cases hp
  | cons q r ih =>
    intro p hp
    have h' : (@Ne Nat q.1 D) ∧ LCg.Off1 D r := h
    rcases List.mem_cons.mp hp with e | hp
    · rw [e]; exact h'.1
    · exact ih h'.2 p hp
theorem belF_length (lev : Nat → Int) (i p : Nat) : (asInts (belF lev i p)).length ≤ i := by
  have h := List.length_filter_le (fun k => decide (parF lev k = p)) (List.range i)
  rw [List.length_range] at h
  show ((belF lev i p).map _).length ≤ i
  rw [List.length_map]
  exact h
end Mine
open PySem PySem.W PyProof.Rows
set_option Elab.async false
set_option maxRecDepth 100000
namespace Mine
def catS : List Str → Str
  | [] => Str.ofString ""
  | x :: r => x ++ catS r
theorem str_ext {x y : Str} (h : x.cps.toList = y.cps.toList) : x = y := by
  cases x; cases y; exact congrArg Str.mk (Array.toList_inj.mp h)
theorem list_app (x y : Str) : (x ++ y).cps.toList = x.cps.toList ++ y.cps.toList := by rw [Str.cps_append, Array.toList_append]
theorem list_nil : (Str.ofString "").cps.toList = [] := by decide +kernel
theorem join_cat : ∀ ys : List Str, Txt.join (Str.ofString "") ys = catS ys := by
  intro ys
  show Builtin.Str.glued (Str.ofString "") ys = catS ys
  rw [StrLaws.glued_eq_join]
  induction ys with
  | nil => rfl
  | cons x r ih =>
    cases r with
    | nil =>
      apply str_ext
      show x.cps.toList = (x ++ Str.ofString "").cps.toList
      rw [list_app, list_nil, List.append_nil]
    | cons y r =>
      apply str_ext
      show (x ++ Str.ofString "" ++ Str.join (Str.ofString "") (y :: r)).cps.toList = (x ++ catS (y :: r)).cps.toList
      rw [ih, list_app, list_app, list_app, list_nil, List.append_nil]
theorem catS_length : ∀ ys : List Str, (catS ys).length = (ys.map (·.length)).sum
  | [] => by decide +kernel
  | x :: r => by
    show (x ++ catS r).length = _
    rw [Str.length_append, catS_length r]
    rfl

def sEnd : Str := Str.ofString "</li>\n"
def sUlEnd : Str := Str.ofString "</ul>\n"
def sNl : Str := Str.ofString "\n"
def innS (x : Str) : Str := if x.length = 0 then Str.ofString "" else sNl ++ x
def rowS (items : List Str) (LL : Nat → Str) (k : Nat) : Str := sLi ++ items.getD k (Str.ofString "") ++ innS (LL (k + 1)) ++ sEnd

def BelIn (news : List (Addr × Obj)) (Bl : Addr) (n : Nat) (bel : Nat → List Nat) : Prop :=
  ∃ (bl : List Addr) (c : Nat), bl.length = n + 1 ∧ (Bl, listOf (bl.map Value.ref).toArray c) ∈ news ∧ ∀ p, p ≤ n → ∃ a us c', bl[p]? = some a ∧ (a, listOf us.toArray c') ∈ news ∧ IntsAre us (asInts (bel p))
theorem BelIn.mono {news news' : List (Addr × Obj)} {Bl : Addr} {n : Nat} {bel : Nat → List Nat} (h : BelIn news Bl n bel) (hs : ∀ p ∈ news, p ∈ news') : BelIn news' Bl n bel := by
  obtain ⟨bl, c, h1, h2, h3⟩ := h
  refine ⟨bl, c, h1, hs _ h2, fun p hp => ?_⟩
  obtain ⟨a, us, c', e1, e2, e3⟩ := h3 p hp
  exact ⟨a, us, c', e1, hs _ e2, e3⟩

structure LLFacts (n : Nat) (bel : Nat → List Nat) (items : List Str) (LL : Nat → Str) : Prop where
  le : n ≤ 20
  mem : ∀ p, p ≤ n → ∀ k ∈ bel p, p ≤ k ∧ k < n
  len : items.length = n
  short : ∀ y ∈ items, y.length ≤ 100
  small : ∀ p, (LL p).length ≤ 100000
  eq : ∀ p, p ≤ n → LL p = if bel p = [] then Str.ofString "" else sUl ++ catS ((bel p).map (rowS items LL)) ++ sUlEnd
  few : ∀ p, p ≤ n → (bel p).length ≤ 20

def LlAt (prog : Program) (w : World) (K : Frag) (p : Program) (loose : List Str) (mean : ExcName → Option Value) (mg mb : Str → Option Value) (f : Addr) (n : Nat) (bel : Nat → List Nat) (items : List Str) (LL : Nat → Str) (place : Nat) : Prop :=
  ∀ (dp un : Nat) (gd : Option (List Code)) (cn : Str) (cs : Scope) (a : Addr) (ccd : Value) (cl : List (Str × Addr)) (outer : List Env) (A₀ : Around) (base h₀ : Heap) (L : Addr) (m : Str → Option Value) (news : List (Addr × Obj)) (s : Shared) (Bl It : Addr) (vi : List Value) (ci : Nat) (z : Int) (tk : Tok) (Q E : Value → Shared → Prop),
    Below A₀ base outer h₀ → Fr h₀ L s.heap m → K.In h₀ → News h₀ L s.heap news → Top p loose mean mg mb h₀ → cs.kind = .function → 0 < s.toks →
    BelIn news Bl n bel → (It, listOf vi.toArray ci) ∈ news → StrsAre vi items → z = (place : Nat) → dp + (n - place) + 1 < recursionLimit → un + 8 * (n - place + 1) + 100 < cLine →
    (∀ t h' tk', 0 < tk' → Fr h₀ L h' m → News h₀ L h' news → Q (.str (LL place) t) { s with heap := h', toks := tk' }) →
    wpAny (model prog w) (ktrTop dp un gd cn cs L a ccd cl outer) (call (.ref f) [.ref Bl, .ref It, .int z tk]) Q E s
theorem ll_use {prog : Program} {w : World} {K : Frag} {p : Program} {loose : List Str} {mean : ExcName → Option Value} {mg mb : Str → Option Value} {f : Addr} {n : Nat} {bel : Nat → List Nat} {items : List Str} {LL : Nat → Str} {place : Nat} {dp un : Nat} {gd : Option (List Code)} {cn : Str} {cs : Scope} {a : Addr} {ccd : Value} {cl : List (Str × Addr)} {outer : List Env} {A₀ : Around} {base h₀ : Heap} {L : Addr} {m : Str → Option Value} {news : List (Addr × Obj)} {s : Shared} {Bl It : Addr} {vi : List Value} {ci : Nat} {z : Int} {tk : Tok} {Q E : Value → Shared → Prop}
    (C : LlAt prog w K p loose mean mg mb f n bel items LL place) (B : Below A₀ base outer h₀) (F : Fr h₀ L s.heap m) (X : K.In h₀) (N : News h₀ L s.heap news) (T : Top p loose mean mg mb h₀) (hk : cs.kind = .function) (hpos : 0 < s.toks)
    (hB : BelIn news Bl n bel) (hI : (It, listOf vi.toArray ci) ∈ news) (hS : StrsAre vi items) (hz : z = (place : Nat)) (hd : dp + (n - place) + 1 < recursionLimit) (hu : un + 8 * (n - place + 1) + 100 < cLine)
    (ret : ∀ t h' tk', 0 < tk' → Fr h₀ L h' m → News h₀ L h' news → Q (.str (LL place) t) { s with heap := h', toks := tk' }) :
    wpAny (model prog w) (ktrTop dp un gd cn cs L a ccd cl outer) (call (.ref f) [.ref Bl, .ref It, .int z tk]) Q E s :=
  C _ _ _ _ _ _ _ _ _ _ _ _ _ _ _ _ _ _ _ _ _ _ _ _ B F X N T hk hpos hB hI hS hz hd hu ret
end Mine
namespace Mine
section
variable {prog : Program} {w : World} {A : Around} {E : Value → Shared → Prop} {s : Shared} {h₀ : Heap} {L D a : Addr} {news : List (Addr × Obj)} {us : List Value} {n c : Nat}
theorem eq_nil {ns : List Int} {b : Bool} {Q : Value → Shared → Prop} (N : News h₀ L s.heap news) (hm : (a, listOf us.toArray c) ∈ news) (hi : IntsAre us ns) (hm' : (D, listOf #[] n) ∈ news) (hu : A.units + 64 < cLine) (hb : decide (ns = []) = b)
    (h : Q (.bool b) s) : wpAny (model prog w) A (compareOp .Eq (.ref a) (.ref D)) Q E s := by
  subst hb
  exact eq_intsK (lt_is N hm) hi (lt_is (vs := []) N hm') .nil hu h
theorem join_step {t : Tok} {ys : List Str} {Q : Value → Shared → Prop} (hpos : 0 < s.toks) (N : News h₀ L s.heap news) (hm : (a, listOf us.toArray c) ∈ news) (hS : StrsAre us ys) (hl : (catS ys).length ≤ 100000)
    (h : ∀ t' k, 0 < k → Q (.str (catS ys) t') { s with toks := k }) : wpAny (model prog w) A (call (.builtin "str.join") [.str (Str.ofString "") t, .ref a]) Q E s := by
  refine wpAny_with_toks (n := 1) hpos (join_list (lt_is N hm) (by rw [List.toList_toArray]; exact hS) ?_ fun t' k hk => ?_)
  · have e : (Str.ofString "").length = 0 := by decide +kernel
    rw [e, ← catS_length]; omega
  · rw [join_cat]; exact h t' k hk
end
theorem catS_append (a b : List Str) : catS (a ++ b) = catS a ++ catS b := by
  apply str_ext
  rw [list_app]
  induction a with
  | nil =>
    rw [show catS [] = Str.ofString "" from rfl, list_nil]; rfl
  | cons x r ih =>
    show (x ++ catS (r ++ b)).cps.toList = (x ++ catS r).cps.toList ++ _
    rw [list_app, list_app, ih, List.append_assoc]
end Mine
namespace Mine
theorem asInts_get {ks : List Nat} {i : Nat} {n : Int} (h : (asInts ks)[i]? = some n) : ∃ k : Nat, ks[i]? = some k ∧ n = (k : Int) := by
  unfold asInts at h
  rw [List.getElem?_map] at h
  cases hk : ks[i]? with
  | none => rw [hk] at h; cases h
  | some k => rw [hk] at h; exact ⟨k, rfl, (Option.some.inj h).symm⟩
theorem allLt_ne {d : Addr} {l : List (Addr × Obj)} (h : AllLt d l) : ∀ p ∈ l, p.1 ≠ d := fun p hp => Nat.ne_of_lt (kst_ltOf h p hp)
theorem take_next {α β : Type} (f : α → β) {l : List α} {i : Nat} {x : α} (h : l[i]? = some x) : (l.take (i + 1)).map f = (l.take i).map f ++ [f x] := by
  rw [List.take_add_one, h, List.map_append]; rfl
/-- a turn of a loop that writes rows -/
theorem rows_turn {h₀ : Heap} {L I Rw Bl It : Addr} {o : Obj} {rest : List (Addr × Obj)} {s₁ : Shared} {Q : Flow → Shared → Prop} {h' : Heap} {tk : Nat} {m' : Str → Option Value} {vr : List Value} {c i : Nat} {row : Nat → Str} {ks : List Nat} {k : Nat} {x : Str} {t : Tok}
    (hI : I ≠ Rw) (hIr : ∀ p ∈ rest, p.1 ≠ I) (hk : ks[i]? = some k) (hR : StrsAre vr ((ks.take i).map row)) (hx : x = row k) (F : Fr h₀ L h' m') (N : News h₀ L h' ((I, o) :: (Rw, listOf (vr ++ [Value.str x t]).toArray c) :: rest))
    (h1 : m' (Str.ofString "rows") = some (.ref Rw)) (h2 : m' (Str.ofString "below") = some (.ref Bl)) (h3 : m' (Str.ofString "items") = some (.ref It)) :
    TurnPost h₀ L (fun m nx => ∃ vr c, nx = (Rw, listOf vr.toArray c) :: rest ∧ StrsAre vr ((ks.take (i + 1)).map row) ∧ m (Str.ofString "rows") = some (.ref Rw) ∧ m (Str.ofString "below") = some (.ref Bl) ∧ m (Str.ofString "items") = some (.ref It)) I o s₁ Q .next { s₁ with heap := h', toks := tk } := by
  refine ⟨_, _, _, _, rfl, F, N, fun p hp => ?_, _, _, rfl, ?_, h1, h2, h3⟩
  · rcases List.mem_cons.mp hp with rfl | hp
    · exact hI.symm
    · exact hIr p hp
  · rw [take_next row hk, ← hx]
    exact strs_snoc hR _ _
end Mine
namespace Mine
theorem ren_use2 {prog : Program} {w : World} {K : Frag} {p : Program} {loose : List Str} {mean : ExcName → Option Value} {mg mb : Str → Option Value} {f : Addr} {dp un : Nat} {gd : Option (List Code)} {cn : Str} {cs : Scope} {a : Addr} {ccd : Value} {cl : List (Str × Addr)} {outer : List Env} {A₀ : Around} {base h₀ : Heap} {L : Addr} {m : Str → Option Value} {news : List (Addr × Obj)} {s : Shared} {l : Addr} {vs : List Value} {nn : Nat} {rows : List RowT} {X₁ : Str} {Q E : Value → Shared → Prop}
    (C : RenOk prog w K p loose mean mg mb f) (B : Below A₀ base outer h₀) (F : Fr h₀ L s.heap m) (X : K.In h₀) (N : News h₀ L s.heap news) (T : Top p loose mean mg mb h₀) (hk : cs.kind = .function) (hpos : 0 < s.toks) (hl : (l, listOf vs.toArray nn) ∈ news) (hR : RowsIn news vs rows) (hX : renS rows = X₁) (hlen : rows.length ≤ 20) (hsz : ∀ r ∈ rows, r.2.1.length ≤ 8 ∧ r.2.2.length ≤ 8) (hd : dp + 2 < recursionLimit) (hu : un + 16 < cLine)
    (ret : ∀ t h' tk', 0 < tk' → Fr h₀ L h' m → News h₀ L h' news → Q (.str X₁ t) { s with heap := h', toks := tk' }) :
    wpAny (model prog w) (ktrTop dp un gd cn cs L a ccd cl outer) (call (.ref f) [.ref l]) Q E s := by
  subst hX
  exact ren_use C B F X N T hk hpos hl hR hlen hsz hd hu ret
theorem numS_length (k : Nat) (h : k < 100) : (numS k).length ≤ 2 := by
  unfold numS
  have : ∀ k : Fin 100, (Str.ofString (toString ((k.1 : Nat) : Int))).length ≤ 2 := by decide +kernel
  exact this ⟨k, h⟩
theorem getD_mem_len {ys : List Str} {j b : Nat} (hj : j < ys.length) (h : ∀ y ∈ ys, y.length ≤ b) : (ys.getD j (Str.ofString "")).length ≤ b := by
  rw [List.getD_eq_getElem?_getD, List.getElem?_eq_getElem hj]
  exact h _ (List.getElem_mem hj)
theorem rowF_short (cs : List Int) (k : Nat) (h : k < 100) : (rowF cs k).2.1.length ≤ 8 ∧ (rowF cs k).2.2.length ≤ 8 := by
  refine ⟨getD_mem_len (nameAt_lt _) names_len, ?_⟩
  show (Str.ofString "t" ++ numS k).length ≤ 8
  rw [Str.length_append]
  have := numS_length k h
  have e : (Str.ofString "t").length = 1 := by decide +kernel
  omega
theorem itemF_short (cs : List Int) (k : Nat) (h : k < 100) : (itemF cs k).length ≤ 100 := by
  unfold itemF
  simp only [Str.length_append]
  have h1 := numS_length k h
  have h2 : (toldL.getD (nameAt (cs.getD k 0)) (Str.ofString "")).length ≤ 8 := getD_mem_len (nameAt_lt _) told_len
  have e1 : (Str.ofString "<a href=\"#").length = 10 := by decide +kernel
  have e2 : (Str.ofString "\">t").length = 3 := by decide +kernel
  have e3 : (Str.ofString "</a>").length = 4 := by decide +kernel
  omega
theorem told_esc : ∀ j, j < 8 → escS (namesL.getD j (Str.ofString "")) = toldL.getD j (Str.ofString "") := by
  have : ∀ j : Fin 8, escS (namesL.getD j.1 (Str.ofString "")) = toldL.getD j.1 (Str.ofString "") := by decide +kernel
  exact fun j hj => this ⟨j, hj⟩
theorem item_same (cs : List Int) (k : Nat) : itemS (rowF cs k).2.1 (rowF cs k).2.2 = itemF cs k := by
  unfold itemF itemS
  show Str.ofString "<a href=\"#" ++ escS (namesL.getD (nameAt (cs.getD k 0)) (Str.ofString "")) ++ Str.ofString "\">" ++ (Str.ofString "t" ++ numS k) ++ Str.ofString "</a>" = _
  rw [told_esc _ (nameAt_lt _)]
  apply str_ext
  simp only [list_app, List.append_assoc]
  have e : (Str.ofString "\">t").cps.toList = (Str.ofString "\">").cps.toList ++ (Str.ofString "t").cps.toList := by decide +kernel
  rw [e, List.append_assoc]
end Mine
open PySem PySem.W PyProof.Rows
set_option Elab.async false
namespace Mine
/-! the stack and the depths -/
def chainF (lev : Nat → Int) : Nat → List Int
  | 0 => []
  | q + 1 => lev q :: chainF lev (parF lev q)
termination_by q => q
decreasing_by exact Nat.lt_succ_of_le (searchF_le lev (lev q) q)
def depS (lev : Nat → Int) (q : Nat) : Nat := (chainF lev q).length
theorem chain_zero (lev : Nat → Int) : chainF lev 0 = [] := by rw [chainF]
theorem chain_succ (lev : Nat → Int) (q : Nat) : chainF lev (q + 1) = lev q :: chainF lev (parF lev q) := by rw [chainF]
theorem dep_zero (lev : Nat → Int) : depS lev 0 = 0 := by unfold depS; rw [chain_zero]; rfl
theorem dep_succ (lev : Nat → Int) (q : Nat) : depS lev (q + 1) = depS lev (parF lev q) + 1 := by unfold depS; rw [chain_succ]; rfl
theorem parF_le (lev : Nat → Int) (q : Nat) : parF lev q ≤ q := searchF_le lev _ q
theorem dep_le (lev : Nat → Int) (q : Nat) : depS lev q ≤ q := by
  induction q using Nat.strongRecOn with
  | ind q ih =>
    cases q with
    | zero => rw [dep_zero]; exact Nat.le_refl _
    | succ q =>
      rw [dep_succ]
      have h := parF_le lev q
      have := ih _ (Nat.lt_succ_of_le h)
      omega
theorem search_trans (lev : Nat → Int) {u v : Int} (h : v ≤ u) : ∀ p, searchF lev v (searchF lev u p) = searchF lev v p
  | 0 => rfl
  | p + 1 => by
    by_cases h1 : lev p ≥ u
    · have h2 : lev p ≥ v := Int.le_trans h h1
      have e1 : searchF lev u (p + 1) = searchF lev u p := if_pos h1
      have e2 : searchF lev v (p + 1) = searchF lev v p := if_pos h2
      rw [e1, e2]
      exact search_trans lev h p
    · have e1 : searchF lev u (p + 1) = p + 1 := if_neg h1
      rw [e1]
theorem chain_drop (lev : Nat → Int) (v : Int) (q : Nat) : (chainF lev q).dropWhile (fun x => decide (x ≥ v)) = chainF lev (searchF lev v q) := by
  induction q using Nat.strongRecOn with
  | ind q ih =>
    cases q with
    | zero => rw [chain_zero, show searchF lev v 0 = 0 from rfl, chain_zero]; rfl
    | succ q =>
      rw [chain_succ]
      by_cases h : lev q ≥ v
      · rw [List.dropWhile_cons_of_pos (by simpa using h), ih _ (Nat.lt_succ_of_le (parF_le lev q))]
        have e2 : searchF lev v (q + 1) = searchF lev v q := if_pos h
        rw [e2]
        unfold parF
        rw [search_trans lev h]
      · rw [List.dropWhile_cons_of_neg (by simpa using h)]
        have e2 : searchF lev v (q + 1) = q + 1 := if_neg h
        rw [e2, chain_succ]
/-- strictly falling from the top -/
def Falls : List Int → Prop
  | [] => True
  | [_] => True
  | x :: y :: r => y < x ∧ Falls (y :: r)
theorem falls_tail {x : Int} {r : List Int} (h : Falls (x :: r)) : Falls r := by
  cases r with
  | nil => trivial
  | cons y r => exact h.2
theorem search_below (lev : Nat → Int) (v : Int) : ∀ p q, searchF lev v p = q + 1 → lev q < v
  | 0, q, h => by cases h
  | p + 1, q, h => by
    by_cases h1 : lev p ≥ v
    · have e1 : searchF lev v (p + 1) = searchF lev v p := if_pos h1
      rw [e1] at h
      exact search_below lev v p q h
    · have e1 : searchF lev v (p + 1) = p + 1 := if_neg h1
      rw [e1] at h
      cases h
      omega
theorem chain_falls (lev : Nat → Int) (q : Nat) : Falls (chainF lev q) := by
  induction q using Nat.strongRecOn with
  | ind q ih =>
    cases q with
    | zero => rw [chain_zero]; trivial
    | succ q =>
      rw [chain_succ]
      have h := ih _ (Nat.lt_succ_of_le (parF_le lev q))
      cases hp : parF lev q with
      | zero => rw [chain_zero]; trivial
      | succ p =>
        rw [hp] at h
        rw [chain_succ] at h ⊢
        exact ⟨search_below lev _ _ _ hp, h⟩

/-! texts as lists of signs -/
abbrev tl (x : Str) : List Nat := x.cps.toList
def repL : Nat → List Nat
  | 0 => []
  | k + 1 => tl sUp ++ repL k
theorem up_next : tl sUpNext = tl sUp ++ tl sNext := by decide +kernel
theorem drop_falls {x : Int} {r : List Int} (h : Falls (x :: r)) : r.dropWhile (fun y => decide (y ≥ x)) = r := by
  cases r with
  | nil => rfl
  | cons y r => rw [List.dropWhile_cons_of_neg (by have := h.1; simpa using this)]
theorem popS_is (lv : Int) (it : Str) : ∀ (r : List Int) (s : Str), Falls r →
    (popS lv it s r).2 = lv :: r.dropWhile (fun x => decide (x ≥ lv)) ∧ tl (popS lv it s r).1 = tl s ++ repL (r.length - (r.dropWhile (fun x => decide (x ≥ lv))).length) ++ tl sNext ++ tl it
  | [], s, _ => by
    refine ⟨rfl, ?_⟩
    show tl (s ++ (sNext ++ it)) = _
    simp only [tl, list_app, List.dropWhile_nil, List.length_nil, Nat.sub_self, repL, List.append_nil, List.append_assoc]
  | x :: r, s, hf => by
    unfold popS
    by_cases h1 : lv = x
    · subst h1
      rw [if_pos rfl, List.dropWhile_cons_of_pos (by simp), drop_falls hf]
      refine ⟨rfl, ?_⟩
      have e : (lv :: r).length - r.length = 1 := by simp
      rw [e]
      show tl (s ++ (sUpNext ++ it)) = _
      have := up_next
      simp only [tl] at this
      simp only [tl, list_app, repL, List.append_nil, List.append_assoc, this]
    · rw [if_neg h1]
      by_cases h2 : lv > x
      · rw [if_pos h2, List.dropWhile_cons_of_neg (by simpa using h2)]
        refine ⟨rfl, ?_⟩
        rw [Nat.sub_self]
        show tl (s ++ (sNext ++ it)) = _
        simp only [tl, list_app, repL, List.append_nil, List.append_assoc]
      · rw [if_neg h2, List.dropWhile_cons_of_pos (by simp; omega)]
        obtain ⟨e1, e2⟩ := popS_is lv it r (s ++ sUp) (falls_tail hf)
        refine ⟨e1, ?_⟩
        rw [e2]
        have hle : (r.dropWhile (fun x => decide (x ≥ lv))).length ≤ r.length := List.Sublist.length_le (List.dropWhile_sublist _)
        have e : (x :: r).length - (r.dropWhile (fun x => decide (x ≥ lv))).length = (r.length - (r.dropWhile (fun x => decide (x ≥ lv))).length) + 1 := by
          rw [List.length_cons]; omega
        rw [e]
        simp only [tl, list_app, repL, List.append_assoc]
theorem stepS_stack (s : Str) (stk : List Int) (lv : Int) (it : Str) (hf : Falls stk) : (stepS (s, stk) lv it).2 = lv :: stk.dropWhile (fun x => decide (x ≥ lv)) := by
  cases stk with
  | nil => rfl
  | cons x r =>
    show (if lv = x then _ else if lv > x then _ else popS lv it s r).2 = _
    by_cases h1 : lv = x
    · subst h1
      rw [if_pos rfl, List.dropWhile_cons_of_pos (by simp), drop_falls hf]
    · rw [if_neg h1]
      by_cases h2 : lv > x
      · rw [if_pos h2, List.dropWhile_cons_of_neg (by simpa using h2)]
      · rw [if_neg h2, List.dropWhile_cons_of_pos (by simp; omega)]
        exact (popS_is lv it r s (falls_tail hf)).1
theorem stepS_text (s : Str) (x : Int) (r : List Int) (lv : Int) (it : Str) (hf : Falls (x :: r)) :
    tl (stepS (s, x :: r) lv it).1 = tl s ++ (if (stepS (s, x :: r) lv it).2.length > (x :: r).length then tl sDown else repL ((x :: r).length - (stepS (s, x :: r) lv it).2.length) ++ tl sNext) ++ tl it := by
  have hst := stepS_stack s (x :: r) lv it hf
  have hle : (r.dropWhile (fun x => decide (x ≥ lv))).length ≤ r.length := List.Sublist.length_le (List.dropWhile_sublist _)
  rw [hst]
  show tl (if lv = x then _ else if lv > x then _ else popS lv it s r).1 = _
  by_cases h1 : lv = x
  · subst h1
    rw [if_pos rfl, List.dropWhile_cons_of_pos (by simp), drop_falls hf, if_neg (by simp)]
    rw [List.length_cons, Nat.sub_self]
    show tl (s ++ (sNext ++ it)) = _
    simp only [tl, list_app, repL, List.nil_append, List.append_assoc]
  · rw [if_neg h1]
    by_cases h2 : lv > x
    · rw [if_pos h2, List.dropWhile_cons_of_neg (by simpa using h2), if_pos (by simp)]
      show tl (s ++ (sDown ++ it)) = _
      simp only [tl, list_app, List.append_assoc]
    · rw [if_neg h2, List.dropWhile_cons_of_pos (by simp; omega), if_neg (by simp only [List.length_cons]; omega)]
      rw [(popS_is lv it r s (falls_tail hf)).2]
      have e : (x :: r).length - (lv :: r.dropWhile (fun x => decide (x ≥ lv))).length = r.length - (r.dropWhile (fun x => decide (x ≥ lv))).length := by
        simp only [List.length_cons]; omega
      rw [e]
      simp only [List.append_assoc]
theorem closeS_is : ∀ (stk : List Int) (s : Str), tl (closeS s stk) = tl s ++ repL (stk.length - 1)
  | [], s => by simp [closeS, repL]
  | [_], s => by simp [closeS, repL]
  | _ :: y :: r, s => by
    show tl (closeS (s ++ sUp) (y :: r)) = _
    rw [closeS_is (y :: r) (s ++ sUp)]
    have e : (y :: r).length - 1 + 1 = (y :: r).length := by simp
    have e2 : ∀ z : Int, (z :: y :: r).length - 1 = ((y :: r).length - 1) + 1 := fun z => by simp
    rw [e2]
    simp only [tl, list_app, repL, List.append_assoc]
theorem repL_snoc : ∀ k, repL k ++ tl sUp = repL (k + 1)
  | 0 => by simp [repL]
  | k + 1 => by
    show tl sUp ++ repL k ++ tl sUp = tl sUp ++ repL (k + 1)
    rw [List.append_assoc, repL_snoc k]

/-! what is told behind the k-th heading -/
def Wf (d : Nat → Nat) (it : Nat → List Nat) : Nat → Nat → List Nat
  | 0, k => repL (d k)
  | m + 1, k => (if d (k + 1) > d k then tl sDown else repL (d k - d (k + 1)) ++ tl sNext) ++ it k ++ Wf d it m (k + 1)

theorem ren_scan (lev : Nat → Int) (rows : List RowT) (its : Nat → Str) (hl : ∀ i (h : i < rows.length), rows[i].1 = lev i) (hi : ∀ i (h : i < rows.length), itemS rows[i].2.1 rows[i].2.2 = its i) (hn : 0 < rows.length) :
    tl (renS rows) = tl sUl ++ tl sLi ++ tl (its 0) ++ Wf (depS lev) (fun k => tl (its k)) (rows.length - 1) 1 := by
  have key : ∀ k, k < rows.length → (foldS (Str.ofString "", []) (rows.take (k + 1))).2 = chainF lev (k + 1) ∧
      tl (foldS (Str.ofString "", []) (rows.take (k + 1))).1 ++ Wf (depS lev) (fun k => tl (its k)) (rows.length - (k + 1)) (k + 1) = tl sLi ++ tl (its 0) ++ Wf (depS lev) (fun k => tl (its k)) (rows.length - 1) 1 ∧
      4 ≤ (tl (foldS (Str.ofString "", []) (rows.take (k + 1))).1).length := by
    intro k
    induction k with
    | zero =>
      intro h
      have e : rows.take (0 + 1) = [] ++ [rows[0]] := by rw [List.take_succ_eq_append_getElem h]; rfl
      rw [e, foldS_snoc, hi 0 h, hl 0 h]
      refine ⟨?_, ?_, ?_⟩
      · rw [chain_succ, show parF lev 0 = 0 from rfl, chain_zero]; rfl
      · show tl (Str.ofString "" ++ (sLi ++ its 0)) ++ _ = _
        simp only [tl, list_app, list_nil, List.nil_append, List.append_assoc]
      · show 4 ≤ (tl (Str.ofString "" ++ (sLi ++ its 0))).length
        have h6 : (tl sLi).length = 4 := by decide +kernel
        simp only [tl, list_app, List.length_append] at h6 ⊢
        omega
    | succ k ih =>
      intro h
      obtain ⟨e1, e2, e3⟩ := ih (by omega)
      have e : rows.take (k + 1 + 1) = rows.take (k + 1) ++ [rows[k + 1]] := by rw [List.take_succ_eq_append_getElem h]
      rw [e, foldS_snoc, hi (k + 1) h, hl (k + 1) h]
      generalize foldS (Str.ofString "", []) (rows.take (k + 1)) = st at e1 e2 e3
      obtain ⟨s, stk⟩ := st
      dsimp only at e1 e2 e3
      have hf : Falls stk := e1 ▸ chain_falls lev (k + 1)
      have hstk := stepS_stack s stk (lev (k + 1)) (its (k + 1)) hf
      have hnew : (stepS (s, stk) (lev (k + 1)) (its (k + 1))).2 = chainF lev (k + 1 + 1) := by
        rw [hstk, e1, chain_drop, chain_succ lev (k + 1)]; rfl
      refine ⟨hnew, ?_⟩
      obtain ⟨x, r, hxr⟩ : ∃ x r, stk = x :: r := by rw [e1, chain_succ]; exact ⟨_, _, rfl⟩
      subst hxr
      rw [stepS_text s x r _ _ hf, hnew, ← e2]
      refine ⟨?_, by simp only [List.length_append]; omega⟩
      have hm : rows.length - (k + 1) = (rows.length - (k + 1 + 1)) + 1 := by omega
      rw [hm]
      show _ = tl s ++ ((if depS lev (k + 1 + 1) > depS lev (k + 1) then tl sDown else repL (depS lev (k + 1) - depS lev (k + 1 + 1)) ++ tl sNext) ++ tl (its (k + 1)) ++ _)
      rw [show (x :: r).length = depS lev (k + 1) from by unfold depS; rw [e1]]
      rw [show (chainF lev (k + 1 + 1)).length = depS lev (k + 1 + 1) from rfl]
      simp only [List.append_assoc]
  obtain ⟨e1, e2, e4⟩ := key (rows.length - 1) (by omega)
  have hN : rows.length - 1 + 1 = rows.length := by omega
  rw [hN, List.take_length, Nat.sub_self] at e2
  rw [hN, List.take_length] at e1 e4
  have hne : rows ≠ [] := by intro q; rw [q] at hn; exact Nat.lt_irrefl _ hn
  rw [renS_ne hne]
  generalize foldS (Str.ofString "", []) rows = st at e1 e2 e4
  obtain ⟨s, stk⟩ := st
  dsimp only at e1 e2 e4 ⊢
  have hd : 0 < depS lev rows.length := by rw [← hN, dep_succ]; exact Nat.succ_pos _
  have hclose : tl (closeS s stk) ++ tl sUp = tl s ++ repL (depS lev rows.length) := by
    rw [closeS_is, List.append_assoc, repL_snoc, e1]
    congr 2
    show depS lev rows.length - 1 + 1 = _
    omega
  have hlen : ¬ (closeS s stk).length = 0 := by
    intro q
    have h1 : (tl (closeS s stk)).length = 0 := by rw [← q]; exact (len_list _).symm
    rw [closeS_is, List.length_append] at h1
    omega
  rw [if_neg hlen]
  show tl (sUl ++ closeS s stk ++ sUp) = _
  simp only [tl, list_app] at hclose ⊢
  rw [List.append_assoc, hclose]
  have e3 : tl s ++ repL (depS lev rows.length) = tl sLi ++ tl (its 0) ++ Wf (depS lev) (fun k => tl (its k)) (rows.length - 1) 1 := e2
  simp only [tl] at e3
  rw [e3]
  simp only [List.append_assoc]
end Mine
open PySem PySem.W PyProof.Rows
set_option Elab.async false
namespace Mine
theorem par_or (lev : Nat → Int) (k : Nat) : parF lev k = k ∨ depS lev (parF lev k) < depS lev k := by
  cases k with
  | zero => exact .inl rfl
  | succ k =>
    by_cases h : lev k ≥ lev (k + 1)
    · right
      have e := chain_drop lev (lev (k + 1)) (k + 1)
      rw [chain_succ, List.dropWhile_cons_of_pos (by simpa using h)] at e
      show (chainF lev (searchF lev (lev (k + 1)) (k + 1))).length < (chainF lev (k + 1)).length
      rw [← e, chain_succ, List.length_cons]
      exact Nat.lt_succ_of_le (List.Sublist.length_le (List.dropWhile_sublist _))
    · left
      exact if_neg h
theorem par_self {lev : Nat → Int} {k : Nat} (h : depS lev k < depS lev (k + 1)) : depS lev (k + 1) = depS lev k + 1 := by
  rw [dep_succ] at h ⊢
  rcases par_or lev k with e | e
  · rw [e]
  · omega
theorem search_ge (lev : Nat → Int) {v : Int} {q : Nat} (hq : lev q < v) : ∀ p, q < p → q + 1 ≤ searchF lev v p
  | 0, h => absurd h (Nat.not_lt_zero _)
  | p + 1, h => by
    by_cases h1 : lev p ≥ v
    · have e1 : searchF lev v (p + 1) = searchF lev v p := if_pos h1
      rw [e1]
      have : q ≠ p := fun e => by subst e; omega
      exact search_ge lev hq p (by omega)
    · have e1 : searchF lev v (p + 1) = p + 1 := if_neg h1
      rw [e1]; exact h
theorem search_all (lev : Nat → Int) {v : Int} : ∀ p i, searchF lev v p ≤ i → i < p → lev i ≥ v
  | 0, i, _, h => absurd h (Nat.not_lt_zero _)
  | p + 1, i, h0, h => by
    by_cases h1 : lev p ≥ v
    · have e1 : searchF lev v (p + 1) = searchF lev v p := if_pos h1
      rw [e1] at h0
      by_cases e : i = p
      · subst e; exact h1
      · exact search_all lev p i h0 (by omega)
    · have e1 : searchF lev v (p + 1) = p + 1 := if_neg h1
      rw [e1] at h0
      omega
theorem child_up {lev : Nat → Int} {k p : Nat} (hp : parF lev k = p) (i : Nat) (h1 : p ≤ i) (h2 : i < k) : depS lev p < depS lev (i + 1) := by
  induction i using Nat.strongRecOn with
  | ind i ih =>
    have hge : p ≤ parF lev i := by
      cases p with
      | zero => exact Nat.zero_le _
      | succ q =>
        have ha : lev q < lev k := search_below lev _ _ _ hp
        have hb : lev i ≥ lev k := search_all lev k i (by rw [show searchF lev (lev k) k = q + 1 from hp]; exact h1) h2
        exact search_ge lev (by omega) i (by omega)
    have hle := parF_le lev i
    rw [dep_succ]
    by_cases e : parF lev i = p
    · rw [e]; omega
    · obtain ⟨j, hj⟩ : ∃ j, parF lev i = j + 1 := ⟨parF lev i - 1, by omega⟩
      rw [hj]
      have := ih j (by omega) (by omega) (by omega)
      omega
theorem child_down {lev : Nat → Int} {k p : Nat} (hpk : p ≤ k) (hd : depS lev (k + 1) = depS lev p + 1) (hall : ∀ i, p ≤ i → i < k → depS lev p < depS lev (i + 1)) : parF lev k = p := by
  have hle := parF_le lev k
  rw [dep_succ] at hd
  by_cases h1 : p < parF lev k
  · obtain ⟨j, hj⟩ : ∃ j, parF lev k = j + 1 := ⟨parF lev k - 1, by omega⟩
    have := hall j (by omega) (by omega)
    rw [← hj] at this
    omega
  · by_cases h2 : parF lev k < p
    · obtain ⟨j, hj⟩ : ∃ j, p = j + 1 := ⟨p - 1, by omega⟩
      have := child_up (lev := lev) (k := k) rfl j (by omega) (by omega)
      rw [← hj] at this
      omega
    · omega

/-- the children that stand at or behind j -/
def chl (lev : Nat → Int) (n p : Nat) (j : Nat) : List Nat := (List.range' j (n - j)).filter (fun k => parF lev k = p)
theorem chl_nil {lev : Nat → Int} {n p j : Nat} (h : ∀ k, j ≤ k → k < n → parF lev k ≠ p) : chl lev n p j = [] := by
  unfold chl
  rw [List.filter_eq_nil_iff]
  intro k hk
  rw [List.mem_range'_1] at hk
  simp only [decide_eq_true_eq]
  exact h k hk.1 (by omega)
theorem chl_next {lev : Nat → Int} {n p j : Nat} (hj : j < n) : chl lev n p j = if parF lev j = p then j :: chl lev n p (j + 1) else chl lev n p (j + 1) := by
  unfold chl
  have e : n - j = (n - (j + 1)) + 1 := by omega
  rw [e, List.range'_succ, List.filter_cons]
  by_cases h : parF lev j = p
  · simp [h]
  · simp [h]
theorem chl_skip {lev : Nat → Int} {n p : Nat} : ∀ m j, j + m ≤ n → (∀ k, j ≤ k → k < j + m → parF lev k ≠ p) → chl lev n p j = chl lev n p (j + m)
  | 0, j, _, _ => rfl
  | m + 1, j, h, hk => by
    rw [chl_next (by omega), if_neg (hk j (Nat.le_refl _) (by omega)), chl_skip m (j + 1) (by omega) fun k h1 h2 => hk k (by omega) (by omega)]
    rw [show j + 1 + m = j + (m + 1) from by omega]
theorem bel_chl (lev : Nat → Int) (n p : Nat) (hp : p ≤ n) : belF lev n p = chl lev n p p := by
  have e0 : belF lev n p = chl lev n p 0 := by
    unfold belF chl
    rw [List.range_eq_range', Nat.sub_zero]
  rw [e0]
  have := chl_skip (lev := lev) (n := n) (p := p) p 0 (by omega) fun k _ hk e => by
    have := parF_le lev k
    omega
  rw [this, Nat.zero_add]

def llS (items : List Str) (bel : Nat → List Nat) : Nat → Nat → Str
  | 0, _ => Str.ofString ""
  | f + 1, p => if bel p = [] then Str.ofString "" else sUl ++ catS ((bel p).map (rowS items (llS items bel f))) ++ sUlEnd
theorem llS_fuel {items : List Str} {bel : Nat → List Nat} {n : Nat} (hm : ∀ p, p ≤ n → ∀ k ∈ bel p, p ≤ k ∧ k < n) : ∀ f g q, q ≤ n → n + 1 - q ≤ f → n + 1 - q ≤ g → llS items bel f q = llS items bel g q
  | 0, _, q, hq, h, _ => by omega
  | _, 0, q, hq, _, h => by omega
  | f + 1, g + 1, q, hq, h1, h2 => by
    have e : (bel q).map (rowS items (llS items bel f)) = (bel q).map (rowS items (llS items bel g)) := by
      refine List.map_congr_left fun k hk => ?_
      have := hm q hq k hk
      unfold rowS
      rw [llS_fuel hm f g (k + 1) (by omega) (by omega) (by omega)]
    show (if bel q = [] then _ else sUl ++ catS ((bel q).map (rowS items (llS items bel f))) ++ sUlEnd) = (if bel q = [] then _ else sUl ++ catS ((bel q).map (rowS items (llS items bel g))) ++ sUlEnd)
    rw [e]
theorem llS_eq {items : List Str} {bel : Nat → List Nat} {n : Nat} (hm : ∀ p, p ≤ n → ∀ k ∈ bel p, p ≤ k ∧ k < n) (p : Nat) (hp : p ≤ n) :
    llS items bel (n + 1 - p) p = if bel p = [] then Str.ofString "" else sUl ++ catS ((bel p).map (rowS items (fun q => llS items bel (n + 1 - q) q))) ++ sUlEnd := by
  have e : n + 1 - p = (n - p) + 1 := by omega
  rw [e]
  have e2 : (bel p).map (rowS items (llS items bel (n - p))) = (bel p).map (rowS items (fun q => llS items bel (n + 1 - q) q)) := by
    refine List.map_congr_left fun k hk => ?_
    have := hm p hp k hk
    unfold rowS
    rw [llS_fuel hm (n - p) (n + 1 - (k + 1)) (k + 1) (by omega) (by omega) (by omega)]
  show (if bel p = [] then _ else sUl ++ catS ((bel p).map (rowS items (llS items bel (n - p)))) ++ sUlEnd) = _
  rw [e2]

def Kf (D : Nat → Nat) (it : Nat → List Nat) (n j : Nat) : Nat → List Nat
  | 0 => []
  | d + 1 => if j < n ∧ D (j + 1) = d + 1 then tl sLi ++ it j ++ Wf D it (n - (j + 1)) (j + 1) else tl sUlEnd ++ (if d = 0 then [] else tl sEnd ++ Kf D it n j d)
def Xf (D : Nat → Nat) (it : Nat → List Nat) (n j d : Nat) : List Nat :=
  if j < n then repL (d - D (j + 1)) ++ tl sNext ++ it j ++ Wf D it (n - (j + 1)) (j + 1) else repL d
theorem up_is : tl sUp = tl sEnd ++ tl sUlEnd := by decide +kernel
theorem next_is : tl sNext = tl sEnd ++ tl sLi := by decide +kernel
theorem down_is : tl sDown = tl sNl ++ tl sUl ++ tl sLi := by decide +kernel
theorem xf_kf {D : Nat → Nat} {it : Nat → List Nat} {n j : Nat} (hD : 0 < D (j + 1)) : ∀ d, 0 < d → (j < n → D (j + 1) ≤ d) → Xf D it n j d = tl sEnd ++ Kf D it n j d
  | 0, h, _ => absurd h (Nat.lt_irrefl _)
  | d + 1, _, hle => by
    unfold Kf
    by_cases h1 : j < n ∧ D (j + 1) = d + 1
    · rw [if_pos h1]
      unfold Xf
      rw [if_pos h1.1, h1.2, Nat.sub_self, next_is]
      simp only [repL, List.nil_append, List.append_assoc]
    · rw [if_neg h1]
      have e : Xf D it n j (d + 1) = tl sUp ++ Xf D it n j d := by
        unfold Xf
        by_cases h2 : j < n
        · have := hle h2
          have h3 : D (j + 1) ≠ d + 1 := fun e => h1 ⟨h2, e⟩
          rw [if_pos h2, if_pos h2, show d + 1 - D (j + 1) = (d - D (j + 1)) + 1 from by omega]
          simp only [repL, List.append_assoc]
        · rw [if_neg h2, if_neg h2]
          rfl
      rw [e, up_is]
      by_cases h4 : d = 0
      · subst h4
        rw [if_pos rfl]
        have h2 : ¬ j < n := fun h2 => by
          have := hle h2
          exact h1 ⟨h2, by omega⟩
        unfold Xf
        rw [if_neg h2]
        simp only [repL, List.append_assoc]
      · rw [if_neg h4, xf_kf hD d (by omega) fun h2 => by
          have := hle h2
          have h3 : D (j + 1) ≠ d + 1 := fun e => h1 ⟨h2, e⟩
          omega]
        simp only [List.append_assoc]
theorem wf_stay {D : Nat → Nat} {it : Nat → List Nat} {n j : Nat} (hjn : j ≤ n) (h : j < n → D (j + 1) ≤ D j) : Wf D it (n - j) j = Xf D it n j (D j) := by
  unfold Xf
  by_cases h1 : j < n
  · rw [if_pos h1, show n - j = (n - (j + 1)) + 1 from by omega]
    have := h h1
    show (if D (j + 1) > D j then tl sDown else repL (D j - D (j + 1)) ++ tl sNext) ++ it j ++ _ = _
    rw [if_neg (by omega)]
  · rw [if_neg h1, show n - j = 0 from by omega]
    rfl
theorem wf_down {D : Nat → Nat} {it : Nat → List Nat} {n j : Nat} (h1 : j < n) (h : D j < D (j + 1)) : Wf D it (n - j) j = tl sDown ++ it j ++ Wf D it (n - (j + 1)) (j + 1) := by
  rw [show n - j = (n - (j + 1)) + 1 from by omega]
  show (if D (j + 1) > D j then tl sDown else repL (D j - D (j + 1)) ++ tl sNext) ++ it j ++ _ = _
  rw [if_pos h]

def innL (x : Str) : List Nat := if x.length = 0 then [] else tl sNl ++ tl x
theorem inn_is (x : Str) : tl (innS x) = innL x := by
  unfold innS innL
  split
  · exact list_nil
  · exact list_app _ _

section
variable {lev : Nat → Int} {n : Nat} {items : List Str} {LL : Nat → Str}
abbrev itL (items : List Str) (k : Nat) : List Nat := tl (items.getD k (Str.ofString ""))
def rowsL (items : List Str) (LL : Nat → Str) (ks : List Nat) : List Nat := tl (catS (ks.map (rowS items LL)))
theorem rowsL_nil : rowsL items LL [] = [] := list_nil
theorem rowsL_cons (k : Nat) (ks : List Nat) : rowsL items LL (k :: ks) = tl sLi ++ itL items k ++ innL (LL (k + 1)) ++ tl sEnd ++ rowsL items LL ks := by
  show tl (sLi ++ items.getD k (Str.ofString "") ++ innS (LL (k + 1)) ++ sEnd ++ catS (ks.map (rowS items LL))) = _
  rw [← inn_is]
  simp only [tl, list_app, rowsL]
theorem dep_pos (lev : Nat → Int) (k : Nat) : 0 < depS lev (k + 1) := by rw [dep_succ]; exact Nat.succ_pos _

/-- the two claims at a place -/
theorem told_at (hLL : ∀ p, p ≤ n → LL p = if belF lev n p = [] then Str.ofString "" else sUl ++ catS ((belF lev n p).map (rowS items LL)) ++ sUlEnd) : ∀ (d j : Nat), n - j < d → j ≤ n →
    (∀ p, p ≤ j → (∀ i, p ≤ i → i < j → depS lev p < depS lev (i + 1)) → (j < n → depS lev (j + 1) ≤ depS lev p + 1) →
      ∃ e, j ≤ e ∧ e ≤ n ∧ (e < n → depS lev (e + 1) ≤ depS lev p) ∧ (∀ i, p ≤ i → i < e → depS lev p < depS lev (i + 1)) ∧
        Kf (depS lev) (itL items) n j (depS lev p + 1) = rowsL items LL (chl lev n p j) ++ Kf (depS lev) (itL items) n e (depS lev p + 1)) ∧
    (0 < j → ∃ e, j ≤ e ∧ e ≤ n ∧ (e < n → depS lev (e + 1) ≤ depS lev j) ∧ (∀ i, j ≤ i → i < e → depS lev j < depS lev (i + 1)) ∧
        Wf (depS lev) (itL items) (n - j) j = innL (LL j) ++ tl sEnd ++ Kf (depS lev) (itL items) n e (depS lev j))
  | 0, j, h, _ => absurd h (Nat.not_lt_zero _)
  | d + 1, j, hd, hjn => by
    have hB : ∀ p, p ≤ j → (∀ i, p ≤ i → i < j → depS lev p < depS lev (i + 1)) → (j < n → depS lev (j + 1) ≤ depS lev p + 1) →
      ∃ e, j ≤ e ∧ e ≤ n ∧ (e < n → depS lev (e + 1) ≤ depS lev p) ∧ (∀ i, p ≤ i → i < e → depS lev p < depS lev (i + 1)) ∧
        Kf (depS lev) (itL items) n j (depS lev p + 1) = rowsL items LL (chl lev n p j) ++ Kf (depS lev) (itL items) n e (depS lev p + 1) := by
      intro p hpj hin hnx
      by_cases hstop : j < n → depS lev (j + 1) ≤ depS lev p
      · refine ⟨j, Nat.le_refl _, hjn, hstop, hin, ?_⟩
        rw [chl_nil, rowsL_nil, List.nil_append]
        intro k hjk hkn hpar
        have hlt := hstop (by omega)
        by_cases e : j = k
        · subst e
          rw [dep_succ, hpar] at hlt
          omega
        · have := child_up hpar j hpj (by omega)
          omega
      · obtain ⟨hj, hgt⟩ : j < n ∧ depS lev p < depS lev (j + 1) := by
          refine ⟨?_, ?_⟩
          · exact Classical.byContradiction fun h => hstop fun h' => absurd h' h
          · exact Classical.byContradiction fun h => hstop fun _ => by omega
        have heq : depS lev (j + 1) = depS lev p + 1 := by have := hnx hj; omega
        have hpar : parF lev j = p := child_down hpj heq hin
        obtain ⟨e1, h1, h2, h3, h4, h5⟩ := (told_at hLL d (j + 1) (by omega) (by omega)).2 (Nat.succ_pos _)
        obtain ⟨e2, g1, g2, g3, g4, g5⟩ := (told_at hLL d e1 (by omega) h2).1 p (by omega) (fun i a b => by
          by_cases c : i < j
          · exact hin i a c
          · by_cases c2 : i = j
            · subst c2; exact hgt
            · have := h4 i (by omega) b
              omega) (fun h => by have := h3 h; omega)
        refine ⟨e2, by omega, g2, g3, g4, ?_⟩
        have hk : Kf (depS lev) (itL items) n j (depS lev p + 1) = tl sLi ++ itL items j ++ Wf (depS lev) (itL items) (n - (j + 1)) (j + 1) := if_pos ⟨hj, heq⟩
        have hs := chl_skip (lev := lev) (n := n) (p := p) (e1 - (j + 1)) (j + 1) (by omega) (fun k a b hkp => by
          have := h4 k a (by omega)
          rw [dep_succ lev k, hkp] at this
          omega)
        rw [show j + 1 + (e1 - (j + 1)) = e1 from by omega] at hs
        rw [hk, h5, heq, g5, chl_next hj, if_pos hpar, rowsL_cons, hs]
        simp only [List.append_assoc]
    refine ⟨hB, fun hj0 => ?_⟩
    have hDj : 0 < depS lev j := by
      obtain ⟨q, rfl⟩ : ∃ q, j = q + 1 := ⟨j - 1, by omega⟩
      exact dep_pos lev q
    by_cases hstop : j < n → depS lev (j + 1) ≤ depS lev j
    · refine ⟨j, Nat.le_refl _, hjn, hstop, fun i a b => absurd a (by omega), ?_⟩
      have hno : belF lev n j = [] := by
        rw [bel_chl lev n j hjn]
        refine chl_nil fun k hjk hkn hpar => ?_
        have hlt := hstop (by omega)
        by_cases e : j = k
        · subst e
          rw [dep_succ, hpar] at hlt
          omega
        · have := child_up hpar j (Nat.le_refl _) (by omega)
          omega
      have hl : LL j = Str.ofString "" := by rw [hLL j hjn, if_pos hno]
      have hi : innL (LL j) = [] := by rw [hl]; exact if_pos (by decide +kernel)
      rw [hi, wf_stay hjn hstop, xf_kf (dep_pos lev j) _ hDj hstop, List.nil_append]
    · obtain ⟨hj, hgt⟩ : j < n ∧ depS lev j < depS lev (j + 1) := by
        refine ⟨?_, ?_⟩
        · exact Classical.byContradiction fun h => hstop fun h' => absurd h' h
        · exact Classical.byContradiction fun h => hstop fun _ => by omega
      have heq := par_self hgt
      obtain ⟨e, g1, g2, g3, g4, g5⟩ := hB j (Nat.le_refl _) (fun i a b => absurd a (by omega)) (fun _ => by omega)
      refine ⟨e, g1, g2, g3, g4, ?_⟩
      have hk : Kf (depS lev) (itL items) n j (depS lev j + 1) = tl sLi ++ itL items j ++ Wf (depS lev) (itL items) (n - (j + 1)) (j + 1) := if_pos ⟨hj, heq⟩
      have hke : Kf (depS lev) (itL items) n e (depS lev j + 1) = tl sUlEnd ++ (tl sEnd ++ Kf (depS lev) (itL items) n e (depS lev j)) := by
        show (if _ then _ else tl sUlEnd ++ (if depS lev j = 0 then [] else _)) = _
        rw [if_neg (fun h => by have := g3 h.1; omega), if_neg (by omega)]
      have hpar : parF lev j = j := child_down (Nat.le_refl _) heq fun i a b => absurd a (by omega)
      have hne : belF lev n j ≠ [] := by
        rw [bel_chl lev n j hjn, chl_next hj, if_pos hpar]
        exact List.cons_ne_nil _ _
      have hl : LL j = sUl ++ catS ((belF lev n j).map (rowS items LL)) ++ sUlEnd := by rw [hLL j hjn, if_neg hne]
      have hi : innL (LL j) = tl sNl ++ tl (LL j) := if_neg (by
        rw [hl]
        simp only [Str.length_append, sUl_length]
        omega)
      have ht : tl (LL j) = tl sUl ++ rowsL items LL (chl lev n j j) ++ tl sUlEnd := by
        rw [hl, bel_chl lev n j hjn]
        simp only [tl, list_app, rowsL]
      rw [wf_down hj hgt, hi, ht, down_is]
      rw [hk, hke] at g5
      have : tl sNl ++ tl sUl ++ (tl sLi ++ itL items j ++ Wf (depS lev) (itL items) (n - (j + 1)) (j + 1)) = tl sNl ++ tl sUl ++ (rowsL items LL (chl lev n j j) ++ (tl sUlEnd ++ (tl sEnd ++ Kf (depS lev) (itL items) n e (depS lev j)))) := by rw [g5]
      simp only [List.append_assoc] at this ⊢
      exact this
theorem repL_length : ∀ k, (repL k).length = 12 * k
  | 0 => rfl
  | k + 1 => by
    show (tl sUp ++ repL k).length = _
    rw [List.length_append, repL_length k]
    have : (tl sUp).length = 12 := by decide +kernel
    omega
theorem wf_small {D : Nat → Nat} {it : Nat → List Nat} (hD : ∀ k, D k ≤ k) (hi : ∀ k, k < 20 → (it k).length ≤ 100) : ∀ m k, k + m ≤ 20 → (Wf D it m k).length ≤ 400 * (m + 1)
  | 0, k, h => by
    show (repL (D k)).length ≤ _
    rw [repL_length]
    have := hD k
    omega
  | m + 1, k, h => by
    show ((if D (k + 1) > D k then tl sDown else repL (D k - D (k + 1)) ++ tl sNext) ++ it k ++ Wf D it m (k + 1)).length ≤ _
    have h1 := wf_small hD hi m (k + 1) (by omega)
    have h2 := hi k (by omega)
    have h3 : (if D (k + 1) > D k then tl sDown else repL (D k - D (k + 1)) ++ tl sNext).length ≤ 260 := by
      have e1 : (tl sDown).length = 10 := by decide +kernel
      have e2 : (tl sNext).length = 10 := by decide +kernel
      have := hD k
      split
      · omega
      · rw [List.length_append, repL_length]; omega
    simp only [List.length_append]
    omega
end
theorem law1_facts (cs : List Int) (h : cs.length ≤ 20) : ∃ LL, LLFacts cs.length (belF (levF cs) cs.length) ((List.range cs.length).map (itemF cs)) LL ∧ renS ((List.range cs.length).map (rowF cs)) = LL 0 := by
  generalize hn : cs.length = n at h
  generalize hits : (List.range n).map (itemF cs) = items
  have hmem : ∀ p, p ≤ n → ∀ k ∈ belF (levF cs) n p, p ≤ k ∧ k < n := by
    intro p hp k hk
    unfold belF at hk
    rw [List.mem_filter, List.mem_range] at hk
    have h1 : parF (levF cs) k = p := by simpa using hk.2
    have := parF_le (levF cs) k
    exact ⟨by omega, hk.1⟩
  have hLL := llS_eq (items := items) hmem
  have hLs : ∀ p, n < p → llS items (belF (levF cs) n) (n + 1 - p) p = Str.ofString "" := by
    intro p hp
    rw [show n + 1 - p = 0 from by omega]
    rfl
  generalize hg : (fun q => llS items (belF (levF cs) n) (n + 1 - q) q) = LL at hLL
  have hg' : ∀ q, llS items (belF (levF cs) n) (n + 1 - q) q = LL q := fun q => by rw [← hg]
  simp only [hg'] at hLL hLs
  have hilen : items.length = n := by rw [← hits, List.length_map, List.length_range]
  have hget : ∀ k, k < n → items.getD k (Str.ofString "") = itemF cs k := by
    intro k hk
    rw [← hits, List.getD_eq_getElem?_getD, List.getElem?_map, List.getElem?_range hk]
    rfl
  have hshort : ∀ y ∈ items, y.length ≤ 100 := by
    intro y hy
    rw [← hits] at hy
    obtain ⟨k, hk, rfl⟩ := List.mem_map.mp hy
    rw [List.mem_range] at hk
    exact itemF_short cs k (by omega)
  have hil : ∀ k, k < 20 → (itL items k).length ≤ 100 := by
    intro k _
    by_cases hk : k < items.length
    · show (tl (items.getD k (Str.ofString ""))).length ≤ 100
      rw [show (tl (items.getD k (Str.ofString ""))).length = (items.getD k (Str.ofString "")).length from (len_list _).symm]
      exact getD_mem_len hk hshort
    · show (tl (items.getD k (Str.ofString ""))).length ≤ 100
      rw [List.getD_eq_getElem?_getD, List.getElem?_eq_none (by omega)]
      show (Str.ofString "").cps.toList.length ≤ 100
      rw [list_nil]
      exact Nat.zero_le _
  have hW := wf_small (it := itL items) (dep_le (levF cs)) hil
  have hat := fun j (hj : j ≤ n) => told_at (lev := levF cs) hLL (n - j + 1) j (Nat.lt_succ_self _) hj
  have hren : renS ((List.range n).map (rowF cs)) = LL 0 ∧ (LL 0).length ≤ 100000 := by
    by_cases hn0 : n = 0
    · subst hn0
      have e : LL 0 = Str.ofString "" := by
        rw [hLL 0 (Nat.le_refl _)]
        exact if_pos rfl
      rw [e]
      exact ⟨rfl, by decide +kernel⟩
    · have hr := ren_scan (levF cs) ((List.range n).map (rowF cs)) (itemF cs) (fun i hi => by rw [List.getElem_map, List.getElem_range]; rfl)
        (fun i hi => by rw [List.getElem_map, List.getElem_range]; exact item_same cs i) (by rw [List.length_map, List.length_range]; omega)
      rw [List.length_map, List.length_range] at hr
      have hwf : ∀ m k, k + m ≤ n → Wf (depS (levF cs)) (fun k => tl (itemF cs k)) m k = Wf (depS (levF cs)) (itL items) m k := by
        intro m
        induction m with
        | zero => intro k _; rfl
        | succ m ih =>
          intro k hk
          show _ ++ tl (itemF cs k) ++ Wf (depS (levF cs)) (fun k => tl (itemF cs k)) m (k + 1) = _ ++ itL items k ++ Wf (depS (levF cs)) (itL items) m (k + 1)
          rw [ih (k + 1) (by omega)]
          show _ ++ tl (itemF cs k) ++ _ = _ ++ tl (items.getD k (Str.ofString "")) ++ _
          rw [hget k (by omega)]
      rw [hwf (n - 1) 1 (by omega)] at hr
      have hD1 : depS (levF cs) 1 = 1 := by
        rw [show (1 : Nat) = 0 + 1 from rfl, dep_succ, show parF (levF cs) 0 = 0 from rfl, dep_zero]
      obtain ⟨e, g1, g2, g3, g4, g5⟩ := (hat 0 (Nat.zero_le _)).1 0 (Nat.le_refl _) (fun i a b => absurd b (Nat.not_lt_zero _)) (fun _ => by rw [dep_zero, hD1]; exact Nat.le_refl _)
      rw [dep_zero] at g3 g5
      have hk : Kf (depS (levF cs)) (itL items) n 0 (0 + 1) = tl sLi ++ itL items 0 ++ Wf (depS (levF cs)) (itL items) (n - 1) 1 := if_pos ⟨by omega, hD1⟩
      have hke : Kf (depS (levF cs)) (itL items) n e (0 + 1) = tl sUlEnd ++ [] := by
        show (if _ then _ else tl sUlEnd ++ (if (0 : Nat) = 0 then [] else _)) = _
        rw [if_neg (fun h => by have := g3 h.1; omega), if_pos rfl]
      have hne : belF (levF cs) n 0 ≠ [] := by
        rw [bel_chl _ n 0 (Nat.zero_le _), chl_next (by omega), if_pos (show parF (levF cs) 0 = 0 from rfl)]
        exact List.cons_ne_nil _ _
      have hl : LL 0 = sUl ++ catS ((belF (levF cs) n 0).map (rowS items LL)) ++ sUlEnd := by rw [hLL 0 (Nat.zero_le _), if_neg hne]
      have ht : tl (LL 0) = tl sUl ++ rowsL items LL (chl (levF cs) n 0 0) ++ tl sUlEnd := by
        rw [hl, bel_chl _ n 0 (Nat.zero_le _)]
        simp only [tl, list_app, rowsL]
      have heq : tl (renS ((List.range n).map (rowF cs))) = tl (LL 0) := by
        rw [hr, ht]
        rw [hk, hke] at g5
        have h0 : tl (itemF cs 0) = itL items 0 := by
          show _ = tl (items.getD 0 (Str.ofString ""))
          rw [hget 0 (by omega)]
        rw [h0]
        have : tl sUl ++ (tl sLi ++ itL items 0 ++ Wf (depS (levF cs)) (itL items) (n - 1) 1) = tl sUl ++ (rowsL items LL (chl (levF cs) n 0 0) ++ (tl sUlEnd ++ [])) := by rw [g5]
        simp only [List.append_assoc, List.append_nil] at this ⊢
        exact this
      have hst : renS ((List.range n).map (rowF cs)) = LL 0 := str_ext heq
      refine ⟨hst, ?_⟩
      have hlen : (LL 0).length = (tl (LL 0)).length := len_list _
      rw [hlen, ← heq, hr]
      have h1 := hW (n - 1) 1 (by omega)
      have h2 := itemF_short cs 0 (by omega)
      have h3 : (itemF cs 0).length = (tl (itemF cs 0)).length := len_list _
      have e1 : (tl sUl).length = 5 := by decide +kernel
      have e2 : (tl sLi).length = 4 := by decide +kernel
      simp only [List.length_append]
      omega
  refine ⟨LL, ⟨h, hmem, hilen, hshort, ?_, hLL, ?_⟩, hren.1⟩
  · intro p
    by_cases hp : p ≤ n
    · by_cases hp0 : p = 0
      · subst hp0; exact hren.2
      · obtain ⟨e, _, _, _, _, g5⟩ := (hat p hp).2 (by omega)
        have h1 := hW (n - p) p (by omega)
        rw [g5] at h1
        simp only [List.length_append] at h1
        have hlen : (LL p).length = (tl (LL p)).length := len_list _
        have h2 : (LL p).length ≤ (innL (LL p)).length := by
          unfold innL
          split
          · omega
          · rw [List.length_append]; omega
        omega
    · rw [hLs p (by omega)]
      decide +kernel
  · intro p hp
    have := belF_length (levF cs) n p
    unfold asInts at this
    rw [List.length_map] at this
    omega
end Mine
open PySem PySem.W PyProof.Rows
set_option Elab.async false
set_option maxRecDepth 100000
namespace Mine
def levG (c : Int) : Int := if Int.fmod (Int.fdiv c 6) 8 = 7 then Int.fdiv c 48 else 1 + Int.fmod c 6
def restG (c : Int) : Nat → Int
  | 0 => Int.fdiv (Int.fdiv (if c < 0 then -c else c) 6) 8
  | t + 1 => if t = 0 then Int.fdiv (restG c t) 4 else Int.fdiv (restG c t) 8
def signG (r : Int) : Str := Txt.item (Str.ofString "ab&<>\"#-") (Int.fmod r 8)
theorem signG_length (r : Int) : (signG r).length = 1 := by
  unfold signG
  have h0 := Int.fmod_nonneg_of_pos r (b := 8) (by decide)
  have h1 := Int.fmod_lt_of_pos r (b := 8) (by decide)
  generalize Int.fmod r 8 = k at h0 h1
  have key : ∀ k : Fin 8, (Txt.item (Str.ofString "ab&<>\"#-") ((k.1 : Nat) : Int)).length = 1 := by decide +kernel
  have := key ⟨k.toNat, by omega⟩
  rwa [show ((k.toNat : Nat) : Int) = k from Int.toNat_of_nonneg h0] at this
def nameG (c : Int) : Nat → Str
  | 0 => Str.ofString ""
  | t + 1 => nameG c t ++ signG (restG c (t + 1))
def rowG (c : Int) : RowT := (levG c, nameG c (Int.fmod (restG c 0) 4).toNat, Str.ofString "t" ++ Str.ofString (toString (Int.fmod c 6)))
theorem nameG_length (c : Int) : ∀ t, (nameG c t).length = t
  | 0 => by show (Str.ofString "").length = 0; decide +kernel
  | t + 1 => by
    show (nameG c t ++ signG (restG c (t + 1))).length = _
    rw [Str.length_append, nameG_length c t, signG_length]
/-- what the law's first loop keeps -/
def K1 (cs : List Int) (ws : List Value) (T C : Addr) (i : Nat) (m : Str → Option Value) (nx : List (Addr × Obj)) : Prop :=
  ∃ vt ct tups, nx = (T, listOf vt.toArray ct) :: (C, listOf ws.toArray 0) :: tups ∧ RowsIn tups vt ((cs.take i).map rowG) ∧ OwnOff tups [T, C] ∧ m (Str.ofString "rows") = some (.ref T)
/-- what the inner loop keeps -/
def K2 (c lev : Int) (tc tl : Tok) (T : Addr) (nx₀ : List (Addr × Obj)) (i : Nat) (m : Str → Option Value) (nx : List (Addr × Obj)) : Prop :=
  nx = nx₀ ∧ (∃ t1, m (Str.ofString "rest") = some (.int (restG c i) t1)) ∧ (∃ t2, m (Str.ofString "name") = some (.str (nameG c i) t2)) ∧ m (Str.ofString "rows") = some (.ref T) ∧ m (Str.ofString "number") = some (.int c tc) ∧ m (Str.ofString "level") = some (.int lev tl)
theorem k2_turn {h₀ : Heap} {L I : Addr} {o : Obj} {s₁ : Shared} {Q : Flow → Shared → Prop} {h' : Heap} {tk : Nat} {m' : Str → Option Value} {c lev d : Int} {tc tl t1 t2 : Tok} {T : Addr} {nx₀ : List (Addr × Obj)} {j : Nat} (hI : ∀ p ∈ nx₀, p.1 ≠ I) (F : Fr h₀ L h' m') (N : News h₀ L h' ((I, o) :: nx₀))
    (e1 : m' (Str.ofString "rest") = some (.int d t1)) (e2 : m' (Str.ofString "name") = some (.str (nameG c j ++ Txt.item (Str.ofString "ab&<>\"#-") (Int.fmod d 8)) t2)) (e3 : m' (Str.ofString "rows") = some (.ref T)) (e4 : m' (Str.ofString "number") = some (.int c tc)) (e5 : m' (Str.ofString "level") = some (.int lev tl))
    (hre : restG c (j + 1) = d) : TurnPost h₀ L (K2 c lev tc tl T nx₀ (j + 1)) I o s₁ Q .next { s₁ with heap := h', toks := tk } := by
  refine ⟨h', tk, m', _, rfl, F, N, hI, rfl, ⟨t1, by rw [hre]; exact e1⟩, ⟨t2, ?_⟩, e3, e4, e5⟩
  rw [e2]
  show _ = some (Value.str (nameG c j ++ Txt.item (Str.ofString "ab&<>\"#-") (Int.fmod (restG c (j + 1)) 8)) t2)
  rw [hre]
theorem k1_turn {h₀ : Heap} {L I : Addr} {o : Obj} {s₁ : Shared} {Q : Flow → Shared → Prop} {h' : Heap} {tk : Nat} {m' : Str → Option Value} {cs : List Int} {ws : List Value} {T C : Addr} {i : Nat} {c lev : Int} {vt : List Value} {ct : Nat} {tups : List (Addr × Obj)} {D1 : Addr} {nm tx : Str} {t1 t2 t3 : Tok}
    (hI : ∀ p ∈ tups, p.1 ≠ I) (hIT : @Ne Nat I T) (hIC : @Ne Nat I C)
    (hR : RowsIn tups vt ((cs.take i).map rowG)) (hoff : OwnOff tups [T, C]) (hc : cs[i]? = some c) (hrow : (lev, nm, tx) = rowG c)
    (F : Fr h₀ L h' m')
    (N : News h₀ L h' ((D1, tupOf [Value.int lev t1, Value.str nm t2, Value.str tx t3]) :: (I, o) :: (T, listOf (vt ++ [Value.ref D1]).toArray ct) :: (C, listOf ws.toArray 0) :: tups))
    (hDI : @Ne Nat D1 I) (hDT : @Ne Nat D1 T) (hDC : @Ne Nat D1 C)
    (hm1 : m' (Str.ofString "rows") = some (.ref T)) :
    TurnPost h₀ L (K1 cs ws T C (i + 1)) I o s₁ Q .next { s₁ with heap := h', toks := tk } := by
  refine ⟨h', tk, m', _, rfl, F, ?_, ?_, vt ++ [Value.ref D1], ct, (D1, tupOf [Value.int lev t1, Value.str nm t2, Value.str tx t3]) :: tups, rfl, ?_, ?_, hm1⟩
  · intro p hp
    refine N p ?_
    simp only [List.mem_cons] at hp ⊢
    rcases hp with h | h | h | h | h <;> simp only [h, true_or, or_true]
  · intro p hp
    simp only [List.mem_cons] at hp
    rcases hp with h | h | h | h
    · rw [h]; exact hIT.symm
    · rw [h]; exact hIC.symm
    · rw [h]; exact hDI
    · exact hI p h
  · rw [List.take_add_one, hc, List.map_append, Option.toList_some, List.map_singleton, ← hrow]
    exact (hR.mono fun p hp => .tail _ hp).snoc ⟨D1, _, t1, t2, t3, rfl, .head _⟩
  · intro p hp b hb
    rcases List.mem_cons.mp hp with rfl | hp
    · simp only [List.mem_cons, List.not_mem_nil, or_false] at hb
      rcases hb with rfl | rfl
      · exact hDT
      · exact hDC
    · exact hoff p hp b hb
section
variable {prog : Program} {w : World} {A : Around} {E : Value → Shared → Prop} {s : Shared} {h₀ : Heap} {L D a : Addr} {news : List (Addr × Obj)} {us : List Value} {n c : Nat}
theorem eq_empty {Q : Value → Shared → Prop} (N : News h₀ L s.heap news) (hm : (a, listOf us.toArray c) ∈ news) (hm' : (D, listOf #[] n) ∈ news) (hu : A.units < cLine) {b : Bool} (hb : us.isEmpty = b)
    (h : Q (.bool b) s) : wpAny (model prog w) A (compareOp .Eq (.ref a) (.ref D)) Q E s := by
  subst hb
  cases us with
  | nil => exact SeqAt.eq_listAt (e := fun _ => true) (lt_is N hm) (lt_is (vs := []) N hm') rfl hu (fun j h1 _ => absurd h1 (Nat.not_lt_zero _)) h
  | cons x r => exact SeqAt.eq_list_lengthsAt (lt_is N hm) (lt_is (vs := []) N hm') (by simp) hu h
theorem eq_self {Q : Value → Shared → Prop} (N : News h₀ L s.heap news) (hm : (a, listOf us.toArray c) ∈ news) (hm' : (D, listOf us.toArray n) ∈ news) (hu : A.units < cLine)
    (h : Q (.bool true) s) : wpAny (model prog w) A (compareOp .Eq (.ref a) (.ref D)) Q E s := by
  have e : ∀ n : Nat, ((List.range n).all fun _ => true) = true := fun n => List.all_eq_true.mpr fun _ _ => rfl
  refine SeqAt.eq_listAt (e := fun _ => true) (lt_is N hm) (lt_is N hm') rfl hu (fun j _ _ => SeqAt.EqAt.same _) ?_
  rw [e]
  exact h
end
theorem rowG_short (c : Int) : (rowG c).2.1.length ≤ 8 ∧ (rowG c).2.2.length ≤ 8 := by
  have h0 := Int.fmod_nonneg_of_pos (restG c 0) (b := 4) (by decide)
  have h1 := Int.fmod_lt_of_pos (restG c 0) (b := 4) (by decide)
  have h2 := Int.fmod_nonneg_of_pos c (b := 6) (by decide)
  have h3 := Int.fmod_lt_of_pos c (b := 6) (by decide)
  refine ⟨?_, ?_⟩
  · show (nameG c _).length ≤ 8
    rw [nameG_length]; omega
  · show (Str.ofString "t" ++ Str.ofString (toString (Int.fmod c 6))).length ≤ 8
    generalize Int.fmod c 6 = k at h2 h3
    have e : k = ((k.toNat : Nat) : Int) := (Int.toNat_of_nonneg h2).symm
    rw [e, Str.length_append]
    have := numS_length k.toNat (by omega)
    unfold numS at this
    have e1 : (Str.ofString "t").length = 1 := by decide +kernel
    omega
def rows3 : List RowT := [(2, Str.ofString "a", Str.ofString "t"), (1, Str.ofString "<b>", Str.ofString "u"), (3, Str.ofString "c", Str.ofString "v")]
theorem three_rows {h₀ h : Heap} {L R D1 D2 D3 : Addr} {c : Nat} {t1 t2 t3 t4 t5 t6 t7 t8 t9 : Tok} {rest : List (Addr × Obj)}
    (_ : News h₀ L h ((R, listOf #[.ref D1, .ref D2, .ref D3] c) :: (D3, tupOf [.int 3 t1, .str (Str.ofString "c") t2, .str (Str.ofString "v") t3]) :: (D2, tupOf [.int 1 t4, .str (Str.ofString "<b>") t5, .str (Str.ofString "u") t6]) :: (D1, tupOf [.int 2 t7, .str (Str.ofString "a") t8, .str (Str.ofString "t") t9]) :: rest)) :
    RowsIn ((R, listOf #[.ref D1, .ref D2, .ref D3] c) :: (D3, tupOf [.int 3 t1, .str (Str.ofString "c") t2, .str (Str.ofString "v") t3]) :: (D2, tupOf [.int 1 t4, .str (Str.ofString "<b>") t5, .str (Str.ofString "u") t6]) :: (D1, tupOf [.int 2 t7, .str (Str.ofString "a") t8, .str (Str.ofString "t") t9]) :: rest) [.ref D1, .ref D2, .ref D3] rows3 :=
  .cons ⟨D1, _, t7, t8, t9, rfl, .tail _ (.tail _ (.tail _ (.head _)))⟩ (.cons ⟨D2, _, t4, t5, t6, rfl, .tail _ (.tail _ (.head _))⟩ (.cons ⟨D3, _, t1, t2, t3, rfl, .tail _ (.head _)⟩ .nil))
theorem rows3_short : ∀ r ∈ rows3, r.2.1.length ≤ 8 ∧ r.2.2.length ≤ 8 := by decide +kernel
/-- the rows that the law goes on with -/
def Rows2 (h₀ : Heap) (L : Addr) (h : Heap) (R : Addr) : Prop :=
  ∃ (nw : List (Addr × Obj)) (vt : List Value) (ct : Nat) (rs : List RowT), News h₀ L h nw ∧ (R, listOf vt.toArray ct) ∈ nw ∧ RowsIn nw vt rs ∧ rs ≠ [] ∧ rs.length ≤ 14 ∧ ∀ r ∈ rs, r.2.1.length ≤ 8 ∧ r.2.2.length ≤ 8
theorem rows2_nil {h₀ h : Heap} {L R D1 D2 D3 : Addr} {c : Nat} {t1 t2 t3 t4 t5 t6 t7 t8 t9 : Tok} {rest : List (Addr × Obj)}
    (N : News h₀ L h ((R, listOf #[.ref D1, .ref D2, .ref D3] c) :: (D3, tupOf [.int 3 t1, .str (Str.ofString "c") t2, .str (Str.ofString "v") t3]) :: (D2, tupOf [.int 1 t4, .str (Str.ofString "<b>") t5, .str (Str.ofString "u") t6]) :: (D1, tupOf [.int 2 t7, .str (Str.ofString "a") t8, .str (Str.ofString "t") t9]) :: rest)) : Rows2 h₀ L h R :=
  ⟨_, [.ref D1, .ref D2, .ref D3], c, rows3, N, .head _, three_rows N, List.cons_ne_nil _ _, by decide, rows3_short⟩
theorem rows2_cons {h₀ h : Heap} {L T : Addr} {cs : List Int} {vt : List Value} {ct : Nat} {x y : Addr × Obj} {tups : List (Addr × Obj)} (N : News h₀ L h (x :: (T, listOf vt.toArray ct) :: y :: tups)) (hR : RowsIn tups vt (cs.map rowG)) (hne : vt ≠ []) (hl : cs.length ≤ 14) : Rows2 h₀ L h T := by
  refine ⟨_, vt, ct, cs.map rowG, N, .tail _ (.head _), hR.mono fun p hp => .tail _ (.tail _ (.tail _ hp)), ?_, by rw [List.length_map]; exact hl, ?_⟩
  · intro q
    rw [q] at hR
    cases hR
    exact hne rfl
  · intro r hr
    obtain ⟨c, _, rfl⟩ := List.mem_map.mp hr
    exact rowG_short c
/-- what the law's loop over the rows keeps -/
def K3 (rs : List RowT) (It Dd R : Addr) (nw : List (Addr × Obj)) (X : Str) (i : Nat) (m : Str → Option Value) (nx : List (Addr × Obj)) : Prop :=
  ∃ vi ci, nx = (It, listOf vi.toArray ci) :: nw ∧ StrsAre vi ((rs.take i).map fun r => itemS r.2.1 r.2.2) ∧ m (Str.ofString "items") = some (.ref It) ∧ m (Str.ofString "due") = some (.ref Dd) ∧ m (Str.ofString "rows") = some (.ref R) ∧ ∃ t, m (Str.ofString "told") = some (.str X t)
theorem k3_turn {h₀ : Heap} {L I It Dd R D2 : Addr} {o o2 ol : Obj} {s₁ : Shared} {Q : Flow → Shared → Prop} {h' : Heap} {tk : Nat} {m' : Str → Option Value} {rs : List RowT} {nw : List (Addr × Obj)} {X x : Str} {i : Nat} {r : RowT} {vi : List Value} {ci : Nat} {t tt : Tok}
    (hI : ∀ p ∈ (It, ol) :: nw, p.1 ≠ I) (hS : StrsAre vi ((rs.take i).map fun r => itemS r.2.1 r.2.2)) (hr : rs[i]? = some r) (hx : x = itemS r.2.1 r.2.2)
    (F : Fr h₀ L h' m') (N : News h₀ L h' ((D2, o2) :: (I, o) :: (It, listOf (vi ++ [Value.str x t]).toArray ci) :: nw))
    (h1 : m' (Str.ofString "items") = some (.ref It)) (h2 : m' (Str.ofString "due") = some (.ref Dd)) (h3 : m' (Str.ofString "rows") = some (.ref R)) (h4 : m' (Str.ofString "told") = some (.str X tt)) :
    TurnPost h₀ L (K3 rs It Dd R nw X (i + 1)) I o s₁ Q .next { s₁ with heap := h', toks := tk } := by
  refine ⟨h', tk, m', _, rfl, F, fun p hp => N p (.tail _ hp), ?_, vi ++ [Value.str x t], ci, rfl, ?_, h1, h2, h3, ⟨tt, h4⟩⟩
  · intro p hp
    rcases List.mem_cons.mp hp with rfl | hp
    · exact hI (It, ol) (.head _)
    · exact hI p (.tail _ hp)
  · rw [take_next (fun r : RowT => itemS r.2.1 r.2.2) hr, ← hx]
    exact strs_snoc hS _ _
end Mine
open PySem PySem.W PyProof.Rows
set_option Elab.async false
set_option maxRecDepth 100000
namespace Mine
open LCg
section
variable {prog : Program} {w : World} {A : Around} {E : Value → Shared → Prop} {s : Shared} {h₀ : Heap} {L : Addr} {m : Str → Option Value} {env : Env}
/-- a comprehension's source that is a text -/
def SrcS (prog : Program) (w : World) (A : Around) (h₀ : Heap) (L : Addr) (m : Str → Option Value) (env : Env) (elt : PySem.Expr) (x : Str) (scope : Scope) (cl : List (Str × Addr)) (Fin : Shared → List Value → List (Addr × Obj) → Prop) (xv : Value) (s₁ : Shared) : Prop :=
  ∃ y t news, xv = .str y t ∧ A.handled = none ∧ Fr h₀ L s₁.heap m ∧ News h₀ L s₁.heap news ∧ y.cps.size ≤ sizeLine ∧
    ∀ s₂ : Shared, (∃ h, s₂ = { s₁ with heap := h }) → CompRest prog w A h₀ L m env elt x scope cl s₂ (fun _ => True) (SignAt y) (Fin s₂) y.cps.size 0 [] news
theorem iter_str {y : Str} {t : Tok} {Q : Value → Shared → Prop} (hh : A.handled = none)
    (h : ∀ o T, Walks prog w A s.heap.objs.size [s.heap.objs.size] [s.heap.objs.size] y.cps.size (SignAt y) (fun i h => h.IsStrIter s.heap.objs.size T y t i) →
      (s.heap.push o).IsStrIter s.heap.objs.size T y t 0 → Q (.ref s.heap.objs.size) { s with heap := s.heap.push o }) : wpAny (model prog w) A (pyIter (.str y t)) Q E s := by
  cases ha : y.cps.all (· < 128) with
  | true => exact wpAny_pyIter_ascii ha (h _ "str_ascii_iterator" (Walks.strAscii hh _ y t) ⟨_, Heap.get?_push_size _ rfl, rfl, rfl⟩)
  | false => exact wpAny_pyIter_wide ha (h _ "str_iterator" (Walks.strWide hh _ y t) ⟨_, Heap.get?_push_size _ rfl, rfl, rfl⟩)
theorem ListComp_S {elt iter : PySem.Expr} {x : Str} {px : Pos} {scope : Scope} {cl : List (Str × Addr)} {pos : Pos} {Q : Value → Shared → Prop} (F₀ : Fr h₀ L s.heap m)
    (hclos : closureFor scope env = pure cl) (hcell : ∀ y ∈ scope.names, y.2 ≠ .cell) (hkind : scope.kind = .function)
    (hnames : ∀ y ∈ scope.names, y.2 = .local → scope.names.lookup y.1 = some .local) (hx : scope.names.lookup x = some .local)
    (h : wpAny (model prog w) A (eval iter env) (SrcS prog w A h₀ L m env elt x scope cl (fun s₂ => FinE h₀ L m s₂ Q)) E s)
    (hs : ∀ x, foldedSetIterable iter env x = pure x := by intro _; rfl) :
    wpAny (model prog w) A (eval (.ListComp elt [⟨.Name x px, iter, [], 0⟩] scope pos) env) Q E s := by
  rw [eval_ListComp]
  refine wpAny_comprehension_free (use := none) rfl hs hclos hkind hnames (wpAny_mono h (fun xv s₁ h₁ => ?_) fun _ _ e => e)
  obtain ⟨y, t, news, rfl, hh, F, N, hsz, R⟩ := h₁
  refine iter_str hh fun o T W hst => ?_
  have up : ∀ b o', s₁.heap.get? b = some o' → (s₁.heap.push o).get? b = some o' := fun b o' e => Heap.get?_push_of_some _ e
  refine block_U W hsz (fun i h st => by obtain ⟨o, e, _⟩ := st; exact ⟨o, e⟩) (fun i h h' o nw st e e' _ _ _ => by obtain ⟨o', q, r⟩ := st; rw [e] at q; cases q; exact ⟨o, e', r⟩) hcell hkind hx hst (fun b hb => ?_)
    (F.keeps up) (N.grown up) (Nat.ne_of_lt F.ns.lt) (next_is_new F) (fun p hp => Nat.ne_of_lt (Heap.lt_size (N p hp).1)) trivial (R _ ⟨_, rfl⟩) ?_
  · rw [List.mem_singleton.mp hb]
    show s₁.heap.objs.size < (s₁.heap.push _).objs.size
    rw [Heap.size_push]; exact Nat.lt_succ_self _
  · intro D C h tk m' ys news' F' N' o1 hn hC₀ hD₀ hCL hDL hCD offC fin
    refine ⟨m', hn, fun h'' hs'' => fin D h'' tk (F'.change hs'' hCL hC₀) (fun p hp => ?_) o1⟩
    refine ⟨hs''.extBut _ _ ?_ (N' p hp).1, (N' p hp).2⟩
    rcases List.mem_cons.mp hp with rfl | hp
    · exact Ne.symm hCD
    · exact offC p hp
end
def toldS (y : Str) : Str := if (y == Str.ofString "&") = true then Str.ofString "&amp;" else if (y == Str.ofString "<") = true then Str.ofString "&lt;" else if (y == Str.ofString ">") = true then Str.ofString "&gt;" else if (y == Str.ofString "\"") = true then Str.ofString "&quot;" else y
def ToldOk (prog : Program) (w : World) (K : Frag) (p : Program) (loose : List Str) (mean : ExcName → Option Value) (mg mb : Str → Option Value) (f : Addr) : Prop :=
  ∀ (dp un : Nat) (gd : Option (List Code)) (cn : Str) (cs : Scope) (a : Addr) (ccd : Value) (cl : List (Str × Addr)) (outer : List Env) (A₀ : Around) (base h₀ : Heap) (L : Addr) (m : Str → Option Value) (news : List (Addr × Obj)) (s : Shared) (x : Str) (tk : Tok) (Q E : Value → Shared → Prop),
    Below A₀ base outer h₀ → Fr h₀ L s.heap m → K.In h₀ → News h₀ L s.heap news → Top p loose mean mg mb h₀ → cs.kind = .function →
    dp + 1 < recursionLimit → un + 8 < cLine →
    (∀ t h' tk', Fr h₀ L h' m → News h₀ L h' news → Q (.str (toldS x) t) { s with heap := h', toks := tk' }) →
    wpAny (model prog w) (ktrTop dp un gd cn cs L a ccd cl outer) (call (.ref f) [.str x tk]) Q E s
theorem told_use {prog : Program} {w : World} {K : Frag} {p : Program} {loose : List Str} {mean : ExcName → Option Value} {mg mb : Str → Option Value} {f : Addr} {dp un : Nat} {gd : Option (List Code)} {cn : Str} {cs : Scope} {a : Addr} {ccd : Value} {cl : List (Str × Addr)} {outer : List Env} {A₀ : Around} {base h₀ : Heap} {L : Addr} {m : Str → Option Value} {news : List (Addr × Obj)} {s : Shared} {x : Str} {tk : Tok} {Q E : Value → Shared → Prop}
    (C : ToldOk prog w K p loose mean mg mb f) (B : Below A₀ base outer h₀) (F : Fr h₀ L s.heap m) (X : K.In h₀) (N : News h₀ L s.heap news) (T : Top p loose mean mg mb h₀) (hk : cs.kind = .function) (hd : dp + 1 < recursionLimit) (hu : un + 8 < cLine)
    (ret : ∀ t h' tk', Fr h₀ L h' m → News h₀ L h' news → Q (.str (toldS x) t) { s with heap := h', toks := tk' }) :
    wpAny (model prog w) (ktrTop dp un gd cn cs L a ccd cl outer) (call (.ref f) [.str x tk]) Q E s :=
  C _ _ _ _ _ _ _ _ _ _ _ _ _ _ _ _ _ _ _ _ B F X N T hk hd hu ret
section
open LCg
variable {prog : Program} {w : World} {A : Around} {h₀ : Heap} {L : Addr} {m : Str → Option Value} {env : Env} {elt : PySem.Expr} {x : Str} {scope : Scope} {cl : List (Str × Addr)} {s : Shared} {Fin : List Value → List (Addr × Obj) → Prop} {news : List (Addr × Obj)}
theorem rest_text {y : Str} (g : Nat → Str)
    (turn : ∀ c u I oI C oC D m₂ ys h tk (E' : Value → Shared → Prop), c ∈ y.cps.toList → NsObj oC m₂ → m₂ x = some (.str ⟨#[c]⟩ u) → Fr h₀ L h m → News h₀ L h ((I, oI) :: (C, oC) :: (D, lst ys) :: news) →
      wpAny (model prog w) A (eval elt (compEnvC scope cl C env)) (Back h₀ L m ((I, oI) :: (C, oC) :: (D, lst ys) :: news) { s with heap := h, toks := tk } (fun t => .str (g c) t)) E' { s with heap := h, toks := tk })
    (fin : ∀ ys, StrsAre ys (y.cps.toList.map g) → Fin ys news) : CompRest prog w A h₀ L m env elt x scope cl s (fun _ => True) (SignAt y) Fin y.cps.size 0 [] news := by
  have key : ∀ (j i : Nat) (ys : List Value), i + j = y.cps.size → StrsAre ys ((y.cps.toList.take i).map g) → CompRest prog w A h₀ L m env elt x scope cl s (fun _ => True) (SignAt y) Fin j i ys news := by
    intro j
    induction j with
    | zero =>
      intro i ys hi hy
      have e : i = y.cps.toList.length := by rw [Array.length_toList]; omega
      subst e
      rw [List.take_length] at hy
      exact CompRest.zero (fin ys hy)
    | succ j ih =>
      intro i ys hi hy
      refine CompRest.succ ?_
      intro v I oI C oC D m₂ h tk E' hv hC hx F N off ne
      obtain ⟨c, u, hc, rfl⟩ := hv
      have hc' : y.cps.toList[i]? = some c := by rw [Array.getElem?_toList]; exact hc
      refine wpAny_mono (turn c u I oI C oC D m₂ ys h tk E' (List.mem_of_getElem? hc') hC hx F N) (fun v s₂ hq => ?_) fun _ _ e => e
      obtain ⟨t', h', tk', rfl, rfl, F', N'⟩ := hq
      refine ⟨h', tk', news, rfl, F', N', off, trivial, ?_⟩
      refine ih (i + 1) _ (by omega) ?_
      rw [take_next g hc']
      exact strs_snoc hy _ _
  exact key _ 0 [] (by omega) .nil
end
section
variable {prog : Program} {w : World} {A : Around} {E : Value → Shared → Prop} {s : Shared} {h₀ : Heap} {L D a : Addr} {news : List (Addr × Obj)} {us : List Value} {n c : Nat}
theorem join_step0 {t : Tok} {ys : List Str} {X : Str} {Q : Value → Shared → Prop} (N : News h₀ L s.heap news) (hm : (a, listOf us.toArray c) ∈ news) (hS : StrsAre us ys) (hX : catS ys = X) (hl : X.length ≤ 100000)
    (h : ∀ t' k, Q (.str X t') { s with toks := k }) : wpAny (model prog w) A (call (.builtin "str.join") [.str (Str.ofString "") t, .ref a]) Q E s := by
  subst hX
  refine join_list (lt_is N hm) (by rw [List.toList_toArray]; exact hS) ?_ fun t' k => ?_
  · have e : (Str.ofString "").length = 0 := by decide +kernel
    rw [e, ← catS_length]; omega
  · rw [join_cat]; exact h t' k
end
theorem told_one (c : Nat) : (toldS ⟨#[c]⟩).cps.toList = escL [c] := by
  have e : ∀ k : Nat, (((⟨#[c]⟩ : Str) == ⟨#[k]⟩) = true) ↔ c = k := by
    intro k
    rw [beq_iff_eq]
    constructor
    · intro h
      have := congrArg (fun z : Str => z.cps.toList) h
      simpa using this
    · intro h; rw [h]
  unfold toldS
  rw [show Str.ofString "&" = ⟨#[38]⟩ from by decide +kernel, show Str.ofString "<" = ⟨#[60]⟩ from by decide +kernel, show Str.ofString ">" = ⟨#[62]⟩ from by decide +kernel, show Str.ofString "\"" = ⟨#[34]⟩ from by decide +kernel]
  simp only [e]
  by_cases h1 : c = 38
  · subst h1; decide +kernel
  · rw [if_neg h1]
    by_cases h2 : c = 60
    · subst h2; decide +kernel
    · rw [if_neg h2]
      by_cases h3 : c = 62
      · subst h3; decide +kernel
      · rw [if_neg h3]
        by_cases h4 : c = 34
        · subst h4; decide +kernel
        · rw [if_neg h4]
          rw [← esc_all]
          simp [subC, h1, h2, h3, h4]
theorem told_cat (y : Str) : catS (y.cps.toList.map fun c => toldS ⟨#[c]⟩) = escS y := by
  apply str_ext
  show _ = escL y.cps.toList
  generalize y.cps.toList = l
  rw [← esc_all]
  have ea : ∀ a b : List Nat, escL (a ++ b) = escL a ++ escL b := fun a b => by
    rw [← esc_all, ← esc_all, ← esc_all, subC_append, subC_append, subC_append, subC_append]
  rw [esc_all]
  induction l with
  | nil => exact list_nil
  | cons c r ih =>
    show (toldS ⟨#[c]⟩ ++ catS (r.map fun c => toldS ⟨#[c]⟩)).cps.toList = _
    rw [list_app, ih, told_one, show c :: r = [c] ++ r from rfl, ea]
end Mine
open PySem PySem.W PyProof.Rows Mine
set_option Elab.async false
set_option maxRecDepth 100000
namespace Mine2
local macro_rules | `(tactic| cell_enter) => `(tactic| (refine' code_def ?k1 ?k2 ?k3 ?k4 ?k5 ?kA ?kF ?kK ?k6 ?k7 ?k8 ?k9 ?kB ?_ ?c2 ?c3 ?c4 ?c5; (case kA => exact rfl); (case kF => exact rfl); (case kK => assumption); (case k1 => k_asm); (case k2 => k_asm); (case k3 => k_asm); (case k4 => k_asm); (case k5 => k_asm); (case k6 => k_is); (case k7 => k_is); (case k8 => ktr_room); (case k9 => first | exact BindsTo.of_eq rfl | exact binds_K (by k_in) rfl (by k_is) rfl rfl rfl); (case c5 => decide); (case kB => exact locs rfl); (case c2 => exact rfl); (case c3 => exact rfl); (case c4 => exact rfl); k_whole; intro g' L' h' FG' F' N' B' X' T'; (try dsimp only); (try k_lift B')))
local macro_rules | `(tactic| walk_at "execs cons") => `(tactic| ((refine gen_toks (by first | exact Nat.succ_pos _ | assumption | omega) ?_; intro tk9 htk9); (with_reducible refine wpAny_execs_cons ?_); try dsimp only))
local macro_rules | `(tactic| ktr_rel) => `(tactic| first | assumption | exact List.Mem.head _ | (refine List.Mem.tail _ ?_; ktr_rel))
local macro_rules | `(tactic| walk_at "truthy ref") => `(tactic| first | (refine' lt_truthy_snoc ?N ?m ?z ?_; (case N => assumption); (case m => ktr_rel); (case z => omega)) | (refine' lt_truthy_nil ?N ?m ?_; (case N => assumption); (case m => ktr_rel)) | (refine' lt_truthy ?N ?m ?z ?_; (case N => assumption); (case m => ktr_rel); (case z => first | omega | (simp only [List.length_append, List.length_cons, List.length_nil]; omega))))
local macro_rules | `(tactic| tb_rel) => `(tactic| first | assumption | exact Upd.head (by assumption) | exact Upd.tail (by assumption) (Upd.head (by assumption)) | exact Upd.tail (by assumption) (Upd.tail (by assumption) (Upd.head (by assumption))) | k_upd)
local macro_rules | `(tactic| walk_at "call builtin:list.append") => `(tactic| (refine' lt_append ?F ?N ?U ?z ?_; (case F => assumption); (case N => assumption); (case U => tb_rel); (case z => first | omega | (simp only [List.length_append, List.length_cons, List.length_nil]; omega)); intro h' F' N'))
local macro_rules | `(tactic| walk_at "call builtin:list.pop") => `(tactic| (refine' lt_pop ?F ?N ?U ?z ?_; (case F => assumption); (case N => assumption); (case U => tb_rel); (case z => first | omega | (simp only [List.length_append, List.length_cons, List.length_nil]; omega)); intro h' F' N'))
local macro_rules | `(tactic| walk_at "subscriptTail") => `(tactic| ((with_reducible show wpAny _ _ (subscriptTail _ _ (Value.ref _) (Value.int _ _)) _ _ _); (refine' lt_last ?N ?m ?z ?_ ?s; (case N => assumption); (case m => ktr_rel); (case z => first | assumption | omega); (case s => with_unfolding_all rfl))))
local macro_rules | `(tactic| walk_at "last exec While") => `(tactic| refine halt ?_)
local macro_rules | `(tactic| walk_at "exec While") => `(tactic| refine halt ?_)
local macro_rules | `(tactic| walk_at "call builtin:len") => `(tactic| ((with_reducible show wpAny _ _ (call (Value.builtin "len") [Value.ref _]) _ _ _); (refine' lt_len ?N ?m ?z ?_; (case N => assumption); (case m => ktr_rel); (case z => first | omega | (simp only [List.length_append, List.length_cons, List.length_nil]; omega)))))
local macro_rules | `(tactic| walk_at "getMethod ref") => `(tactic| ((with_reducible show wpAny _ _ (getMethod (Value.ref _) (PySem.Str.ofString "append") _) _ _ _); k_dflt (refine' kl_method ?N ?m PySem.F.slot_list_append PySem.F.type_list_append ?_; (case N => assumption); (case m => ktr_rel))))
local macro_rules | `(tactic| walk_at "exec For Name Call cons nil") => `(tactic| refine halt ?_)
local macro_rules | `(tactic| walk_at "CompSrc") => `(tactic| refine halt ?_)
local macro_rules | `(tactic| walk_at "exec Assign cons ListComp") => `(tactic| refine halt ?_)
set_option maxHeartbeats 4000000 in
theorem told_ok (w : World) (p : Program) (loose : List Str) (mean : ExcName → Option Value) (mg mb : Str → Option Value) :
    ToldOk Challenge.rw_ci0010_02.row.prog w (hd.heap_39 w.params) p loose mean mg mb 36 := by
  k_fill
  unfold ToldOk
  intro dp un gd cn cs a ccd cl outer A₀ base h₀ L m news s x tk Q E B F X N T hk hd hu hret
  refine wpAny_mono (Q := Back h₀ L m news s (fun t => .str (toldS x) t)) (E := E) ?_ (fun v s' ⟨t, h', tk', e, e', F, N⟩ => by subst e; subst e'; exact hret t h' tk' F N) (fun _ _ e => e)
  refine wpAny_call ?_
  k_dflt cell_enter
  k_steps
  all_goals (
    rename Fr _ _ _ _ => F9
    rename News _ _ _ _ => N9
    refine ⟨_, _, _, congrArg (fun z => Value.str z _) (?_ : _ = toldS x), rfl, F9, N9⟩
    unfold toldS
    clear F9 N9
    simp only [*, if_true, Bool.false_eq_true, if_false])
end Mine2
open PySem PySem.W PyProof.Rows
set_option Elab.async false
set_option maxRecDepth 100000
namespace Mine
section
variable {prog : Program} {w : World} {A : Around} {E : Value → Shared → Prop} {s : Shared} {env : Env} {h₀ : Heap} {target : PySem.Expr} {body : List Stmt} {Q : Flow → Shared → Prop}
theorem loop_list0 {l : Addr} {vs : List Value} {nn : Nat} {m₀ : Str → Option Value} {news : List (Addr × Obj)} (J : Nat → (Str → Option Value) → List (Addr × Obj) → Prop)
    (hh : A.handled = none) (F : Fr h₀ env.locals s.heap m₀) (N : News h₀ env.locals s.heap news) (hj : J 0 m₀ news)
    (hJl : ∀ i m nx, J i m nx → (l, listOf vs.toArray nn) ∈ nx)
    (hgo : ∀ (I l' : Addr) (i : Nat) (v : Value) (s' : Shared) (Q' : Unit → Shared → Prop) (E' : Value → Shared → Prop), s'.heap.IsListIter I l' i → v ∈ vs → Q' () s' → wpAny (model prog w) A (letOwnedTupleGo target (.ref I) v) Q' E' s')
    (turn : ∀ i v m₁ nx h tk I o, vs[i]? = some v → 0 ≤ tk → (∀ p ∈ nx, p.1 ≠ I) → J i m₁ nx → Fr h₀ env.locals h m₁ → News h₀ env.locals h ((I, o) :: nx) →
      wpAny (model prog w) A (assign target env v) (fun _ s₂ => wpAny (model prog w) A (execs body env) (TurnPost h₀ env.locals (J (i + 1)) I o { s with heap := h, toks := tk } Q) (fun _ _ => False) s₂) (fun _ _ => False) { s with heap := h, toks := tk })
    (done : ∀ m₁ nx h tk, 0 ≤ tk → J vs.length m₁ nx → Fr h₀ env.locals h m₁ → News h₀ env.locals h nx → Q .next { s with heap := h, toks := tk }) :
    wpAny (model prog w) A (pyIter (.ref l)) (fun it s₂ => codeAny (model prog w) A (.forLoop target it body [] env) (fun r s' => match r with | .ok f => Q f s' | .error e => cameBackBy (model prog w) A env E e s') s₂) E s := by
  have hol : s.heap.get? l = some (listOf vs.toArray nn) := (N _ (hJl _ _ _ hj)).1
  have hls : s.heap.IsList l vs.toArray := ⟨_, hol, rfl, nn, rfl⟩
  have hIL : s.heap.objs.size ≠ env.locals := Nat.ne_of_gt F.ns.lt
  have hI0 : h₀.get? s.heap.objs.size = none := next_is_new F
  refine wpAny_pyIter_list hls ?_
  refine codeAny_forLoop_any
    (fun k s' => ∃ h' tk m' nx i, s' = { s with heap := h', toks := tk } ∧ 0 ≤ tk ∧ h'.IsListIter s.heap.objs.size l i ∧ Fr h₀ env.locals h' m' ∧ News h₀ env.locals h' nx ∧ (∀ p ∈ nx, p.1 ≠ s.heap.objs.size) ∧ J i m' nx ∧ i ≤ vs.length ∧ k = vs.length + 1 - i) ?_ (vs.length + 1)
    ⟨_, _, m₀, news, 0, rfl, Nat.zero_le _, ⟨_, Heap.get?_push_size _ rfl, rfl, rfl⟩, F.push _, (fun p hp => ⟨Heap.get?_push_of_some _ (N p hp).1, (N p hp).2⟩), (fun p hp => Nat.ne_of_lt (Heap.lt_size (N p hp).1)), hj, Nat.zero_le _, rfl⟩
  rintro k s' ⟨h', tk, m', nx, i, rfl, htk, hit, F', N', hoff, hJ, hi, rfl⟩
  have hl' : h'.IsList l vs.toArray := ⟨_, (N' _ (hJl _ _ _ hJ)).1, rfl, nn, rfl⟩
  cases hv : vs[i]? with
  | none =>
    have hsz : i = vs.length := Nat.le_antisymm hi (by simpa using hv)
    refine wpAny_pyNext_list_end hh hit hl' (by simpa using hv) fun h₁ he₁ => wpAny_execs_nil ?_
    refine done m' nx h₁ tk htk (hsz ▸ hJ) ⟨F'.ns.extBut he₁ hIL.symm, fun b o e => he₁ b o (fun q => by rw [q, hI0] at e; cases e) (F'.keep b o e), F'.above⟩ fun p hp => ⟨he₁ _ _ (hoff p hp) (N' p hp).1, (N' p hp).2⟩
  | some v =>
    have hlt : i < vs.length := (List.getElem?_eq_some_iff.mp hv).1
    refine wpAny_pyNext_list_item hit hl' (by simpa using hv) fun h₁ hit₁ hs₁ => ?_
    obtain ⟨oI, hoI, hcI, hdI⟩ := id hit₁
    have F₁ : Fr h₀ env.locals h₁ m' := F'.change hs₁ hIL hI0
    have N₁ : News h₀ env.locals h₁ ((s.heap.objs.size, oI) :: nx) := by
      intro p hp
      rcases List.mem_cons.mp hp with rfl | hp
      · exact ⟨hoI, hIL, hI0⟩
      · exact ⟨(hs₁.2 _ (hoff p hp)).trans (N' p hp).1, (N' p hp).2⟩
    refine hgo _ _ _ _ _ _ _ hit₁ (List.mem_of_getElem? hv) ?_
    have T := turn i v m' nx h₁ tk _ _ hv htk hoff hJ F₁ N₁
    refine wpAny_mono (wpAny_toks_of (n := 0) htk T) (fun _ s₂ h₂ => ?_) fun _ _ e => e.2.elim
    refine wpAny_mono (wpAny_toks_of (n := 0) h₂.1 h₂.2) (fun f s₃ h₃ => ?_) fun _ _ e => e.2.elim
    obtain ⟨htk₃, h₃⟩ := h₃
    have next : (∃ h' tk₂ m' nx, s₃ = { ({ s with heap := h₁, toks := tk } : Shared) with heap := h', toks := tk₂ } ∧ Fr h₀ env.locals h' m' ∧ News h₀ env.locals h' ((s.heap.objs.size, oI) :: nx) ∧ (∀ p ∈ nx, p.1 ≠ s.heap.objs.size) ∧ J (i + 1) m' nx) →
        ∃ m, m < vs.length + 1 - i ∧ ∃ h' tk m' nx i, s₃ = { s with heap := h', toks := tk } ∧ 0 ≤ tk ∧ h'.IsListIter s.heap.objs.size l i ∧ Fr h₀ env.locals h' m' ∧ News h₀ env.locals h' nx ∧ (∀ p ∈ nx, p.1 ≠ s.heap.objs.size) ∧ J i m' nx ∧ i ≤ vs.length ∧ m = vs.length + 1 - i := by
      rintro ⟨h₄, tk₄, m₄, nx₄, rfl, F₄, N₄, hoff₄, hJ₄⟩
      exact ⟨vs.length + 1 - (i + 1), by omega, h₄, tk₄, m₄, nx₄, i + 1, rfl, htk₃, ⟨oI, (N₄ _ (.head _)).1, hcI, hdI⟩, F₄, fun p hp => N₄ p (.tail _ hp), hoff₄, hJ₄, hlt, rfl⟩
    cases f with
    | next => exact next h₃
    | cont => exact next h₃
    | brk => exact h₃
    | ret v => exact h₃

theorem loop_while0 {test : PySem.Expr} {orelse : List Stmt} {pos : Pos} {m₀ : Str → Option Value} {news : List (Addr × Obj)} {n₀ : Nat} (J : Nat → (Str → Option Value) → List (Addr × Obj) → Prop)
    (F : Fr h₀ env.locals s.heap m₀) (N : News h₀ env.locals s.heap news) (hj : J n₀ m₀ news)
    (turn : ∀ n m₁ nx h tk, 0 ≤ tk → J n m₁ nx → Fr h₀ env.locals h m₁ → News h₀ env.locals h nx →
      wpAny (model prog w) A (isTrue test env (eval test env)) (fun b s₂ =>
        if b = true then wpAny (model prog w) A (execs body env) (WhilePost h₀ env.locals (fun m' nx' => ∃ n', n' < n ∧ J n' m' nx') { s with heap := h, toks := tk } Q) (fun _ _ => False) s₂
        else wpAny (model prog w) A (execs orelse env) Q (fun _ _ => False) s₂) (fun _ _ => False) { s with heap := h, toks := tk }) :
    wpAny (model prog w) A (exec (.While test body orelse pos) env) Q E s := by
  refine wpAny_While (codeAny_whileLoop (fun n s' => ∃ h₁ tk₁ m₁ nx, s' = { s with heap := h₁, toks := tk₁ } ∧ 0 ≤ tk₁ ∧ Fr h₀ env.locals h₁ m₁ ∧ News h₀ env.locals h₁ nx ∧ J n m₁ nx) ?_ n₀ ⟨s.heap, s.toks, m₀, news, rfl, Nat.zero_le _, F, N, hj⟩)
  rintro n s' ⟨h₁, tk₁, m₁, nx, rfl, htk, F₁, N₁, J₁⟩
  refine wpAny_mono (wpAny_toks_of (n := 0) htk (turn n m₁ nx h₁ tk₁ htk J₁ F₁ N₁)) (fun b s₂ h₂ => ?_) fun _ _ e => e.2.elim
  obtain ⟨htk₂, h₂⟩ := h₂
  cases b with
  | false =>
    simp only [Bool.false_eq_true, if_false] at h₂ ⊢
    exact wpAny_mono h₂ (fun _ _ x => x) fun _ _ e => e.elim
  | true =>
    simp only [if_true] at h₂ ⊢
    refine wpAny_mono (wpAny_toks_of (n := 0) htk₂ h₂) (fun f s₃ h₃ => ?_) fun _ _ e => e.2.elim
    obtain ⟨htk₃, h₃⟩ := h₃
    have next : (∃ h' tk₂ m' nx', s₃ = { ({ s with heap := h₁, toks := tk₁ } : Shared) with heap := h', toks := tk₂ } ∧ Fr h₀ env.locals h' m' ∧ News h₀ env.locals h' nx' ∧ ∃ n', n' < n ∧ J n' m' nx') →
        ∃ m, m < n ∧ ∃ h₁ tk₁ m₁ nx, s₃ = { s with heap := h₁, toks := tk₁ } ∧ 0 ≤ tk₁ ∧ Fr h₀ env.locals h₁ m₁ ∧ News h₀ env.locals h₁ nx ∧ J m m₁ nx := by
      rintro ⟨h₄, tk₄, m₄, nx₄, rfl, F₄, N₄, n', hn', hJ₄⟩
      exact ⟨n', hn', h₄, tk₄, m₄, nx₄, rfl, htk₃, F₄, N₄, hJ₄⟩
    cases f with
    | next => exact next h₃
    | cont => exact next h₃
    | brk => exact h₃
    | ret v => exact h₃
end
end Mine
open PySem PySem.W PyProof.Rows
set_option Elab.async false
set_option maxRecDepth 100000
namespace Mine
section
open LCg
variable {prog : Program} {w : World} {A : Around} {h₀ : Heap} {L : Addr} {m : Str → Option Value} {env : Env} {elt ct : PySem.Expr} {x : Str} {scope : Scope} {cl : List (Str × Addr)} {s : Shared} {S : List (Addr × Obj) → Prop} {Fin : List Value → List (Addr × Obj) → Prop} {news : List (Addr × Obj)}
theorem rest_rows {vs : List Value} {rs : List RowT} (hSn : S news) (hR : RowsIn news vs rs)
    (turn : ∀ Tp nT (r : RowT) t1 t2 t3 I oI C oC D m₂ ys h tk (E' : Value → Shared → Prop), (Tp, ({ cls := .type "tuple", data := .seq [Value.int r.1 t1, Value.str r.2.1 t2, Value.str r.2.2 t3].toArray nT } : Obj)) ∈ news → NsObj oC m₂ → m₂ x = some (.ref Tp) → Fr h₀ L h m → News h₀ L h ((I, oI) :: (C, oC) :: (D, lst ys) :: news) →
      wpAny (model prog w) A (eval elt (compEnvC scope cl C env)) (Back h₀ L m ((I, oI) :: (C, oC) :: (D, lst ys) :: news) { s with heap := h, toks := tk } (fun _ => .int r.1 t1)) E' { s with heap := h, toks := tk })
    (fin : ∀ ys, IntsAre ys (rs.map (·.1)) → Fin ys news) : CompRest prog w A h₀ L m env elt x scope cl s S (fun i v => vs.toArray[i]? = some v) Fin vs.toArray.size 0 [] news := by
  have key : ∀ (j i : Nat) (ys : List Value), i + j = vs.length → IntsAre ys ((rs.take i).map (·.1)) → CompRest prog w A h₀ L m env elt x scope cl s S (fun i v => vs.toArray[i]? = some v) Fin j i ys news := by
    intro j
    induction j with
    | zero =>
      intro i ys hi hy
      have e : i = rs.length := by rw [← hR.length]; omega
      subst e
      rw [List.take_length] at hy
      exact CompRest.zero (fin ys hy)
    | succ j ih =>
      intro i ys hi hy
      refine CompRest.succ ?_
      intro v I oI C oC D m₂ h tk E' hv hC hx F N off ne
      obtain ⟨r, hr, Tp, nT, t1, t2, t3, rfl, hT⟩ := hR.get (show vs[i]? = some v by simpa using hv)
      refine wpAny_mono (turn Tp nT r t1 t2 t3 I oI C oC D m₂ ys h tk E' hT hC hx F N) (fun v s₂ hq => ?_) fun _ _ e => e
      obtain ⟨t', h', tk', rfl, rfl, F', N'⟩ := hq
      refine ⟨h', tk', news, rfl, F', N', off, hSn, ?_⟩
      refine ih (i + 1) _ (by omega) ?_
      rw [take_next (fun r : RowT => r.1) hr]
      exact hy.append (.cons _ _ .nil)
  have := key vs.length 0 [] (by omega) .nil
  simpa using this
/-- what a test ends in -/
def TestBack (h₀ : Heap) (L : Addr) (m : Str → Option Value) (news : List (Addr × Obj)) (s : Shared) (b : Bool) (ok : Bool) (s' : Shared) : Prop :=
  ok = b ∧ ∃ h' tk', s' = { s with heap := h', toks := tk' } ∧ Fr h₀ L h' m ∧ News h₀ L h' news
theorem rest_filter {vs : List Value} {ns : List Int} (pz : Int → Bool) (hSn : S news) (hi : IntsAre vs ns)
    (turn : ∀ k t I oI C oC D m₂ ys h tk (E' : Value → Shared → Prop), NsObj oC m₂ → m₂ x = some (.int k t) → Fr h₀ L h m → News h₀ L h ((I, oI) :: (C, oC) :: (D, lst ys) :: news) →
      wpAny (model prog w) A (isTrue ct (compEnvC scope cl C env) (eval ct (compEnvC scope cl C env))) (TestBack h₀ L m ((I, oI) :: (C, oC) :: (D, lst ys) :: news) { s with heap := h, toks := tk } (pz k)) E' { s with heap := h, toks := tk })
    (turn2 : ∀ k t I oI C oC D m₂ ys h tk (E' : Value → Shared → Prop), NsObj oC m₂ → m₂ x = some (.int k t) → Fr h₀ L h m → News h₀ L h ((I, oI) :: (C, oC) :: (D, lst ys) :: news) →
      wpAny (model prog w) A (eval elt (compEnvC scope cl C env)) (Back h₀ L m ((I, oI) :: (C, oC) :: (D, lst ys) :: news) { s with heap := h, toks := tk } (fun _ => .int k t)) E' { s with heap := h, toks := tk })
    (fin : ∀ ys, IntsAre ys (ns.filter pz) → Fin ys news) : LCt.CompRestT prog w A h₀ L m env ct elt x scope cl s S (fun i v => vs.toArray[i]? = some v) Fin vs.toArray.size 0 [] news := by
  have key : ∀ (j i : Nat) (ys : List Value), i + j = vs.length → IntsAre ys ((ns.take i).filter pz) → LCt.CompRestT prog w A h₀ L m env ct elt x scope cl s S (fun i v => vs.toArray[i]? = some v) Fin j i ys news := by
    intro j
    induction j with
    | zero =>
      intro i ys hil hy
      have e : i = ns.length := by rw [← hi.length]; omega
      subst e
      rw [List.take_length] at hy
      exact LCt.CompRestT.zero (fin ys hy)
    | succ j ih =>
      intro i ys hil hy
      refine LCt.CompRestT.succ ?_
      intro v I oI C oC D m₂ h tk E' hv hC hx F N off ne
      obtain ⟨k, t, rfl, hk⟩ := hi.at i v (by simpa using hv)
      have hnext : (ns.take (i + 1)).filter pz = (ns.take i).filter pz ++ (if pz k = true then [k] else []) := by
        rw [List.take_add_one, hk, List.filter_append]
        cases hb : pz k <;> simp [hb]
      refine wpAny_mono (turn k t I oI C oC D m₂ ys h tk E' hC hx F N) (fun ok s₂ hq => ?_) fun _ _ e => e
      obtain ⟨rfl, h', tk', rfl, F', N'⟩ := hq
      split
      · rename_i hb
        rw [if_pos hb] at hnext
        refine wpAny_mono (turn2 k t I oI C oC D m₂ ys h' tk' E' hC hx F' N') (fun v s₃ hq => ?_) fun _ _ e => e
        obtain ⟨t', h2, tk2, rfl, rfl, F2, N2⟩ := hq
        refine ⟨h2, tk2, news, rfl, F2, N2, off, hSn, ?_⟩
        refine ih (i + 1) _ (by omega) ?_
        rw [hnext]
        exact hy.append (.cons _ _ .nil)
      · rename_i hb
        rw [if_neg hb, List.append_nil] at hnext
        refine ⟨h', tk', news, rfl, F', N', off, hSn, ?_⟩
        refine ih (i + 1) _ (by omega) ?_
        rw [hnext]
        exact hy
  have := key vs.length 0 [] (by omega) .nil
  simpa using this
end
/-- the depths that the law tells -/
def liveL (ls : List Int) : List Int := ls.foldl (fun live lv => live.filter (fun o => decide (o < lv)) ++ [lv]) []
def depL (ls : List Int) : List Int := (List.range ls.length).map fun i => ((liveL (ls.take (i + 1))).length : Int)
theorem liveL_snoc (ls : List Int) (lv : Int) : liveL (ls ++ [lv]) = (liveL ls).filter (fun o => decide (o < lv)) ++ [lv] := by
  unfold liveL
  rw [List.foldl_append]; rfl
theorem live_fold (ls : List Int) : ∀ init : List Int, (ls.foldl (fun live lv => live.filter (fun o => decide (o < lv)) ++ [lv]) init).length ≤ init.length + ls.length := by
  induction ls with
  | nil => intro init; exact Nat.le_refl _
  | cons lv r ih =>
    intro init
    refine Nat.le_trans (ih _) ?_
    have := List.length_filter_le (fun o => decide (o < lv)) init
    simp only [List.length_append, List.length_cons, List.length_nil]
    omega
theorem liveL_length (ls : List Int) : (liveL ls).length ≤ ls.length := by
  have := live_fold ls []
  rw [List.length_nil, Nat.zero_add] at this
  exact this
def DepOk (prog : Program) (w : World) (K : Frag) (p : Program) (loose : List Str) (mean : ExcName → Option Value) (mg mb : Str → Option Value) (f : Addr) : Prop :=
  ∀ (dp un : Nat) (gd : Option (List Code)) (cn : Str) (cs : Scope) (a : Addr) (ccd : Value) (cl : List (Str × Addr)) (outer : List Env) (A₀ : Around) (base h₀ : Heap) (L : Addr) (m : Str → Option Value) (news : List (Addr × Obj)) (s : Shared) (l : Addr) (us : List Value) (cu : Nat) (ls : List Int) (Q E : Value → Shared → Prop),
    Below A₀ base outer h₀ → Fr h₀ L s.heap m → K.In h₀ → News h₀ L s.heap news → Top p loose mean mg mb h₀ → cs.kind = .function →
    (l, listOf us.toArray cu) ∈ news → IntsAre us ls → ls.length ≤ 14 → dp + 1 < recursionLimit → un + 40 < cLine →
    (∀ D vs c h' tk', Fr h₀ L h' m → News h₀ L h' ((D, listOf vs.toArray c) :: news) → IntsAre vs (depL ls) → Q (.ref D) { s with heap := h', toks := tk' }) →
    wpAny (model prog w) (ktrTop dp un gd cn cs L a ccd cl outer) (call (.ref f) [.ref l]) Q E s
theorem dep_use {prog : Program} {w : World} {K : Frag} {p : Program} {loose : List Str} {mean : ExcName → Option Value} {mg mb : Str → Option Value} {f : Addr} {dp un : Nat} {gd : Option (List Code)} {cn : Str} {cs : Scope} {a : Addr} {ccd : Value} {cl : List (Str × Addr)} {outer : List Env} {A₀ : Around} {base h₀ : Heap} {L : Addr} {m : Str → Option Value} {news : List (Addr × Obj)} {s : Shared} {l : Addr} {us : List Value} {cu : Nat} {ls : List Int} {Q E : Value → Shared → Prop}
    (C : DepOk prog w K p loose mean mg mb f) (B : Below A₀ base outer h₀) (F : Fr h₀ L s.heap m) (X : K.In h₀) (N : News h₀ L s.heap news) (T : Top p loose mean mg mb h₀) (hk : cs.kind = .function)
    (hl : (l, listOf us.toArray cu) ∈ news) (hi : IntsAre us ls) (hlen : ls.length ≤ 14) (hd : dp + 1 < recursionLimit) (hu : un + 40 < cLine)
    (ret : ∀ D vs c h' tk', Fr h₀ L h' m → News h₀ L h' ((D, listOf vs.toArray c) :: news) → IntsAre vs (depL ls) → Q (.ref D) { s with heap := h', toks := tk' }) :
    wpAny (model prog w) (ktrTop dp un gd cn cs L a ccd cl outer) (call (.ref f) [.ref l]) Q E s :=
  C _ _ _ _ _ _ _ _ _ _ _ _ _ _ _ _ _ _ _ _ _ _ B F X N T hk hl hi hlen hd hu ret
theorem envLocC {name : Str} {scope : Scope} {L a : Addr} {cd : Value} : (envOfC name scope L a cd).locals = L := rfl
theorem range_snocI (f : Nat → Int) (i : Nat) : (List.range (i + 1)).map f = (List.range i).map f ++ [f i] := by rw [List.range_succ, List.map_append]; rfl
/-- what the loop of _law_depths keeps -/
def K4 (ls : List Int) (Dp Cc : Addr) (news : List (Addr × Obj)) (i : Nat) (m : Str → Option Value) (nx : List (Addr × Obj)) : Prop :=
  ∃ Lv vl cl vd cd oc, nx = (Lv, listOf vl.toArray cl) :: (Dp, listOf vd.toArray cd) :: (Cc, oc) :: news ∧ IntsAre vl (liveL (ls.take i)) ∧ IntsAre vd ((List.range i).map fun i => ((liveL (ls.take (i + 1))).length : Int)) ∧ (∃ x, oc.data = .cell x) ∧
    (@Ne Nat Lv Dp) ∧ (@Ne Nat Lv Cc) ∧ m (Str.ofString "live") = some (.ref Lv) ∧ m (Str.ofString "depths") = some (.ref Dp)
theorem k4_turn {h₀ : Heap} {L I Ln Dp Cc : Addr} {o oc : Obj} {x y z : Addr × Obj} {s₁ : Shared} {Q : Flow → Shared → Prop} {h' : Heap} {tk : Nat} {m' : Str → Option Value} {ls : List Int} {news : List (Addr × Obj)} {i cl cd : Nat} {lv k : Int} {t : Tok} {un vd : List Value} {xc : Option Value}
    (hI : ∀ p ∈ news, p.1 ≠ I) (hD : @Ne Nat Dp I) (hC : @Ne Nat Cc I) (hL : @Ne Nat Ln I) (hlv : ls[i]? = some lv)
    (hun : IntsAre un ((liveL (ls.take i)).filter (fun o => decide (o < lv)) ++ [lv])) (hvd : IntsAre vd ((List.range i).map fun i => ((liveL (ls.take (i + 1))).length : Int))) (hk : k = (un.length : Int)) (hoc : oc.data = .cell xc)
    (F : Fr h₀ L h' m') (N : News h₀ L h' ((Ln, listOf un.toArray cl) :: x :: y :: (I, o) :: z :: (Dp, listOf (vd ++ [Value.int k t]).toArray cd) :: (Cc, oc) :: news))
    (hn1 : @Ne Nat Ln Dp) (hn2 : @Ne Nat Ln Cc) (h1 : m' (Str.ofString "live") = some (.ref Ln)) (h2 : m' (Str.ofString "depths") = some (.ref Dp)) :
    TurnPost h₀ L (K4 ls Dp Cc news (i + 1)) I o s₁ Q .next { s₁ with heap := h', toks := tk } := by
  have e : liveL (ls.take (i + 1)) = (liveL (ls.take i)).filter (fun o => decide (o < lv)) ++ [lv] := by
    rw [List.take_add_one, hlv]
    exact liveL_snoc _ _
  refine ⟨h', tk, m', (Ln, listOf un.toArray cl) :: (Dp, listOf (vd ++ [Value.int k t]).toArray cd) :: (Cc, oc) :: news, rfl, F, ?_, ?_, Ln, un, cl, _, cd, oc, rfl, by rw [e]; exact hun, ?_, ⟨xc, hoc⟩, hn1, hn2, h1, h2⟩
  · intro p hp
    refine N p ?_
    simp only [List.mem_cons] at hp ⊢
    rcases hp with h | h | h | h | h <;> simp only [h, true_or, or_true]
  · intro p hp
    simp only [List.mem_cons] at hp
    rcases hp with h | h | h | h
    · rw [h]; exact hL
    · rw [h]; exact hD
    · rw [h]; exact hC
    · exact hI p h
  · rw [range_snocI]
    refine hvd.append ?_
    rw [e, ← hun.length, ← hk]
    exact .cons _ _ .nil
end Mine
open PySem PySem.W PyProof.Rows Mine
set_option Elab.async false
set_option maxRecDepth 100000
namespace Mine2
local macro_rules | `(tactic| cell_enter) => `(tactic| (refine' code_def ?k1 ?k2 ?k3 ?k4 ?k5 ?kA ?kF ?kK ?k6 ?k7 ?k8 ?k9 ?kB ?_ ?c2 ?c3 ?c4 ?c5; (case kA => exact rfl); (case kF => exact rfl); (case kK => assumption); (case k1 => k_asm); (case k2 => k_asm); (case k3 => k_asm); (case k4 => k_asm); (case k5 => k_asm); (case k6 => k_is); (case k7 => k_is); (case k8 => ktr_room); (case k9 => first | exact BindsTo.of_eq rfl | exact binds_K (by k_in) rfl (by k_is) rfl rfl rfl); (case c5 => decide); (case kB => exact locs rfl); (case c2 => exact rfl); (case c3 => exact rfl); (case c4 => exact rfl); k_whole; intro g' L' h' FG' F' N' B' X' T'; (try dsimp only); (try k_lift B')))
local macro_rules | `(tactic| walk_at "execs cons") => `(tactic| ((refine gen_toks (by first | exact Nat.succ_pos _ | assumption | omega) ?_; intro tk9 htk9); (with_reducible refine wpAny_execs_cons ?_); try dsimp only))
local macro_rules | `(tactic| ktr_rel) => `(tactic| first | assumption | exact List.Mem.head _ | (refine List.Mem.tail _ ?_; ktr_rel))
local macro_rules | `(tactic| walk_at "truthy ref") => `(tactic| first | (refine' lt_truthy_snoc ?N ?m ?z ?_; (case N => assumption); (case m => ktr_rel); (case z => omega)) | (refine' lt_truthy_nil ?N ?m ?_; (case N => assumption); (case m => ktr_rel)) | (refine' lt_truthy ?N ?m ?z ?_; (case N => assumption); (case m => ktr_rel); (case z => first | omega | (simp only [List.length_append, List.length_cons, List.length_nil]; omega))))
local macro_rules | `(tactic| tb_rel) => `(tactic| first | assumption | exact Upd.head (by assumption) | exact Upd.tail (by assumption) (Upd.head (by assumption)) | exact Upd.tail (by assumption) (Upd.tail (by assumption) (Upd.head (by assumption))) | k_upd)
local macro_rules | `(tactic| walk_at "call builtin:list.append") => `(tactic| (refine' lt_append ?F ?N ?U ?z ?_; (case F => assumption); (case N => assumption); (case U => tb_rel); (case z => first | omega | (simp only [List.length_append, List.length_cons, List.length_nil]; omega)); intro h' F' N'))
local macro_rules | `(tactic| walk_at "call builtin:list.pop") => `(tactic| (refine' lt_pop ?F ?N ?U ?z ?_; (case F => assumption); (case N => assumption); (case U => tb_rel); (case z => first | omega | (simp only [List.length_append, List.length_cons, List.length_nil]; omega)); intro h' F' N'))
local macro_rules | `(tactic| walk_at "subscriptTail") => `(tactic| ((with_reducible show wpAny _ _ (subscriptTail _ _ (Value.ref _) (Value.int _ _)) _ _ _); (refine' lt_last ?N ?m ?z ?_ ?s; (case N => assumption); (case m => ktr_rel); (case z => first | assumption | omega); (case s => with_unfolding_all rfl))))
local macro_rules | `(tactic| walk_at "last exec While") => `(tactic| refine halt ?_)
local macro_rules | `(tactic| walk_at "exec While") => `(tactic| refine halt ?_)
local macro_rules | `(tactic| walk_at "call builtin:len") => `(tactic| ((with_reducible show wpAny _ _ (call (Value.builtin "len") [Value.ref _]) _ _ _); (refine' lt_len ?N ?m ?z ?_; (case N => assumption); (case m => ktr_rel); (case z => first | omega | (simp only [List.length_append, List.length_cons, List.length_nil]; omega)))))
local macro_rules | `(tactic| walk_at "getMethod ref") => `(tactic| ((with_reducible show wpAny _ _ (getMethod (Value.ref _) (PySem.Str.ofString "append") _) _ _ _); k_dflt (refine' kl_method ?N ?m PySem.F.slot_list_append PySem.F.type_list_append ?_; (case N => assumption); (case m => ktr_rel))))
local macro_rules | `(tactic| walk_at "exec For Name Call cons nil") => `(tactic| refine halt ?_)
local macro_rules | `(tactic| walk_at "CompSrc") => `(tactic| refine halt ?_)
local macro_rules | `(tactic| walk_at "exec Assign cons ListComp") => `(tactic| refine halt ?_)
local macro_rules | `(tactic| walk_at "exec For") => `(tactic| refine halt ?_)
local macro_rules | `(tactic| walk_at "exec For Name Name cons cons nil") => `(tactic| refine halt ?_)
local macro_rules | `(tactic| walk_at "eval ListComp") => `(tactic| refine halt ?_)
local macro_rules | `(tactic| walk_at "CompSrcT") => `(tactic| refine halt ?_)
local macro_rules | `(tactic| walk_at "call builtin:list.append") => `(tactic| refine halt ?_)
local macro_rules | `(tactic| walk_at "binaryOp Add ref ref") => `(tactic| refine halt ?_)
set_option maxHeartbeats 1000000 in
theorem dep_ok (w : World) (p : Program) (loose : List Str) (mean : ExcName → Option Value) (mg mb : Str → Option Value) :
    DepOk Challenge.rw_ci0010_02.row.prog w (hd.heap_39 w.params) p loose mean mg mb 41 := by
  k_fill
  unfold DepOk
  intro dp un gd cn cs a ccd cl outer A₀ base h₀ L m news s l us cu ls Q E B F X N T hk hl hi hlen hd hu hret
  refine wpAny_call ?_
  k_dflt (refine' code_defC ?k1 ?k2 ?k3 ?k4 ?k5 ?kA ?kF ?kK ?k6 ?k7 ?k8 ?k9 ?kB ?kD ?_ ?c2 ?c3 ?c4; (case kA => exact rfl); (case kF => exact rfl); (case kK => assumption); (case k1 => k_asm); (case k2 => k_asm); (case k3 => k_asm); (case k4 => k_asm); (case k5 => k_asm); (case k6 => k_is); (case k7 => k_is); (case k8 => ktr_room); (case k9 => first | exact BindsTo.of_eq rfl | exact binds_K (by k_in) rfl (by k_is) rfl rfl rfl); (case kB => exact rfl); (case kD => decide +kernel); (case c2 => exact rfl); (case c3 => exact rfl); (case c4 => exact rfl); k_whole; intro g' L' h' tk' cells' FG' F' N' Y' B' X' T' l1; (try k_lt l1); k_cells Y'; (try simp only [List.cons_append, List.nil_append] at N'); (try dsimp only); (try k_lift B'))
  k_steps
  refine unhalt ?_
  rename (∀ p ∈ news, p.1 < L') => lL
  rename (_ < _ ∧ L' + 1 < _ ∧ AllLt _ news) => l3
  rename (L' + 1 < _ ∧ AllLt _ news) => l2
  refine wpAny_For ?_
  k_steps
  rename Fr _ _ _ _ => F9
  rename News _ _ _ _ => N9
  refine loop_list0 (l := l) (vs := us) (nn := cu) (J := K4 ls _ (L' + 1) news) rfl F9 N9 ⟨_, [], 0, [], 0, _, rfl, .nil, .nil, ⟨_, by assumption⟩, by omega, by omega, rfl, rfl⟩
    (fun i m nx ⟨_, _, _, _, _, _, e, _⟩ => e ▸ .tail _ (.tail _ (.tail _ hl))) (fun I l' i v s' Q' E' _ _ hq => wpAny_pure hq) ?_ ?_
  · rintro i v m₁ nx h tk I o hv htk hI ⟨Lv, vl, cl, vd, cd, oc, rfl, hvl, hvd, ⟨xc, hoc⟩, hn1, hn2, hm1, hm2⟩ F N
    simp only [envLocC] at F N
    obtain ⟨lv, tl, rfl, hlv⟩ := hi.at i v hv
    have F := fr_knows [(Str.ofString "live", Value.ref Lv), (Str.ofString "depths", Value.ref _)] F (by
            intro p hp
            simp only [List.mem_cons, List.not_mem_nil, or_false] at hp
            rcases hp with rfl | rfl
            · exact hm1
            · exact hm2)
    simp only [kstB] at F
    have hnc : ∀ p ∈ news, p.1 ≠ L' + 1 := fun p hp => Nat.ne_of_lt (Nat.lt_succ_of_lt (lL p hp))
    have hIc : I ≠ L' + 1 := fun q => hI (L' + 1, oc) (.tail _ (.tail _ (.head _))) q.symm
    refine wpAny_assign_Name (storeX_C F N rfl (UpdF.tail hIc (UpdF.tail hn2 (UpdF.tail (Nat.ne_of_gt l2.1) (UpdF.head hnc)))) hoc ?_)
    intro h4 o4 F4 N4 hd4
    try dsimp only at N4
    try dsimp only
    k_steps
    refine unhalt ?_
    have hvll : vl.length ≤ 14 := by
      have h1 := hvl.length
      have h2 := liveL_length (ls.take i)
      rw [List.length_take] at h2
      omega
    refine LCt.ListComp_T (F₀ := F4) (by with_unfolding_all rfl) (by decide) rfl (by decide) rfl ?_
    k_steps
    refine unhalt ?_
    refine LCt.CompSrcT.ledger rfl F4 N4 (.tail _ (.head _)) (by rw [sizeLine_eq]; show vl.length ≤ _; omega) (fun gg => ?_)
    refine rest_filter (vs := vl) (ns := liveL (ls.take i)) (fun o => decide (o < lv)) (.inr ⟨_, .tail _ (.head _), rfl, _, rfl⟩) hvl ?_ ?_ ?_
    · intro k t I2 oI C2 oC D2 m₂ ys h5 tk5 E5 hC hx F5 N5
      k_steps
      exact ⟨rfl, _, _, rfl, F5, N5⟩
    · intro k t I2 oI C2 oC D2 m₂ ys h5 tk5 E5 hC hx F5 N5
      k_steps
      exact ⟨t, _, _, rfl, rfl, F5, N5⟩
    · intro ys hys
      unfold LCg.FinE
      intro D2 h5 tk5 F5 N5 off5
      dsimp only
      k_steps
      refine unhalt ?_
      rename Fr _ _ _ _ => F6
      rename News _ _ _ _ => N6
      rename (D2 < _ ∧ _) => l5
      have hlvl := liveL_length (ls.take i)
      rw [List.length_take] at hlvl
      refine kmk_add_ints F6 N6 (lt_is N6 (.tail _ (.head _))) (lt_is (vs := [Value.int lv tl]) N6 (.head _)) hys (.cons _ _ .nil) ?_ (by
        have := List.length_filter_le (fun o => decide (o < lv)) (liveL (ls.take i))
        rw [sizeLine_eq]; simp only [List.length_cons, List.length_nil]; omega)
      intro Ln un2 h6 F7 N7 l6 hI6
      have hunl : un2.length ≤ 900 := by
        have h1 := hI6.length
        have := List.length_filter_le (fun o => decide (o < lv)) (liveL (ls.take i))
        simp only [List.length_append, List.length_cons, List.length_nil] at h1
        omega
      have hvdl : vd.length ≤ 14 := by
        have h1 := hvd.length
        simp only [List.length_map, List.length_range] at h1
        have h2 := (List.getElem?_eq_some_iff.mp hlv).1
        omega
      k_steps
      refine unhalt ?_
      rename Fr _ _ _ _ => F8
      rename News _ _ _ _ => N8
      have hDp : ∀ p ∈ (L' + 1, o4) :: news, p.1 ≠ _ := fun p hp => by
        rcases List.mem_cons.mp hp with rfl | hp
        · exact Nat.ne_of_lt l2.1
        · exact allLt_ne l2.2 p hp
      refine lt_append F8 N8 (Upd.tail (Nat.ne_of_gt (l6 _ (.tail _ (.tail _ (.tail _ (.tail _ (.head _))))))) (Upd.tail (Nat.ne_of_gt l5.2.2.2.1) (Upd.tail (fun q => off1_mem off5 _ (.tail _ (.tail _ (.head _))) q.symm) (Upd.tail (fun q => hI _ (.tail _ (.head _)) q.symm) (Upd.tail hn1 (Upd.head hDp)))))) (by omega) ?_
      intro h9 F9 N9
      k_steps
      rename Fr _ _ _ _ => F9
      rename News _ _ _ _ => N9
      exact k4_turn (fun p hp => hI p (.tail _ (.tail _ (.tail _ hp)))) (hI _ (.tail _ (.head _))) (fun q => hIc q.symm) (Nat.ne_of_gt (l6 _ (.tail _ (.tail _ (.head _))))) hlv hI6 hvd rfl hd4 F9 N9
        (Nat.ne_of_gt (l6 _ (.tail _ (.tail _ (.tail _ (.tail _ (.head _))))))) (Nat.ne_of_gt (l6 _ (.tail _ (.tail _ (.tail _ (.tail _ (.tail _ (.head _)))))))) rfl rfl
  · rintro m₁ nx h tk htk ⟨Lv, vl, cl, vd, cd, oc, rfl, hvl, hvd, ⟨xc, hoc⟩, hn1, hn2, hm1, hm2⟩ F N
    simp only [envLocC] at F N
    have F := fr_knows [(Str.ofString "live", Value.ref Lv), (Str.ofString "depths", Value.ref _)] F (by
            intro p hp
            simp only [List.mem_cons, List.not_mem_nil, or_false] at hp
            rcases hp with rfl | rfl
            · exact hm1
            · exact hm2)
    simp only [kstB] at F
    rw [hi.length] at hvd
    dsimp only
    k_steps
    rename Fr h₀ _ _ _ => kF
    rename News h₀ _ _ _ => kN
    refine hret _ vd cd _ _ kF ?_ hvd
    intro p hp
    refine kN p ?_
    rcases List.mem_cons.mp hp with rfl | hp
    · exact .tail _ (.head _)
    · exact .tail _ (.tail _ (.tail _ hp))
end Mine2
open PySem PySem.W PyProof.Rows
set_option Elab.async false
set_option maxRecDepth 100000
namespace Mine
/-- what _law_list tells from place k at depth d -/
inductive Lw (n : Nat) (D : Nat → Nat) (it : Nat → List Nat) : Nat → Nat → List Nat → Nat → Prop
  | stop {k d : Nat} : ¬ (k < n ∧ D (k + 1) = d) → Lw n D it k d (tl sUlEnd) k
  | flat {k d : Nat} {R : List Nat} {k' : Nat} : k < n → D (k + 1) = d → ¬ (k + 1 < n ∧ D (k + 2) > d) → Lw n D it (k + 1) d R k' → Lw n D it k d (tl sLi ++ it k ++ tl sEnd ++ R) k'
  | deep {k d : Nat} {R1 R2 : List Nat} {k1 k2 : Nat} : k < n → D (k + 1) = d → k + 1 < n → D (k + 2) > d → Lw n D it (k + 1) (d + 1) R1 k1 → Lw n D it k1 d R2 k2 → Lw n D it k d (tl sLi ++ it k ++ tl sNl ++ tl sUl ++ R1 ++ tl sEnd ++ R2) k2
theorem lw_kf {lev : Nat → Int} {n : Nat} {it : Nat → List Nat} {k d : Nat} {R : List Nat} {k' : Nat} (h : Lw n (depS lev) it k d R k') :
    0 < d → k ≤ n → (k < n → depS lev (k + 1) ≤ d) → k' ≤ n ∧ (k' < n → depS lev (k' + 1) < d) ∧ Kf (depS lev) it n k d = R ++ (if d = 1 then [] else tl sEnd ++ Kf (depS lev) it n k' (d - 1)) := by
  induction h with
  | @stop k d hs =>
    intro hd hk hb
    refine ⟨hk, fun h => ?_, ?_⟩
    · have := hb h
      have h2 : depS lev (k + 1) ≠ d := fun e => hs ⟨h, e⟩
      omega
    · obtain ⟨e, rfl⟩ : ∃ e, d = e + 1 := ⟨d - 1, by omega⟩
      show (if _ then _ else tl sUlEnd ++ (if e = 0 then [] else _)) = _
      rw [if_neg hs]
      by_cases h0 : e = 0
      · subst h0; simp
      · rw [if_neg h0, if_neg (by omega)]; rfl
  | @flat k d R k' h1 h2 h3 _ ih =>
    intro hd hk hb
    have hb' : k + 1 < n → depS lev (k + 1 + 1) ≤ d := fun h => Nat.not_lt.mp fun q => h3 ⟨h, q⟩
    obtain ⟨e1, e2, e3⟩ := ih hd (by omega) hb'
    refine ⟨e1, e2, ?_⟩
    obtain ⟨e, rfl⟩ : ∃ e, d = e + 1 := ⟨d - 1, by omega⟩
    have hk' : Kf (depS lev) it n k (e + 1) = tl sLi ++ it k ++ Wf (depS lev) it (n - (k + 1)) (k + 1) := if_pos ⟨h1, h2⟩
    rw [hk', wf_stay (by omega) (by rw [h2]; exact hb'), h2, xf_kf (dep_pos lev _) _ hd hb', e3]
    simp only [List.append_assoc]
  | @deep k d R1 R2 k1 k2 h1 h2 h3 h4 _ _ ih1 ih2 =>
    intro hd hk hb
    have hgt : depS lev (k + 1) < depS lev (k + 1 + 1) := by rw [h2]; exact h4
    have heq := par_self hgt
    rw [h2] at heq
    obtain ⟨a1, a2, a3⟩ := ih1 (by omega) (by omega) (fun _ => by omega)
    obtain ⟨b1, b2, b3⟩ := ih2 hd a1 (fun h => by have := a2 h; omega)
    refine ⟨b1, b2, ?_⟩
    obtain ⟨e, rfl⟩ : ∃ e, d = e + 1 := ⟨d - 1, by omega⟩
    have hk' : Kf (depS lev) it n k (e + 1) = tl sLi ++ it k ++ Wf (depS lev) it (n - (k + 1)) (k + 1) := if_pos ⟨h1, h2⟩
    have hk2 : Kf (depS lev) it n (k + 1) (e + 1 + 1) = tl sLi ++ it (k + 1) ++ Wf (depS lev) it (n - (k + 1 + 1)) (k + 1 + 1) := if_pos ⟨h3, heq⟩
    rw [if_neg (by omega)] at a3
    rw [hk', wf_down h3 hgt, down_is]
    rw [hk2] at a3
    have : tl sNl ++ tl sUl ++ (tl sLi ++ it (k + 1) ++ Wf (depS lev) it (n - (k + 1 + 1)) (k + 1 + 1)) = tl sNl ++ tl sUl ++ (R1 ++ (tl sEnd ++ Kf (depS lev) it n k1 (e + 1 + 1 - 1))) := by rw [a3]
    rw [show e + 1 + 1 - 1 = e + 1 from rfl, b3] at this
    simp only [List.append_assoc] at this ⊢
    rw [this]
theorem lw_small {n : Nat} {D : Nat → Nat} {it : Nat → List Nat} {k d : Nat} {R : List Nat} {k' : Nat} (h : Lw n D it k d R k') (hi : ∀ k, k < n → (it k).length ≤ 100) : k ≤ k' ∧ R.length ≤ 200 * (k' - k) + 6 := by
  have e1 : (tl sUlEnd).length = 6 := by decide +kernel
  have e2 : (tl sLi).length = 4 := by decide +kernel
  have e3 : (tl sEnd).length = 6 := by decide +kernel
  have e4 : (tl sNl).length = 1 := by decide +kernel
  have e5 : (tl sUl).length = 5 := by decide +kernel
  induction h with
  | stop _ => exact ⟨Nat.le_refl _, by omega⟩
  | @flat k d R k' h1 _ _ _ ih =>
    have := hi k h1
    simp only [List.length_append]
    omega
  | @deep k d R1 R2 k1 k2 h1 _ _ _ _ _ ih1 ih2 =>
    have := hi k h1
    simp only [List.length_append]
    omega
end Mine
open PySem PySem.W PyProof.Rows
set_option Elab.async false
set_option maxRecDepth 100000
namespace Mine
theorem falls_all {x : Int} : ∀ {r : List Int}, Falls (x :: r) → ∀ y ∈ r, y < x
  | [], _, y, h => by cases h
  | z :: r, hf, y, h => by
    have h1 : z < x := hf.1
    rcases List.mem_cons.mp h with rfl | h
    · exact h1
    · have := falls_all (falls_tail hf) y h
      omega
theorem falls_filter {v : Int} : ∀ {l : List Int}, Falls l → l.filter (fun o => decide (o < v)) = l.dropWhile (fun o => decide (o ≥ v))
  | [], _ => rfl
  | x :: r, hf => by
    by_cases h : x ≥ v
    · rw [List.dropWhile_cons_of_pos (by simpa using h), List.filter_cons_of_neg (by simpa using h)]
      exact falls_filter (falls_tail hf)
    · rw [List.dropWhile_cons_of_neg (by simpa using h), List.filter_cons_of_pos (by simp; omega)]
      congr 1
      rw [List.filter_eq_self]
      intro y hy
      have := falls_all hf y hy
      simp only [decide_eq_true_eq]
      omega
theorem live_chain (ls : List Int) : ∀ i, i ≤ ls.length → liveL (ls.take i) = (chainF (fun k => ls.getD k 0) i).reverse
  | 0, _ => by rw [chain_zero]; rfl
  | i + 1, h => by
    have hi : ls[i]? = some (ls.getD i 0) := by
      rw [List.getD_eq_getElem?_getD, List.getElem?_eq_getElem (by omega)]; rfl
    rw [List.take_add_one, hi]
    show liveL (ls.take i ++ [ls.getD i 0]) = _
    rw [liveL_snoc, live_chain ls i (by omega), List.filter_reverse, falls_filter (chain_falls _ i), chain_drop, chain_succ, List.reverse_cons]
    rfl
theorem depL_is (ls : List Int) : depL ls = (List.range ls.length).map fun i => (depS (fun k => ls.getD k 0) (i + 1) : Int) := by
  unfold depL
  refine List.map_congr_left fun i hi => ?_
  rw [List.mem_range] at hi
  rw [live_chain ls (i + 1) hi, List.length_reverse]
  rfl
/-- the rendered rows are what _law_list tells -/
theorem law2_end {rs : List RowT} (hn : rs ≠ []) {R : List Nat} {k' : Nat} {items : List Str} (hitems : items = rs.map fun r => itemS r.2.1 r.2.2)
    (h : Lw rs.length (depS (fun k => (rs.map (·.1)).getD k 0)) (fun k => tl (items.getD k (Str.ofString ""))) 0 1 R k') : tl (renS rs) = tl sUl ++ R := by
  have hpos : 0 < rs.length := List.length_pos_iff.mpr hn
  have hD1 : depS (fun k => (rs.map (·.1)).getD k 0) 1 = 1 := by
    rw [show (1 : Nat) = 0 + 1 from rfl, dep_succ, show parF (fun k => (rs.map (·.1)).getD k 0) 0 = 0 from rfl, dep_zero]
  obtain ⟨_, _, hk⟩ := lw_kf h (by omega) (Nat.zero_le _) (fun _ => by rw [hD1]; exact Nat.le_refl _)
  have hr := ren_scan (fun k => (rs.map (·.1)).getD k 0) rs (fun k => items.getD k (Str.ofString ""))
    (fun i hi => by show _ = (rs.map (·.1)).getD i 0; rw [List.getD_eq_getElem?_getD, List.getElem?_map, List.getElem?_eq_getElem hi]; rfl)
    (fun i hi => by show _ = items.getD i (Str.ofString ""); rw [hitems, List.getD_eq_getElem?_getD, List.getElem?_map, List.getElem?_eq_getElem hi]; rfl) hpos
  have hk0 : Kf (depS (fun k => (rs.map (·.1)).getD k 0)) (fun k => tl (items.getD k (Str.ofString ""))) rs.length 0 (0 + 1) = tl sLi ++ tl (items.getD 0 (Str.ofString "")) ++ Wf (depS (fun k => (rs.map (·.1)).getD k 0)) (fun k => tl (items.getD k (Str.ofString ""))) (rs.length - 1) 1 := if_pos ⟨hpos, hD1⟩
  rw [if_pos rfl, List.append_nil] at hk
  rw [hr, ← hk, hk0]
  simp only [List.append_assoc]
end Mine
open PySem PySem.W PyProof.Rows
set_option Elab.async false
set_option maxRecDepth 100000
namespace Mine
/-- the contract of _law_list -/
def LwAt (prog : Program) (w : World) (K : Frag) (p : Program) (loose : List Str) (mean : ExcName → Option Value) (mg mb : Str → Option Value) (f : Addr) (n : Nat) (D : Nat → Nat) (items : List Str) (k0 : Nat) : Prop :=
  ∀ (dp un : Nat) (gd : Option (List Code)) (cn : Str) (cs : Scope) (a : Addr) (ccd : Value) (cl : List (Str × Addr)) (outer : List Env) (A₀ : Around) (base h₀ : Heap) (L : Addr) (m : Str → Option Value) (news : List (Addr × Obj)) (s : Shared) (It Dl : Addr) (vi vd : List Value) (ci cd : Nat) (z y : Int) (d : Nat) (tk td : Tok) (Q E : Value → Shared → Prop),
    Below A₀ base outer h₀ → Fr h₀ L s.heap m → K.In h₀ → News h₀ L s.heap news → Top p loose mean mg mb h₀ → cs.kind = .function →
    (It, listOf vi.toArray ci) ∈ news → StrsAre vi items → (Dl, listOf vd.toArray cd) ∈ news → IntsAre vd ((List.range n).map fun i => (D (i + 1) : Int)) →
    z = (k0 : Nat) → y = (d : Nat) → d + (n - k0) ≤ 30 → dp + (n - k0) + 1 < recursionLimit → un + 8 * (n - k0 + 1) + 100 < cLine →
    (∀ (T : Addr) (R : List Nat) (X : Str) (k' : Nat) t1 t2 h' tk', tl X = tl sUl ++ R → Lw n D (fun k => tl (items.getD k (Str.ofString ""))) k0 d R k' → k' ≤ n → Fr h₀ L h' m →
      News h₀ L h' ((T, tupOf [.str X t1, .int (k' : Int) t2]) :: news) → (∀ p ∈ news, p.1 < T) → Q (.ref T) { s with heap := h', toks := tk' }) →
    wpAny (model prog w) (ktrTop dp un gd cn cs L a ccd cl outer) (call (.ref f) [.ref It, .ref Dl, .int z tk, .int y td]) Q E s
theorem lw_use {prog : Program} {w : World} {K : Frag} {p : Program} {loose : List Str} {mean : ExcName → Option Value} {mg mb : Str → Option Value} {f : Addr} {n : Nat} {D : Nat → Nat} {items : List Str} {k0 : Nat} {dp un : Nat} {gd : Option (List Code)} {cn : Str} {cs : Scope} {a : Addr} {ccd : Value} {cl : List (Str × Addr)} {outer : List Env} {A₀ : Around} {base h₀ : Heap} {L : Addr} {m : Str → Option Value} {news : List (Addr × Obj)} {s : Shared} {It Dl : Addr} {vi vd : List Value} {ci cd : Nat} {z y : Int} {d : Nat} {tk td : Tok} {Q E : Value → Shared → Prop}
    (C : LwAt prog w K p loose mean mg mb f n D items k0) (B : Below A₀ base outer h₀) (F : Fr h₀ L s.heap m) (X : K.In h₀) (N : News h₀ L s.heap news) (T : Top p loose mean mg mb h₀) (hk : cs.kind = .function)
    (hI : (It, listOf vi.toArray ci) ∈ news) (hS : StrsAre vi items) (hD : (Dl, listOf vd.toArray cd) ∈ news) (hi : IntsAre vd ((List.range n).map fun i => (D (i + 1) : Int)))
    (hz : z = (k0 : Nat)) (hy : y = (d : Nat)) (hd30 : d + (n - k0) ≤ 30) (hd : dp + (n - k0) + 1 < recursionLimit) (hu : un + 8 * (n - k0 + 1) + 100 < cLine)
    (ret : ∀ (T : Addr) (R : List Nat) (X : Str) (k' : Nat) t1 t2 h' tk', tl X = tl sUl ++ R → Lw n D (fun k => tl (items.getD k (Str.ofString ""))) k0 d R k' → k' ≤ n → Fr h₀ L h' m →
      News h₀ L h' ((T, tupOf [.str X t1, .int (k' : Int) t2]) :: news) → (∀ p ∈ news, p.1 < T) → Q (.ref T) { s with heap := h', toks := tk' }) :
    wpAny (model prog w) (ktrTop dp un gd cn cs L a ccd cl outer) (call (.ref f) [.ref It, .ref Dl, .int z tk, .int y td]) Q E s :=
  C _ _ _ _ _ _ _ _ _ _ _ _ _ _ _ _ _ _ _ _ _ _ _ _ _ _ _ _ _ B F X N T hk hI hS hD hi hz hy hd30 hd hu ret
/-- what the while of _law_list keeps -/
def K5 (n : Nat) (D : Nat → Nat) (items : List Str) (It Dl : Addr) (y : Int) (td : Tok) (k0 d : Nat) (news : List (Addr × Obj)) (q : Nat) (m : Str → Option Value) (nx : List (Addr × Obj)) : Prop :=
  nx = news ∧ ∃ (k : Nat) (Xt : Str) (Rd : List Nat) (tk1 tt : Tok), q = n - k ∧ k0 ≤ k ∧ k ≤ n ∧ tl Xt = tl sUl ++ Rd ∧ Xt.length ≤ 200 * (k - k0) + 5 ∧
      (∀ R k', Lw n D (fun k => tl (items.getD k (Str.ofString ""))) k d R k' → Lw n D (fun k => tl (items.getD k (Str.ofString ""))) k0 d (Rd ++ R) k') ∧
      m (Str.ofString "text") = some (.str Xt tt) ∧ m (Str.ofString "k") = some (.int (k : Int) tk1) ∧ m (Str.ofString "items") = some (.ref It) ∧ m (Str.ofString "depths") = some (.ref Dl) ∧ m (Str.ofString "depth") = some (.int y td)
theorem k5_turn {h₀ : Heap} {L : Addr} {s₁ : Shared} {Q : Flow → Shared → Prop} {h' : Heap} {tk : Nat} {m' : Str → Option Value} {n : Nat} {D : Nat → Nat} {items : List Str} {It Dl : Addr} {y z : Int} {td tk1 tt : Tok} {k0 d k k2 : Nat} {news nx : List (Addr × Obj)} {X2 : Str} {Rd2 : List Nat}
    (hkk : k0 ≤ k) (hk : k < k2) (hk2 : k2 ≤ n) (hz : z = (k2 : Int)) (F : Fr h₀ L h' m') (N : News h₀ L h' nx) (sub : ∀ p ∈ news, p ∈ nx) (hX : tl X2 = tl sUl ++ Rd2) (hXl : X2.length ≤ 200 * (k2 - k0) + 5)
    (hRd : ∀ R k', Lw n D (fun k => tl (items.getD k (Str.ofString ""))) k2 d R k' → Lw n D (fun k => tl (items.getD k (Str.ofString ""))) k0 d (Rd2 ++ R) k')
    (h1 : m' (Str.ofString "text") = some (.str X2 tt)) (h2 : m' (Str.ofString "k") = some (.int z tk1)) (h3 : m' (Str.ofString "items") = some (.ref It)) (h4 : m' (Str.ofString "depths") = some (.ref Dl)) (h5 : m' (Str.ofString "depth") = some (.int y td)) :
    WhilePost h₀ L (fun m' nx' => ∃ n', n' < n - k ∧ K5 n D items It Dl y td k0 d news n' m' nx') s₁ Q .next { s₁ with heap := h', toks := tk } := by
  subst hz
  exact ⟨h', tk, m', news, rfl, F, fun p hp => N p (sub p hp), n - k2, by omega, rfl, k2, X2, Rd2, tk1, tt, rfl, by omega, hk2, hX, hXl, hRd, h1, h2, h3, h4, h5⟩
end Mine
open PySem PySem.W PyProof.Rows Mine
set_option Elab.async false
set_option maxRecDepth 100000
namespace Mine2
local macro_rules | `(tactic| cell_enter) => `(tactic| (refine' code_def ?k1 ?k2 ?k3 ?k4 ?k5 ?kA ?kF ?kK ?k6 ?k7 ?k8 ?k9 ?kB ?_ ?c2 ?c3 ?c4 ?c5; (case kA => exact rfl); (case kF => exact rfl); (case kK => assumption); (case k1 => k_asm); (case k2 => k_asm); (case k3 => k_asm); (case k4 => k_asm); (case k5 => k_asm); (case k6 => k_is); (case k7 => k_is); (case k8 => ktr_room); (case k9 => first | exact BindsTo.of_eq rfl | exact binds_K (by k_in) rfl (by k_is) rfl rfl rfl); (case c5 => decide); (case kB => exact locs rfl); (case c2 => exact rfl); (case c3 => exact rfl); (case c4 => exact rfl); k_whole; intro g' L' h' FG' F' N' B' X' T'; (try dsimp only); (try k_lift B')))
local macro_rules | `(tactic| walk_at "execs cons") => `(tactic| ((refine gen_toks (by first | exact Nat.succ_pos _ | assumption | omega) ?_; intro tk9 htk9); (with_reducible refine wpAny_execs_cons ?_); try dsimp only))
local macro_rules | `(tactic| ktr_rel) => `(tactic| first | assumption | exact List.Mem.head _ | (refine List.Mem.tail _ ?_; ktr_rel))
local macro_rules | `(tactic| walk_at "truthy ref") => `(tactic| first | (refine' lt_truthy_snoc ?N ?m ?z ?_; (case N => assumption); (case m => ktr_rel); (case z => omega)) | (refine' lt_truthy_nil ?N ?m ?_; (case N => assumption); (case m => ktr_rel)) | (refine' lt_truthy ?N ?m ?z ?_; (case N => assumption); (case m => ktr_rel); (case z => first | omega | (simp only [List.length_append, List.length_cons, List.length_nil]; omega))))
local macro_rules | `(tactic| tb_rel) => `(tactic| first | assumption | exact Upd.head (by assumption) | exact Upd.tail (by assumption) (Upd.head (by assumption)) | exact Upd.tail (by assumption) (Upd.tail (by assumption) (Upd.head (by assumption))) | k_upd)
local macro_rules | `(tactic| walk_at "call builtin:list.append") => `(tactic| (refine' lt_append ?F ?N ?U ?z ?_; (case F => assumption); (case N => assumption); (case U => tb_rel); (case z => first | omega | (simp only [List.length_append, List.length_cons, List.length_nil]; omega)); intro h' F' N'))
local macro_rules | `(tactic| walk_at "call builtin:list.pop") => `(tactic| (refine' lt_pop ?F ?N ?U ?z ?_; (case F => assumption); (case N => assumption); (case U => tb_rel); (case z => first | omega | (simp only [List.length_append, List.length_cons, List.length_nil]; omega)); intro h' F' N'))
local macro_rules | `(tactic| walk_at "subscriptTail") => `(tactic| ((with_reducible show wpAny _ _ (subscriptTail _ _ (Value.ref _) (Value.int _ _)) _ _ _); (refine' lt_last ?N ?m ?z ?_ ?s; (case N => assumption); (case m => ktr_rel); (case z => first | assumption | omega); (case s => with_unfolding_all rfl))))
local macro_rules | `(tactic| walk_at "last exec While") => `(tactic| refine halt ?_)
local macro_rules | `(tactic| walk_at "exec While") => `(tactic| refine halt ?_)
local macro_rules | `(tactic| walk_at "call builtin:len") => `(tactic| ((with_reducible show wpAny _ _ (call (Value.builtin "len") [Value.ref _]) _ _ _); (refine' lt_len ?N ?m ?z ?_; (case N => assumption); (case m => ktr_rel); (case z => first | omega | (simp only [List.length_append, List.length_cons, List.length_nil]; omega)))))
local macro_rules | `(tactic| walk_at "getMethod ref") => `(tactic| ((with_reducible show wpAny _ _ (getMethod (Value.ref _) (PySem.Str.ofString "append") _) _ _ _); k_dflt (refine' kl_method ?N ?m PySem.F.slot_list_append PySem.F.type_list_append ?_; (case N => assumption); (case m => ktr_rel))))
local macro_rules | `(tactic| walk_at "exec For Name Call cons nil") => `(tactic| refine halt ?_)
local macro_rules | `(tactic| walk_at "CompSrc") => `(tactic| refine halt ?_)
local macro_rules | `(tactic| walk_at "exec Assign cons ListComp") => `(tactic| refine halt ?_)
local macro_rules | `(tactic| walk_at "call ref") => `(tactic| refine halt ?_)
local macro_rules | `(tactic| walk_at "subscriptTail") => `(tactic| refine halt ?_)
set_option maxHeartbeats 2000000 in
theorem lw_ok (w : World) (p : Program) (loose : List Str) (mean : ExcName → Option Value) (mg mb : Str → Option Value) {n : Nat} {D : Nat → Nat} {items : List Str} (hn : n ≤ 14) (hin : items.length = n) (hsh : ∀ y ∈ items, y.length ≤ 100) : ∀ (d0 k0 : Nat), k0 ≤ n → n - k0 < d0 →
    LwAt Challenge.rw_ci0010_02.row.prog w (hd.heap_39 w.params) p loose mean mg mb 48 n D items k0 := by
  intro d0
  induction d0 with
  | zero => intro k0 _ h; exact absurd h (Nat.not_lt_zero _)
  | succ d0 ih =>
  intro k0 hk0 hd0
  k_fill
  unfold LwAt
  intro dp un gd cn cs a ccd cl outer A₀ base h₀ L m news s It Dl vi vd ci cd z y d tk td Q E B F X N T hk hI hS hDl hi hz hy hd30 hd hu hret
  refine wpAny_call ?_
  k_dflt cell_enter
  k_steps
  refine unhalt ?_
  rename Fr _ _ _ _ => F9
  rename News _ _ _ _ => N9
  have hvil : vi.length ≤ 14 := by have := strs_len hS; omega
  have hvdl : vd.length ≤ 14 := by have := hi.length; simp only [List.length_map, List.length_range] at this; omega
  refine loop_while0 (n₀ := n - k0) (J := K5 n D items It Dl y td k0 d news)
    F9 N9 ⟨rfl, k0, _, [], _, _, rfl, Nat.le_refl _, hk0, by rw [List.append_nil]; rfl, by rw [Nat.sub_self]; decide +kernel, fun R k' h => h, rfl, by rw [← hz]; rfl, rfl, rfl, rfl⟩ ?_
  rintro q m₁ nx h1 tk1 htk1 ⟨rfl, k, Xt, Rd, tk2, tt, rfl, hkk, hkn, hX, hXl, hRd, hm1, hm2, hm3, hm4, hm5⟩ F1 N1
  simp only [envLoc] at F1 N1
  have F1 := fr_knows [(Str.ofString "text", Value.str Xt tt), (Str.ofString "k", Value.int (k : Int) tk2), (Str.ofString "items", Value.ref It), (Str.ofString "depths", Value.ref Dl), (Str.ofString "depth", Value.int y td)] F1 (by
            intro p hp
            simp only [List.mem_cons, List.not_mem_nil, or_false] at hp
            rcases hp with rfl | rfl | rfl | rfl | rfl
            · exact hm1
            · exact hm2
            · exact hm3
            · exact hm4
            · exact hm5)
  simp only [kstB] at F1
  k_steps
  · rename (k : Int) < _ => hklt
    have hkn' : k < n := by have := strs_len hS; omega
    obtain ⟨v, hv⟩ : ∃ v, vd[k]? = some v := ⟨_, List.getElem?_eq_getElem (by have := hi.length; simp only [List.length_map, List.length_range] at this; omega)⟩
    obtain ⟨dk, tdk, rfl, hdk⟩ := hi.at k v hv
    have hdk' : dk = (D (k + 1) : Int) := by
      rw [List.getElem?_map, List.getElem?_range hkn'] at hdk
      exact (Option.some.inj hdk).symm
    refine unhalt (lt_item N1 hDl (by omega) (by omega) (v := .int dk tdk) (by rw [show ((k : Int)).toNat = k from by omega]; exact hv) ?_ (by with_unfolding_all rfl))
    k_steps
    · rename dk = y => hdy
      have hDk : D (k + 1) = d := by omega
      refine unhalt (str_item N1 hI hS (by omega) (by omega) (by omega) hsh ?_ (by with_unfolding_all rfl))
      intro t8 hl8
      rw [show ((k : Int)).toNat = k from by omega] at hl8 ⊢
      have e1 : (Str.ofString "<li>").length = 4 := by decide +kernel
      have e2 : (Str.ofString "</li>\n").length = 6 := by decide +kernel
      k_steps
      · rename (k : Int) + 1 < _ => hk1lt
        have hk1n : k + 1 < n := by have := strs_len hS; omega
        obtain ⟨v2, hv2⟩ : ∃ v, vd[k + 1]? = some v := ⟨_, List.getElem?_eq_getElem (by have := hi.length; simp only [List.length_map, List.length_range] at this; omega)⟩
        obtain ⟨dk2, tdk2, rfl, hdk2⟩ := hi.at (k + 1) v2 hv2
        have hdk2' : dk2 = (D (k + 2) : Int) := by
          rw [List.getElem?_map, List.getElem?_range hk1n] at hdk2
          exact (Option.some.inj hdk2).symm
        rename News _ _ _ _ => N8
        refine unhalt (lt_item N8 hDl (by omega) (by omega) (v := .int dk2 tdk2) (by rw [show ((k : Int) + 1).toNat = k + 1 from by omega]; exact hv2) ?_ (by with_unfolding_all rfl))
        k_steps
        · rename Fr _ _ _ _ => F7
          rename News _ _ _ _ => N7
          rename y < dk2 => hgt
          refine unhalt (lw_use (ih (k + 1) (by omega) (by omega)) (by assumption) F7 (by assumption) N7 (by assumption) rfl hI hS hDl hi (by omega) (d := d + 1) (by omega) (by omega) (by dsimp only [Around.deeper, ktrTop]; omega) (by dsimp only [Around.deeper, ktrTop]; omega) ?_)
          intro T2 R2 X2 k2 t1 t2 h9 tk9 hX2 hLw hk2n F9 N9 lT2
          obtain ⟨hk2k, hR2⟩ := lw_small hLw (fun j hj => by
            show (tl (items.getD j (Str.ofString ""))).length ≤ 100
            rw [show (tl (items.getD j (Str.ofString ""))).length = (items.getD j (Str.ofString "")).length from (Mine.len_list _).symm]
            exact getD_mem_len (by omega) hsh)
          have hX2l : X2.length ≤ 200 * (k2 - (k + 1)) + 11 := by
            have h1 : X2.length = (tl X2).length := Mine.len_list _
            have h2 : (tl sUl).length = 5 := by decide +kernel
            rw [h1, hX2, List.length_append]
            omega
          have e3 : (Str.ofString "\n").length = 1 := by decide +kernel
          k_steps
          rename Fr _ _ _ _ => F8
          rename News _ _ _ _ => N8
          refine k5_turn (k2 := k2) (Rd2 := Rd ++ (tl sLi ++ tl (items.getD k (Str.ofString "")) ++ tl sNl ++ tl sUl ++ R2 ++ tl sEnd)) hkk (by omega) hk2n rfl F8 N8 (fun p hp => .tail _ hp) ?_ ?_ ?_ rfl rfl rfl rfl rfl
          · show (Xt ++ sLi ++ items.getD k (Str.ofString "") ++ sNl ++ X2 ++ sEnd).cps.toList = _
            simp only [list_app]
            show tl Xt ++ _ ++ _ ++ _ ++ tl X2 ++ _ = _
            rw [hX, hX2]
            simp only [List.append_assoc, tl]
          · simp only [Str.length_append]; omega
          · intro R k' h
            have := hRd _ _ (.deep hkn' hDk hk1n (by omega) hLw h)
            simp only [List.append_assoc] at this ⊢
            exact this
        · rename Fr _ _ _ _ => F8
          rename News _ _ _ _ => N8
          refine k5_turn (k2 := k + 1) (Rd2 := Rd ++ (tl sLi ++ tl (items.getD k (Str.ofString "")) ++ tl sEnd)) hkk (by omega) (by omega) (by omega) F8 N8 (fun p hp => hp) ?_ ?_ ?_ rfl rfl rfl rfl rfl
          · show (Xt ++ sLi ++ items.getD k (Str.ofString "") ++ sEnd).cps.toList = _
            simp only [list_app]
            show tl Xt ++ _ ++ _ ++ _ = _
            rw [hX]
            simp only [List.append_assoc, tl]
          · simp only [Str.length_append]; omega
          · intro R k' h
            have hnx : ¬ (k + 1 < n ∧ D (k + 2) > d) := fun h => by omega
            have := hRd _ _ (.flat hkn' hDk hnx h)
            simp only [List.append_assoc] at this ⊢
            exact this
      · rename Fr _ _ _ _ => F8
        rename News _ _ _ _ => N8
        refine k5_turn (k2 := k + 1) (Rd2 := Rd ++ (tl sLi ++ tl (items.getD k (Str.ofString "")) ++ tl sEnd)) hkk (by omega) (by omega) (by omega) F8 N8 (fun p hp => hp) ?_ ?_ ?_ rfl rfl rfl rfl rfl
        · show (Xt ++ sLi ++ items.getD k (Str.ofString "") ++ sEnd).cps.toList = _
          simp only [list_app]
          show tl Xt ++ _ ++ _ ++ _ = _
          rw [hX]
          simp only [List.append_assoc, tl]
        · simp only [Str.length_append]; omega
        · intro R k' h
          have hnx : ¬ (k + 1 < n ∧ D (k + 2) > d) := fun h => by have := strs_len hS; omega
          have := hRd _ _ (.flat hkn' hDk hnx h)
          simp only [List.append_assoc] at this ⊢
          exact this
    · rename dk ≠ y => hdy
      rename Fr h₀ _ _ _ => kF
      rename News h₀ _ _ _ => kN
      rename (∀ p ∈ nx, p.1 < _) => l9
      refine hret _ (Rd ++ tl sUlEnd) _ k _ _ _ _ ?_ (hRd _ _ (.stop fun h => ?_)) hkn kF kN l9
      · show (Xt ++ sUlEnd).cps.toList = _
        rw [list_app]
        show tl Xt ++ _ = _
        rw [hX, List.append_assoc]
      · omega
  · rename Fr h₀ _ _ _ => kF
    rename News h₀ _ _ _ => kN
    rename (∀ p ∈ nx, p.1 < _) => l9
    refine hret _ (Rd ++ tl sUlEnd) _ k _ _ _ _ ?_ (hRd _ _ (.stop fun h => ?_)) hkn kF kN l9
    · show (Xt ++ sUlEnd).cps.toList = _
      rw [list_app]
      show tl Xt ++ _ = _
      rw [hX, List.append_assoc]
    · have := strs_len hS
      omega
end Mine2
open PySem PySem.W PyProof.Rows Mine
set_option Elab.async false
set_option maxRecDepth 100000
namespace Mine
theorem items_short {rs : List RowT} (h : ∀ r ∈ rs, r.2.1.length ≤ 8 ∧ r.2.2.length ≤ 8) : ∀ y ∈ rs.map (fun r => itemS r.2.1 r.2.2), y.length ≤ 100 := by
  intro y hy
  obtain ⟨r, hr, rfl⟩ := List.mem_map.mp hy
  obtain ⟨h1, h2⟩ := h r hr
  have h3 := escS_length r.2.1
  have e1 : (Str.ofString "<a href=\"#").length = 10 := by decide +kernel
  have e2 : (Str.ofString "\">").length = 2 := by decide +kernel
  have e3 : (Str.ofString "</a>").length = 4 := by decide +kernel
  unfold itemS
  simp only [Str.length_append]
  omega
theorem deps_are {vd : List Value} {rs : List RowT} (h : IntsAre vd (depL (rs.map (·.1)))) : IntsAre vd ((List.range rs.length).map fun i => (depS (fun k => (rs.map (·.1)).getD k 0) (i + 1) : Int)) := by
  rw [depL_is, List.length_map] at h
  exact h
end Mine
namespace Mine2
theorem law_lw (w : World) (p : Program) (loose : List Str) (mean : ExcName → Option Value) (mg mb : Str → Option Value) {rs : List RowT} (hrl : rs.length ≤ 14) (hrs : ∀ r ∈ rs, r.2.1.length ≤ 8 ∧ r.2.2.length ≤ 8) :
    LwAt Challenge.rw_ci0010_02.row.prog w (hd.heap_39 w.params) p loose mean mg mb 48 rs.length (depS (fun k => (rs.map (·.1)).getD k 0)) (rs.map (fun r => itemS r.2.1 r.2.2)) 0 :=
  lw_ok w p loose mean mg mb hrl (List.length_map _) (items_short hrs) 15 0 (Nat.zero_le _) (Nat.lt_succ_of_le (Nat.le_trans (Nat.sub_le _ _) hrl))
end Mine2
open PySem PySem.W PyProof.Rows Mine
set_option Elab.async false
set_option maxRecDepth 100000
namespace Mine2
local macro_rules | `(tactic| cell_enter) => `(tactic| (refine' code_def ?k1 ?k2 ?k3 ?k4 ?k5 ?kA ?kF ?kK ?k6 ?k7 ?k8 ?k9 ?kB ?_ ?c2 ?c3 ?c4 ?c5; (case kA => exact rfl); (case kF => exact rfl); (case kK => assumption); (case k1 => k_asm); (case k2 => k_asm); (case k3 => k_asm); (case k4 => k_asm); (case k5 => k_asm); (case k6 => k_is); (case k7 => k_is); (case k8 => ktr_room); (case k9 => first | exact BindsTo.of_eq rfl | exact binds_K (by k_in) rfl (by k_is) rfl rfl rfl); (case c5 => decide); (case kB => exact locs rfl); (case c2 => exact rfl); (case c3 => exact rfl); (case c4 => exact rfl); k_whole; intro g' L' h' FG' F' N' B' X' T'; (try dsimp only); (try k_lift B')))
local macro_rules | `(tactic| walk_at "execs cons") => `(tactic| ((refine gen_toks (by first | exact Nat.succ_pos _ | assumption | omega) ?_; intro tk9 htk9); (with_reducible refine wpAny_execs_cons ?_); try dsimp only))
local macro_rules | `(tactic| ktr_rel) => `(tactic| first | assumption | exact List.Mem.head _ | (refine List.Mem.tail _ ?_; ktr_rel))
local macro_rules | `(tactic| walk_at "truthy ref") => `(tactic| first | (refine' lt_truthy_snoc ?N ?m ?z ?_; (case N => assumption); (case m => ktr_rel); (case z => omega)) | (refine' lt_truthy_nil ?N ?m ?_; (case N => assumption); (case m => ktr_rel)) | (refine' lt_truthy ?N ?m ?z ?_; (case N => assumption); (case m => ktr_rel); (case z => first | omega | (simp only [List.length_append, List.length_cons, List.length_nil]; omega))))
local macro_rules | `(tactic| tb_rel) => `(tactic| first | assumption | exact Upd.head (by assumption) | exact Upd.tail (by assumption) (Upd.head (by assumption)) | exact Upd.tail (by assumption) (Upd.tail (by assumption) (Upd.head (by assumption))) | k_upd)
local macro_rules | `(tactic| walk_at "call builtin:list.append") => `(tactic| (refine' lt_append ?F ?N ?U ?z ?_; (case F => assumption); (case N => assumption); (case U => tb_rel); (case z => first | omega | (simp only [List.length_append, List.length_cons, List.length_nil]; omega)); intro h' F' N'))
local macro_rules | `(tactic| walk_at "call builtin:list.pop") => `(tactic| (refine' lt_pop ?F ?N ?U ?z ?_; (case F => assumption); (case N => assumption); (case U => tb_rel); (case z => first | omega | (simp only [List.length_append, List.length_cons, List.length_nil]; omega)); intro h' F' N'))
local macro_rules | `(tactic| walk_at "subscriptTail") => `(tactic| ((with_reducible show wpAny _ _ (subscriptTail _ _ (Value.ref _) (Value.int _ _)) _ _ _); (refine' lt_last ?N ?m ?z ?_ ?s; (case N => assumption); (case m => ktr_rel); (case z => first | assumption | omega); (case s => with_unfolding_all rfl))))
local macro_rules | `(tactic| walk_at "last exec While") => `(tactic| refine halt ?_)
local macro_rules | `(tactic| walk_at "exec While") => `(tactic| refine halt ?_)
local macro_rules | `(tactic| walk_at "call builtin:len") => `(tactic| ((with_reducible show wpAny _ _ (call (Value.builtin "len") [Value.ref _]) _ _ _); (refine' lt_len ?N ?m ?z ?_; (case N => assumption); (case m => ktr_rel); (case z => first | omega | (simp only [List.length_append, List.length_cons, List.length_nil]; omega)))))
local macro_rules | `(tactic| walk_at "getMethod ref") => `(tactic| ((with_reducible show wpAny _ _ (getMethod (Value.ref _) (PySem.Str.ofString "append") _) _ _ _); k_dflt (refine' kl_method ?N ?m PySem.F.slot_list_append PySem.F.type_list_append ?_; (case N => assumption); (case m => ktr_rel))))
local macro_rules | `(tactic| walk_at "exec For Name Call cons nil") => `(tactic| refine halt ?_)
local macro_rules | `(tactic| walk_at "CompSrc") => `(tactic| refine halt ?_)
local macro_rules | `(tactic| walk_at "exec Assign cons ListComp") => `(tactic| refine halt ?_)
local macro_rules | `(tactic| walk_at "exec For") => `(tactic| refine halt ?_)
local macro_rules | `(tactic| walk_at "compareOp Eq ref ref") => `(tactic| refine halt ?_)
local macro_rules | `(tactic| walk_at "call type:list") => `(tactic| refine halt ?_)
local macro_rules | `(tactic| walk_at "call ref") => `(tactic| (k_dflt (refine' ren_use2 (ren_ok _ _ _ _ _ _) ?k1 ?k2 ?k3 ?k4 ?k5 ?k6 ?k7 ?km ?kR ?kX ?kl ?ks ?k9 ?k10 ?_; (case k1 => assumption); (case k2 => assumption); (case k3 => assumption); (case k4 => assumption); (case k5 => assumption); (case k6 => rfl); (case k7 => first | exact Nat.succ_pos _ | assumption | (dsimp only; omega)); (case km => first | assumption | exact List.Mem.tail _ (List.Mem.head _)); (case kR => first | assumption | exact RowsIn.nil); (case kX => assumption); (case kl => assumption); (case ks => assumption); (case k9 => decide); (case k10 => decide); intro t8 h8 tk8 hpos8 F8 N8)))
local macro_rules | `(tactic| walk_at "call ref") => `(tactic| refine halt ?_)
local macro_rules | `(tactic| walk_at "eval ListComp") => `(tactic| refine halt ?_)
local macro_rules | `(tactic| walk_at "unpackItems ref") => `(tactic| refine halt ?_)
local macro_rules | `(tactic| walk_at "SrcS") => `(tactic| refine halt ?_)
local macro_rules | `(tactic| walk_at "call builtin:str.join") => `(tactic| (k_dflt ((refine' join_step0 ?N ?m ?S ?X ?l ?_; (case N => assumption); (case m => ktr_rel); (case S => assumption); (case X => assumption); (case l => omega)); intro t8 tk8)))
local macro_rules | `(tactic| walk_at "subscriptTail") => `(tactic| ((with_reducible show wpAny _ _ (subscriptTail _ _ (Value.ref _) (Value.int _ _)) _ _ _); refine halt ?_))
set_option maxHeartbeats 4000000 in
theorem law_ok : PySem.Challenge.rw_ci0010_02.Holds := hd (by
  w_strict (
    k_go0; (all_goals try k_fold); k_steps; refine unhalt ?_; refine wpAny_For ?_
    (rename 0 < _ => hpos8)
    refine wpAny_with_toks (n := 1) hpos8 ?_
    k_steps
    rename Fr _ _ _ _ => F9
    rename News _ _ _ _ => N9
    rename 1 ≤ _ => hpos9
    rename_i T _ _ _ _ D' ws h9 hI' hC' hL' l1
    generalize List.take 14 _ = cs at hI' hC' hL'
    have hcl : cs.length ≤ 14 := by omega
    have hT := l1
    refine loop_list (l := D') (vs := ws) (nn := 0) (J := K1 cs ws T D') rfl F9 (news := (T, listOf #[] 0) :: (D', listOf ws.toArray 0) :: []) ?_ hpos9 ⟨[], 0, [], rfl, .nil, (fun _ h => nomatch h), rfl⟩
      (fun i m nx ⟨_, _, _, e, _⟩ => e ▸ .tail _ (.head _)) (fun I l' i v s' Q' E' _ _ hq => wpAny_pure hq) ?_ ?_
    · intro p hp
      refine N9 p ?_
      simp only [List.mem_cons, List.not_mem_nil, or_false] at hp ⊢
      rcases hp with h | h <;> simp only [h, true_or, or_true]
    · rintro i v m₁ nx h tk2 I o hv htk2 hI ⟨vt, ct, tups, rfl, hR, hoff, hm1⟩ F N
      simp only [envLoc] at F N
      obtain ⟨c, tc, rfl, hc⟩ := hI'.at i v hv
      have hIT : @Ne Nat I T := fun q => hI _ (.head _) q.symm
      have hIC : @Ne Nat I D' := fun q => hI _ (.tail _ (.head _)) q.symm
      have hvt : vt.length ≤ 14 := by have := hR.length; simp only [List.length_map, List.length_take] at this; omega
      have F := fr_knows [(Str.ofString "rows", Value.ref T)] F (by
            intro p hp
            simp only [List.mem_cons, List.not_mem_nil, or_false] at hp
            rcases hp with rfl
            exact hm1)
      simp only [kstB] at F
      k_steps
      all_goals (refine unhalt ?_)
      all_goals (refine wpAny_For ?_)
      all_goals (rename 0 < _ => hpos8)
      all_goals (refine wpAny_with_toks (n := 1) hpos8 ?_)
      all_goals k_steps
      all_goals (
        rename IsRange _ _ _ _ _ _ _ _ => hrng
        rename 1 ≤ _ => hpos7
        rename Fr _ _ _ _ => F7
        rename News _ _ _ _ => N7
        have hb0 := Int.fmod_nonneg_of_pos (((if c < 0 then -c else c).fdiv 6).fdiv 8) (b := 4) (by decide)
        have hb1 := Int.fmod_lt_of_pos (((if c < 0 then -c else c).fdiv 6).fdiv 8) (b := 4) (by decide)
        obtain ⟨b, hb⟩ : ∃ b, (((if c < 0 then -c else c).fdiv 6).fdiv 8).fmod 4 = b := ⟨_, rfl⟩
        rw [hb] at hrng hb0 hb1
        refine loop_range (J := K2 c _ tc _ T _) rfl rfl rfl hrng (small_one (by omega) (by omega) (by omega) (by omega)) (n := b.toNat) ?_ F7 N7 hpos7 ⟨rfl, ⟨_, rfl⟩, ⟨_, rfl⟩, rfl, rfl, rfl⟩ ?_ ?_
        · rw [rangeSize_one, Int.toNat_of_nonneg hb0]; split <;> omega
        · rintro j tj m₂ nx h2 tk3 I2 o2 hj htk3 hI2 ⟨rfl, ⟨tr, hr1⟩, ⟨tn, hr2⟩, hr3, hr4, hr5⟩ F N
          simp only [envLoc] at F N
          have hj3 : j < 4 := by omega
          have hnl : (nameG c j).length ≤ 3 := by rw [nameG_length]; omega
          have F := fr_knows [(Str.ofString "turn", Value.int (j : Int) tj), (Str.ofString "rest", Value.int (restG c j) tr), (Str.ofString "name", Value.str (nameG c j) tn), (Str.ofString "rows", Value.ref T), (Str.ofString "number", Value.int c tc)] F (by
            intro p hp
            simp only [List.mem_cons, List.not_mem_nil, or_false] at hp
            rcases hp with rfl | rfl | rfl | rfl | rfl
            · rfl
            · exact hr1
            · exact hr2
            · exact hr3
            · exact hr4)
          simp only [kstB] at F
          k_steps
          all_goals (
            rename Fr _ _ _ _ => F6
            rename News _ _ _ _ => N6
            exact k2_turn hI2 F6 N6 rfl rfl rfl rfl hr5 (by first | exact if_pos (by omega) | exact if_neg (by omega)))
        · rintro m₂ nx h2 tk3 htk3 ⟨rfl, ⟨tr, hr1⟩, ⟨tn, hr2⟩, hr3, hr4, hr5⟩ F N
          simp only [envLoc] at F N
          have hnl : (nameG c b.toNat).length ≤ 3 := by rw [nameG_length]; omega
          have F := fr_knows [(Str.ofString "level", Value.int _ _), (Str.ofString "name", Value.str (nameG c b.toNat) tn), (Str.ofString "rows", Value.ref T), (Str.ofString "number", Value.int c tc)] F (by
            intro p hp
            simp only [List.mem_cons, List.not_mem_nil, or_false] at hp
            rcases hp with rfl | rfl | rfl | rfl
            · exact hr5
            · exact hr2
            · exact hr3
            · exact hr4)
          simp only [kstB] at F
          dsimp only
          k_steps
          rename Fr _ _ _ _ => F6
          rename News _ _ _ _ => N6
          simp only [List.push_toArray] at N6
          exact k1_turn (fun p hp => hI p (.tail _ (.tail _ hp))) hIT hIC hR hoff hc (by
            unfold rowG levG
            rw [show Int.fmod (restG c 0) 4 = b from hb]
            first
              | (rename Int.fmod (Int.fdiv c 6) 8 = 7 => ha; rw [if_pos ha])
              | (rename Int.fmod (Int.fdiv c 6) 8 ≠ 7 => ha; rw [if_neg ha])) F6 N6 (by omega) (by omega) (by omega) rfl)
    · rintro m₁ nx h tk2 htk2 ⟨vt, ct, tups, rfl, hR, hoff, hm1⟩ F N
      simp only [envLoc] at F N
      have hwl : ws.length = cs.length := hI'.length
      rw [hwl, List.take_length] at hR
      have hvt : vt.length ≤ 14 := by have := hR.length; simp only [List.length_map] at this; omega
      have F := fr_knows [(Str.ofString "rows", Value.ref T)] F (by
            intro p hp
            simp only [List.mem_cons, List.not_mem_nil, or_false] at hp
            rcases hp with rfl
            exact hm1)
      simp only [kstB] at F
      dsimp only
      k_steps
      refine unhalt ?_
      rename News _ _ _ _ => N6
      cases vt
      case' nil =>
        refine eq_empty N6 (.tail _ (.head _)) (.head _) (by dsimp only [Around.deeper, ktrTop]; decide) (b := true) rfl ?_
        have hX0 : renS [] = Str.ofString "" := rfl
        have hl0 : ([] : List RowT).length ≤ 20 := by decide
        have hs0 : ∀ r ∈ ([] : List RowT), r.2.1.length ≤ 8 ∧ r.2.2.length ≤ 8 := fun _ h => nomatch h
        k_steps
        refine unhalt ?_
        rename Fr _ _ _ _ => F5
        rename 0 < _ => hpos5
        refine ren_use2 (ren_ok _ _ _ _ _ _) (by assumption) F5 (by assumption) N6 (by assumption) rfl hpos5 (List.Mem.tail _ (List.Mem.head _)) RowsIn.nil hX0 hl0 hs0 (by decide) (by decide) ?_
        intro t8 h8 tk8 hpos8 F8 N8
        iterate 3 walk1
        rw [if_neg (by decide +kernel)]
        k_steps
        rename News _ _ _ _ => N4
        have h2 := rows2_nil N4
      case' cons v0 vr =>
        refine eq_empty N6 (.tail _ (.head _)) (.head _) (by dsimp only [Around.deeper, ktrTop]; decide) (b := false) rfl ?_
        generalize hvv : v0 :: vr = vt at *
        k_steps
        have h2 := rows2_cons N6 hR (by rw [← hvv]; exact List.cons_ne_nil _ _) hcl
      all_goals (
        obtain ⟨nw, vt, ct, rs, N5, hTm, hRw, hrn, hrl, hrs⟩ := h2
        rename Fr _ _ _ _ => F5
        refine unhalt ?_
        have hvl : vt.length ≤ 14 := by have := hRw.length; omega
        refine kup_listOf F5 N5 hTm (zs := vt) rfl ?_ (by rw [sizeLine_eq]; show vt.length ≤ _; omega)
        intro Dd cd h3 F3 N3 l3
        k_steps
        refine unhalt ?_
        rename Fr _ _ _ _ => F4
        rename News _ _ _ _ => N4
        rename 0 < _ => hpos4
        have hX1 : renS rs = renS rs := rfl
        refine ren_use2 (ren_ok _ _ _ _ _ _) (by assumption) F4 (by assumption) N4 (by assumption) rfl hpos4 (List.Mem.tail _ hTm) (hRw.mono fun p hp => .tail _ hp) hX1 (by omega) hrs (by decide) (by decide) ?_
        intro t8 h8 tk8 hpos8 F8 N8
        generalize hXX : renS rs = X at *
        k_steps
        rename (Dd < _ ∧ AllLt _ nw) => lIt
        have hItR : ∀ p ∈ (Dd, listOf vt.toArray cd) :: nw, p.1 ≠ _ := fun p hp => by
          rcases List.mem_cons.mp hp with rfl | hp
          · exact Nat.ne_of_lt lIt.1
          · exact allLt_ne lIt.2 p hp
        refine unhalt ?_; refine wpAny_For ?_
        rename 0 < _ => hpos3
        refine wpAny_with_toks (n := 1) hpos3 ?_
        k_steps
        rename Fr _ _ _ _ => F3
        rename News _ _ _ _ => N3
        rename 1 ≤ _ => hpos2
        refine loop_list (l := Dd) (vs := vt) (nn := cd) (J := K3 rs _ Dd _ _ X) rfl F3 N3 hpos2 ⟨[], 0, rfl, .nil, rfl, rfl, rfl, ⟨_, rfl⟩⟩
          (fun i m nx ⟨_, _, e, _⟩ => e ▸ .tail _ (.head _)) (go_tuple hRw) ?_ ?_
        · rintro i v m₁ nx h tk I o hv htk hI ⟨vi, ci, rfl, hS, hm1, hm2, hm3, ⟨tt, hm4⟩⟩ F N
          simp only [envLoc] at F N
          obtain ⟨r, hr, Tp, nT, t1, t2, t3, rfl, hT⟩ := hRw.get hv
          have hrs' := hrs r (List.mem_of_getElem? hr)
          have hvi : vi.length ≤ 14 := by have := strs_len hS; simp only [List.length_map, List.length_take] at this; omega
          have F := fr_knows [(Str.ofString "items", Value.ref _), (Str.ofString "due", Value.ref Dd), (Str.ofString "rows", Value.ref _), (Str.ofString "told", Value.str X tt)] F (by
            intro p hp
            simp only [List.mem_cons, List.not_mem_nil, or_false] at hp
            rcases hp with rfl | rfl | rfl | rfl
            · exact hm1
            · exact hm2
            · exact hm3
            · exact hm4)
          simp only [kstB] at F
          k_steps
          refine unpackN_ F N (News.isTup N (List.Mem.tail _ (List.Mem.tail _ (List.Mem.tail _ hT)))) rfl rfl rfl (fun h' F' N' => ?_)
          k_steps
          refine unhalt ?_
          rename Fr _ _ _ _ => F7
          refine ListComp_S (F₀ := F7) (by with_unfolding_all rfl) (by decide) rfl (by decide) rfl ?_
          k_steps
          refine unhalt ?_
          rename Fr _ _ _ _ => F7
          rename News _ _ _ _ => N7
          have hcat := told_cat r.2.1
          have hel := escS_length r.2.1
          generalize hX2 : escS r.2.1 = X2 at hcat hel
          refine ⟨_, _, _, rfl, rfl, F7, N7, by rw [sizeLine_eq]; show Str.length _ ≤ _; omega, ?_⟩
          rintro _ ⟨g, rfl⟩
          refine rest_text (fun c => toldS ⟨#[c]⟩) (fun c u I2 oI C2 oC D2 m₂ ys h2 tk2 E' _ hC hx2 F2 N2 => ?_) (fun ys hys => ?_)
          · k_steps
            refine unhalt ?_
            rename Fr _ _ _ _ => F6
            rename News _ _ _ _ => N6
            refine told_use (told_ok _ _ _ _ _ _) (by assumption) F6 (by assumption) N6 (by assumption) rfl (by decide) (by decide) ?_
            intro t9 h9 tk9 F9 N9
            exact ⟨_, _, _, rfl, rfl, F9, N9⟩
          · unfold LCg.FinE
            intro D2 h2 tk2 F2 N2 off2
            dsimp only
            k_steps
            rename Fr _ _ _ _ => F6
            rename News _ _ _ _ => N6
            refine lt_append F6 N6 (Upd.tail (fun q => off1_mem off2 _ (List.Mem.tail _ (List.Mem.head _)) q.symm) (Upd.tail (fun q => hI _ (List.Mem.head _) q.symm) (Upd.head hItR))) (by omega) ?_
            intro h9 F9 N9
            k_steps
            rename Fr _ _ _ _ => F9
            rename News _ _ _ _ => N9
            exact k3_turn hI hS hr (by subst hX2; rfl) F9 N9 rfl rfl rfl rfl
        · rintro m₁ nx h tk htk ⟨vi, ci, rfl, hS, hm1, hm2, hm3, ⟨tt, hm4⟩⟩ F N
          simp only [envLoc] at F N
          have F := fr_knows [(Str.ofString "items", Value.ref _), (Str.ofString "due", Value.ref Dd), (Str.ofString "rows", Value.ref _), (Str.ofString "told", Value.str X tt)] F (by
            intro p hp
            simp only [List.mem_cons, List.not_mem_nil, or_false] at hp
            rcases hp with rfl | rfl | rfl | rfl
            · exact hm1
            · exact hm2
            · exact hm3
            · exact hm4)
          simp only [kstB] at F
          rw [hRw.length, List.take_length] at hS
          dsimp only
          k_steps
          refine unhalt ?_
          rename Fr _ _ _ _ => F7
          refine LCg.ListComp_U (F₀ := F7) (by with_unfolding_all rfl) (by decide) rfl (by decide) rfl ?_
          k_steps
          refine unhalt ?_
          rename Fr _ _ _ _ => F7
          rename News _ _ _ _ => N7
          refine LCg.CompSrc.ledger rfl F7 N7 (.tail _ (.head _)) (by rw [sizeLine_eq]; show vt.length ≤ _; omega) (fun gg => ?_)
          refine rest_rows (vs := vt) (rs := rs) (.inr ⟨_, .tail _ (.head _), rfl, _, rfl⟩) (hRw.mono fun p hp => .tail _ (.tail _ hp)) ?_ ?_
          · intro Tp nT r t1 t2 t3 I2 oI C2 oC D2 m₂ ys h5 tk5 E5 hT hC hx F5 N5
            k_steps
            refine unhalt (item_tupleT (News.isTup N5 (.tail _ (.tail _ (.tail _ hT)))) (by decide) (by decide) rfl rfl ?_ (by with_unfolding_all rfl))
            k_steps
            exact ⟨t1, _, _, rfl, rfl, F5, N5⟩
          · intro ys hys
            unfold LCg.FinE
            intro D2 h5 tk5 F5 N5 off5
            dsimp only
            k_steps
            refine unhalt ?_
            rename Fr _ _ _ _ => F6
            rename News _ _ _ _ => N6
            refine dep_use (dep_ok _ _ _ _ _ _) (by assumption) F6 (by assumption) N6 (by assumption) rfl (.head _) hys (by rw [List.length_map]; exact hrl) (by decide) (by decide) ?_
            intro Dl vd cdl h6 tk6 F7 N7 hdl
            k_steps
            refine unhalt ?_
            rename Fr _ _ _ _ => F8
            rename News _ _ _ _ => N8
            have hne : rs ≠ [] := hrn
            refine lw_use (law_lw _ _ _ _ _ _ hrl hrs) (by assumption) F8 (by assumption) N8 (by assumption) rfl (.tail _ (.tail _ (.head _))) hS (.head _) (deps_are hdl) rfl (d := 1) rfl (Nat.le_trans (Nat.add_le_add_left (Nat.le_trans (Nat.sub_le _ _) hrl) 1) (by decide))
              (Nat.lt_of_le_of_lt (Nat.add_le_add_right (Nat.add_le_add_left (Nat.le_trans (Nat.sub_le _ _) hrl) _) _) (by decide))
              (Nat.lt_of_le_of_lt (Nat.add_le_add_right (Nat.add_le_add_left (Nat.mul_le_mul_left _ (Nat.add_le_add_right (Nat.le_trans (Nat.sub_le _ _) hrl) _)) _) _) (by decide)) ?_
            intro Tt R Xl k' t1 t2 h7 tk7 hXl hLw _ F9 N9 _
            obtain rfl : Xl = X := str_ext (by rw [← hXX]; exact hXl.trans (law2_end hne rfl hLw).symm)
            k_steps
            refine unhalt (item_tupleT (News.isTup N9 (.head _)) (by decide) (by decide) rfl rfl ?_ (by with_unfolding_all rfl))
            k_steps
            refine unhalt (eq_self N9 (.tail _ (.tail _ (.tail _ (.tail _ (.tail _ hTm))))) (.tail _ (.tail _ (.tail _ (.tail _ (.head _))))) (by dsimp only [Around.deeper, ktrTop]; decide) ?_)
            k_steps)))
end Mine2
theorem PySem.Challenge.cw_ci0010_02_holds : PySem.Challenge.rw_ci0010_02.Holds := by
  exact Mine2.law_ok
