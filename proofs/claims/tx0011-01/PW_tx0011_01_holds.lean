import PyProof.Rows.All
import Wide.All
import OpenK.AllK
import Wide.FinOn
import PySem.Challenge.RW_tx0011_01
set_option Elab.async false
section
open PySem PySem.W PyProof.Rows
set_option maxRecDepth 100000
set_option maxHeartbeats 8000000
namespace Mine
open_top hd for PySem.Challenge.rw_tx0011_01
theorem top_off : True := by
  w_top off
  exact True.intro
end Mine
end
section
open PySem PySem.W PySem.Spec PySem.Calls PyProof.Rows
set_option maxRecDepth 100000
namespace Mine
abbrev Claim (w : World) (mean : ExcName → Option Value) (mg mb : Str → Option Value) (f : Addr) (d u : Nat) (vs : List Value) (news : List (Addr × Obj)) (R : Value → List (Addr × Obj) → Prop) : Prop :=
  ∀ (dp un : Nat) (gd : Option (List Code)) (cn : Str) (cs : Scope) (a : Addr) (ccd : Value) (cl : List (Str × Addr)) (outer : List Env) (A₀ : Around) (base h₀ : Heap) (L : Addr) (m : Str → Option Value) (s : Shared) (Q E : Value → Shared → Prop),
    Below A₀ base outer h₀ → Fr h₀ L s.heap m → (hd.heap_39 w.params).In h₀ → News h₀ L s.heap news → Top hd.view_39 (looseW hd.view_39 [Str.ofString "_filemode_table"]) mean mg mb h₀ → cs.kind = .function →
    dp + d < recursionLimit → un + u < cLine →
    (∀ r news' h' tk', R r news' → Fr h₀ L h' m → News h₀ L h' news' → Q r { s with heap := h', toks := tk' }) →
      wpAny (model Challenge.rw_tx0011_01.row.prog w) (ktrTop dp un gd cn cs L a ccd cl outer) (call (.ref f) vs) Q E s
/-- a value made anew, the ledger as it stood -/
noncomputable def PureR (V : Tok → Value) (news : List (Addr × Obj)) (r : Value) (news' : List (Addr × Obj)) : Prop := (∃ t, r = V t) ∧ news' = news
theorem Claim.useV {w : World} {mean : ExcName → Option Value} {mg mb : Str → Option Value} {f : Addr} {d u : Nat} {vs : List Value} {news : List (Addr × Obj)} {V : Tok → Value} (C : Claim w mean mg mb f d u vs news (PureR V news))
    {dp un : Nat} {gd : Option (List Code)} {cn : Str} {cs : Scope} {a : Addr} {ccd : Value} {cl : List (Str × Addr)} {outer : List Env} {A₀ : Around} {base h₀ : Heap} {L : Addr} {m : Str → Option Value} {s : Shared} {Q E : Value → Shared → Prop}
    (B : Below A₀ base outer h₀) (F : Fr h₀ L s.heap m) (X : (hd.heap_39 w.params).In h₀) (N : News h₀ L s.heap news) (T : Top hd.view_39 (looseW hd.view_39 [Str.ofString "_filemode_table"]) mean mg mb h₀) (hk : cs.kind = .function)
    (hd : dp + d < recursionLimit) (hu : un + u < cLine) (ret : ∀ t h' tk', Fr h₀ L h' m → News h₀ L h' news → Q (V t) { s with heap := h', toks := tk' }) :
      wpAny (model Challenge.rw_tx0011_01.row.prog w) (ktrTop dp un gd cn cs L a ccd cl outer) (call (.ref f) vs) Q E s :=
  C dp un gd cn cs a ccd cl outer A₀ base h₀ L m s Q E B F X N T hk hd hu (by rintro r news' h' tk' ⟨⟨t, rfl⟩, rfl⟩ F' N'; exact ret t h' tk' F' N')
theorem retV {h₀ h' : Heap} {L : Addr} {m : Str → Option Value} {news : List (Addr × Obj)} {s : Shared} {Q : Value → Shared → Prop} {V : Tok → Value} {r : Value} {t : Tok} {tk' : Nat}
    (hret : ∀ r news' h' tk', PureR V news r news' → Fr h₀ L h' m → News h₀ L h' news' → Q r { s with heap := h', toks := tk' }) (F : Fr h₀ L h' m) (N : News h₀ L h' news) (e : r = V t) : Q r { s with heap := h', toks := tk' } :=
  hret r news h' tk' ⟨⟨t, e⟩, rfl⟩ F N
end Mine
end
section
open PySem PySem.W PySem.Spec PySem.Calls PyProof.Rows
set_option maxRecDepth 100000
namespace Mine
noncomputable def Stop (P : Prop) : Prop := P
theorem Stop.out {P : Prop} (h : Stop P) : P := h
section
variable {prog : Program} {w : World} {A : Around} {E : Value → Shared → Prop} {s : Shared} {env : Env} {h₀ : Heap} {x : Str} {body : List Stmt} {Q : Flow → Shared → Prop}
theorem unrPost_mono {L I : Addr} {it : Obj} {s₁ s₂ : Shared} {r r' : (Str → Option Value) → List (Addr × Obj) → Prop} (hr : ∀ m nx, r m nx → r' m nx) {f : Flow} (h : UnrPost h₀ L s₁ I it r Q f s₂) : UnrPost h₀ L s₁ I it r' Q f s₂ := by
  cases f with
  | ret v => exact h
  | brk => exact h
  | next =>
    obtain ⟨h', tk, m', nx, e, F, N, o, r⟩ := h
    exact ⟨h', tk, m', nx, e, F, N, o, hr _ _ r⟩
  | cont =>
    obtain ⟨h', tk, m', nx, e, F, N, o, r⟩ := h
    exact ⟨h', tk, m', nx, e, F, N, o, hr _ _ r⟩
theorem rangeRest_ind {I : Addr} {a : Int} {n : Nat} (J : Nat → (Str → Option Value) → List (Addr × Obj) → Prop)
    (turn : ∀ (i : Nat) m news t h tk, i < n → J i m news → Fr h₀ env.locals h (fun y => if y = x then some (.int (a + (i : Int)) t) else m y) →
      News h₀ env.locals h ((I, itR (a + ((i + 1 : Nat) : Int)) ((n : Int) - ((i + 1 : Nat) : Int))) :: news) →
      wpAny (model prog w) A (execs body env) (UnrPost h₀ env.locals { s with heap := h, toks := tk } I (itR (a + ((i + 1 : Nat) : Int)) ((n : Int) - ((i + 1 : Nat) : Int))) (J (i + 1)) Q) E { s with heap := h, toks := tk })
    (done : ∀ m news h tk, J n m news → Fr h₀ env.locals h m → News h₀ env.locals h news → Q .next { s with heap := h, toks := tk }) :
    ∀ k i m news, k + i = n → J i m news → RangeRest prog w A E h₀ env x body Q s I a n k i m news := by
  intro k
  induction k with
  | zero =>
    intro i m news e hJ
    have e' : i = n := by omega
    subst e'
    exact RangeRest.zero fun h tk F N => done m news h tk hJ F N
  | succ k ih =>
    intro i m news e hJ
    refine RangeRest.succ fun t h tk F N => wpAny_mono (turn i m news t h tk (by omega) hJ F N) (fun f s₂ p => unrPost_mono (fun m' nx hJ' => ih (i + 1) m' nx (by omega) hJ') p) fun _ _ x => x
theorem listRest_ind {I : Addr} {lp : Addr × Obj} (J : List Value → (Str → Option Value) → List (Addr × Obj) → Prop)
    (turn : ∀ v r m news it h tk, J (v :: r) m news → it.cls = .type "list_iterator" → Fr h₀ env.locals h (fun y => if y = x then some v else m y) → News h₀ env.locals h ((I, it) :: news) →
      wpAny (model prog w) A (execs body env) (UnrPost h₀ env.locals { s with heap := h, toks := tk } I it (fun m' n' => lp ∈ n' ∧ J r m' n') Q) E { s with heap := h, toks := tk })
    (done : ∀ m news h tk, J [] m news → Fr h₀ env.locals h m → News h₀ env.locals h news → Q .next { s with heap := h, toks := tk }) :
    ∀ vs m news, J vs m news → ListRest prog w A E h₀ env x body Q s I lp vs m news := by
  intro vs
  induction vs with
  | nil => intro m news hJ; exact ListRest.zero fun h tk F N => done m news h tk hJ F N
  | cons v r ih =>
    intro m news hJ
    refine ListRest.succ fun it h tk hi F N => wpAny_mono (turn v r m news it h tk hJ hi F N) (fun f s₂ p => unrPost_mono (fun m' nx hJ' => ⟨hJ'.1, ih m' nx hJ'.2⟩) p) fun _ _ x => x
end
end Mine
namespace Mine
noncomputable def Agree (ps : List (Str × Value)) (stored : List Str) (m₀ m : Str → Option Value) : Prop :=
  (∀ p ∈ ps, m p.1 = some p.2) ∧ ∀ z, (∀ p ∈ ps, z ≠ p.1) → stored.contains z = false → m z = m₀ z
theorem Agree.ex {ps : List (Str × Value)} {stored : List Str} {m₀ m : Str → Option Value} (h : Agree ps stored m₀ m) : ∃ u : Str → Option Value, m = kstB (fun z => if stored.contains z then u z else m₀ z) ps := by
  refine ⟨m, ?_⟩
  funext z
  refine (kstB_eq h.1 fun hn => ?_).symm
  show (if stored.contains z = true then m z else m₀ z) = m z
  cases h3 : stored.contains z with
  | true => simp
  | false => simp only [Bool.false_eq_true, if_false]; exact (h.2 z hn h3).symm
end Mine
namespace Mine
theorem tail_ne {P : Addr} {news : List (Addr × Obj)} (h : ∀ p ∈ news, p.1 < P) : ∀ p ∈ news, p.1 ≠ P := fun p hp => Nat.ne_of_lt (h p hp)
end Mine
end
namespace Mine
section
open PySem PySem.W PySem.Spec PySem.Calls PyProof.Rows
local macro_rules | `(tactic| walk_at "lt") => `(tactic| first
  | with_reducible assumption
  | with_reducible exact And.left (by with_reducible assumption)
  | with_reducible exact And.right (by with_reducible assumption)
  | with_reducible exact And.left (And.right (by with_reducible assumption))
  | with_reducible exact And.right (And.right (by with_reducible assumption))
  | with_reducible exact And.left (And.right (And.right (by with_reducible assumption)))
  | with_reducible exact And.right (And.right (And.right (by with_reducible assumption)))
  | with_reducible exact And.left (And.right (And.right (And.right (by with_reducible assumption))))
  | with_reducible exact And.right (And.right (And.right (And.right (by with_reducible assumption)))))
local macro_rules | `(tactic| k_ne) => `(tactic| ((try dsimp only); first
  | with_reducible assumption
  | with_reducible exact Ne.symm (by with_reducible assumption)
  | exact Nat.ne_of_lt (by walk_at "lt")
  | exact Nat.ne_of_gt (by walk_at "lt")
  | (refine neN ?_; first | with_reducible assumption | with_reducible exact Ne.symm (by with_reducible assumption) | omega)))
local macro_rules | `(tactic| walk_at "same") => `(tactic| (
  intro z h2 h3
  simp only [List.forall_mem_cons, List.not_mem_nil, false_implies, implies_true, and_true, ne_eq] at h2
  simp only [List.contains_cons, List.contains_nil, Bool.or_false, Bool.or_eq_false_iff, beq_eq_false_iff_ne, ne_eq] at h3
  first | (simp [h2, h3, kstB]; done) | (simp [h2, h3, kstB, List.lookup_cons]; done)))
section
set_option maxRecDepth 100000
set_option maxHeartbeats 8000000
theorem c_ifmt (w : World) (mean : ExcName → Option Value) (mg mb : Str → Option Value) (news : List (Addr × Obj)) (n : Int) (t : Tok) :
    Claim w mean mg mb 28 1 8 [.int n t] news (PureR (fun t => .int (Builtin.bitAnd n 61440) t) news) := by
  dsimp only [Claim]; k_fill
  intros; rename_i hret
  refine wpAny_call ?_
  k_dflt cell_enter
  k_steps
  exact retV hret (by assumption) (by assumption) rfl
local macro_rules | `(tactic| walk_at "call ref") => `(tactic| (
  refine' Claim.useV (c_ifmt _ _ _ _ _ _ _) ?k1 ?k2 ?k3 ?k4 ?k5 ?kK ?kd ?ku ?_
  (case k1 => k_asm)
  (case k2 => k_asm)
  (case k3 => k_asm)
  (case k4 => k_asm)
  (case k5 => k_asm)
  (case kK => first | exact rfl | assumption)
  (case kd => ktr_room)
  (case ku => ktr_units)
  intro t9 h9 tk9 F9 N9
  (try dsimp only)
  (try k_fold)))
theorem c_isdir (w : World) (mean : ExcName → Option Value) (mg mb : Str → Option Value) (news : List (Addr × Obj)) (n : Int) (t : Tok) :
    Claim w mean mg mb 35 2 16 [.int n t] news (PureR (fun _ => .bool (Builtin.bitAnd n 61440 == 16384)) news) := by
  dsimp only [Claim]; k_fill
  intros; rename_i hret
  refine wpAny_call ?_
  k_dflt cell_enter
  k_steps
  exact retV (t := 0) hret (by assumption) (by assumption) rfl
end
section
set_option maxRecDepth 100000
abbrev FF : Value → Shared → Prop := fun _ _ => False
noncomputable def ForPost (Q : Flow → Shared → Prop) (again : Shared → Prop) (f : Flow) (s : Shared) : Prop :=
  match f with
  | .ret v => Q (.ret v) s
  | .brk => Q .next s
  | _ => again s
noncomputable def ForTurn (M : Model) (A : Around) (env : Env) (target : Expr) (it : Value) (body orelse : List Stmt) (Q : Flow → Shared → Prop) (again : Shared → Prop) (r : Option Value) (s₁ : Shared) : Prop :=
  match r with
  | none => wpAny M A (execs orelse env) Q FF s₁
  | some v => wpAny M A (letOwnedTupleGo target it v) (fun _ s₂ => wpAny M A (assign target env v) (fun _ s₃ => wpAny M A (execs body env) (ForPost Q again) FF s₃) FF s₂) FF s₁
noncomputable def ForAt (prog : Program) (w : World) (A : Around) (env : Env) (target : Expr) (body orelse : List Stmt) (Q : Flow → Shared → Prop) (it : Value) (s : Shared) : Prop :=
  ∃ (I : Nat → Shared → Prop) (n : Nat), I n s ∧ ∀ n s, I n s → wpAny (model prog w) A (pyNext it) (ForTurn (model prog w) A env target it body orelse Q fun s' => ∃ m, m < n ∧ I m s') FF s
section
variable {prog : Program} {w : World} {A : Around} {s : Shared} {env : Env} {h₀ : Heap} {L : Addr} {target iter : Expr} {body orelse : List Stmt} {Q : Flow → Shared → Prop} {pos : Pos}
theorem forN (h : wpAny (model prog w) A (eval iter env) (fun xv s₁ => wpAny (model prog w) A (pyIter xv) (fun it s₂ => ForAt prog w A env target body orelse Q it s₂) FF s₁) FF s)
    (hs : ∀ x, foldedSetIterable iter env x = pure x) :
    wpAny (model prog w) A (exec (.For target iter body orelse pos) env) Q FF s := by
  refine wpAny_For (wpAny_mono h (fun xv s₁ h₁ => wpAny_mono h₁ (fun it s₂ h₂ => ?_) fun _ _ e => e) fun _ _ e => e) hs
  obtain ⟨I, n, hI, step⟩ := h₂
  refine codeAny_forLoop_any (R := fun r s' => match r with | .ok f => Q f s' | .error e => cameBackBy (model prog w) A env FF e s') I (fun n s hI => ?_) n hI
  refine wpAny_mono (step n s hI) (fun r s₁ hr => ?_) fun _ _ e => e.elim
  cases r with
  | none => exact wpAny_mono hr (fun _ _ x => x) fun _ _ e => e.elim
  | some v =>
    refine wpAny_mono hr (fun _ s₂ h₂ => wpAny_mono h₂ (fun _ s₃ h₃ => wpAny_mono h₃ (fun f s₄ h₄ => ?_) fun _ _ e => e.elim) fun _ _ e => e.elim) fun _ _ e => e.elim
    cases f <;> exact h₄
theorem fr_same {h h' : Heap} {I : Addr} {m : Str → Option Value} (F : Fr h₀ L h m) (hI : h₀.get? I = none) (hL : I ≠ L) (hs : Heap.SameBut I h h') : Fr h₀ L h' m := by
  refine ⟨F.ns.at' fun o e => ?_, fun b o e => ?_, F.above⟩
  · exact (hs.2 _ (Ne.symm hL)).trans e
  · have hb : b ≠ I := fun q => by rw [q, hI] at e; cases e
    exact (hs.2 b hb).trans (F.keep b o e)
theorem fr_ext {h h' : Heap} {I : Addr} {m : Str → Option Value} (F : Fr h₀ L h m) (hI : h₀.get? I = none) (hL : I ≠ L) (hs : Heap.ExtBut I h h') : Fr h₀ L h' m := by
  refine ⟨F.ns.at' fun o e => ?_, fun b o e => ?_, F.above⟩
  · exact hs _ o (Ne.symm hL) e
  · have hb : b ≠ I := fun q => by rw [q, hI] at e; cases e
    exact hs b o hb (F.keep b o e)
theorem news_ext {h h' : Heap} {I : Addr} {nx : List (Addr × Obj)} (N : News h₀ L h nx) (off : ∀ p ∈ nx, p.1 ≠ I) (hs : Heap.ExtBut I h h') : News h₀ L h' nx :=
  fun p hp => ⟨hs _ _ (off p hp) (N p hp).1, (N p hp).2⟩
theorem new_ne {h : Heap} {m : Str → Option Value} (F : Fr h₀ L h m) : h.objs.size ≠ L := Nat.ne_of_gt F.ns.lt

/-- a for with an else over a tuple of the base heap -/
theorem forAt_tuple {t : Addr} {items : Array Value} {m₀ : Str → Option Value} {nx₀ : List (Addr × Obj)} (J : Nat → (Str → Option Value) → List (Addr × Obj) → Prop)
    (hh : A.handled = none) (ht : h₀.IsTuple t items) (F : Fr h₀ L s.heap m₀) (N : News h₀ L s.heap nx₀) (hJ : J 0 m₀ nx₀)
    (turn : ∀ i v m nx h tk I it, items[i]? = some v → J i m nx → (∀ p ∈ nx, p.1 ≠ I) → it.cls = .type "tuple_iterator" → Fr h₀ L h m → News h₀ L h ((I, it) :: nx) →
      wpAny (model prog w) A (assign target env v) (fun _ s₂ => wpAny (model prog w) A (execs body env) (ForPost Q (UnrEnd h₀ L { s with heap := h, toks := tk } I it (J (i + 1)))) FF s₂) FF { s with heap := h, toks := tk })
    (done : ∀ m nx h tk, J items.size m nx → Fr h₀ L h m → News h₀ L h nx → wpAny (model prog w) A (execs orelse env) Q FF { s with heap := h, toks := tk }) :
    wpAny (model prog w) A (pyIter (.ref t)) (fun it s₂ => ForAt prog w A env target body orelse Q it s₂) FF s := by
  have hts : s.heap.IsTuple t items := by obtain ⟨o, ho, r⟩ := ht; exact ⟨o, F.keep _ _ ho, r⟩
  refine wpAny_pyIter_tuple hts ?_
  have hI0 := next_is_new F
  have hIL := new_ne F
  generalize hI : s.heap.objs.size = I at hI0 hIL ⊢
  refine ⟨fun k s' => ∃ (h : Heap) (tk : Nat) (m : Str → Option Value) (nx : List (Addr × Obj)) (i : Nat) (o : Obj), s' = { s with heap := h, toks := tk } ∧ i ≤ items.size ∧ k = items.size - i ∧ J i m nx ∧ (∀ p ∈ nx, p.1 ≠ I) ∧
    o.cls = .type "tuple_iterator" ∧ o.data = .fields #[.ref t, .int i 0] ∧ Fr h₀ L h m ∧ News h₀ L h ((I, o) :: nx), items.size, ?_, ?_⟩
  · refine ⟨_, s.toks, m₀, nx₀, 0, { cls := .type "tuple_iterator", data := .fields #[.ref t, .int 0 0] }, rfl, Nat.zero_le _, rfl, hJ, ?_, rfl, rfl, F.push _, ?_⟩
    · intro p hp
      exact Nat.ne_of_lt (hI ▸ Heap.lt_size (N p hp).1)
    · rw [← hI]
      exact N.push F _
  · rintro k s' ⟨h, tk, m, nx, i, o, rfl, hi, rfl, hJ', off, hc, hd, F', N'⟩
    have hit : h.IsTupleIter I t i := ⟨o, (N' _ (.head _)).1, hc, hd⟩
    have htt : h.IsTuple t items := by obtain ⟨o, ho, r⟩ := ht; exact ⟨o, F'.keep _ _ ho, r⟩
    have Nx : News h₀ L h nx := fun p hp => N' p (.tail _ hp)
    cases hv : items[i]? with
    | none =>
      have hsz : i = items.size := Nat.le_antisymm hi (by simpa using hv)
      subst hsz
      refine wpAny_pyNext_tuple_end hh hit htt hv fun h' he => ?_
      exact done m nx h' tk hJ' (fr_ext F' hI0 hIL he) (news_ext Nx off he)
    | some v =>
      have hlt : i < items.size := (Array.getElem?_eq_some_iff.mp hv).1
      refine wpAny_pyNext_tuple_item hit htt hv fun h' hit' hs => ?_
      obtain ⟨o', ho', hc', hd'⟩ := id hit'
      refine letGo_tupleiter hit' ?_
      have F₁ : Fr h₀ L h' m := fr_same F' hI0 hIL hs
      have N₁ : News h₀ L h' ((I, o') :: nx) := fun p hp => by
        rcases List.mem_cons.mp hp with rfl | hp
        · exact ⟨ho', hIL, hI0⟩
        · exact news_ext Nx off hs.extBut p hp
      refine wpAny_mono (turn i v m nx h' tk I o' hv hJ' off hc' F₁ N₁) (fun _ s₂ h₂ => wpAny_mono h₂ (fun f s₃ h₃ => ?_) fun _ _ e => e) fun _ _ e => e
      have fin : UnrEnd h₀ L { s with heap := h', toks := tk } I o' (J (i + 1)) s₃ → ∃ m_1, m_1 < items.size - i ∧ ∃ (h : Heap) (tk : Nat) (m : Str → Option Value) (nx : List (Addr × Obj)) (i : Nat) (o : Obj), s₃ = { s with heap := h, toks := tk } ∧ i ≤ items.size ∧ m_1 = items.size - i ∧ J i m nx ∧ (∀ p ∈ nx, p.1 ≠ I) ∧
          o.cls = .type "tuple_iterator" ∧ o.data = .fields #[.ref t, .int i 0] ∧ Fr h₀ L h m ∧ News h₀ L h ((I, o) :: nx) := by
        rintro ⟨g₃, tk₃, m₃, nx₃, rfl, F₃, N₃, off₃, r₃⟩
        exact ⟨items.size - (i + 1), by omega, g₃, tk₃, m₃, nx₃, i + 1, o', rfl, hlt, rfl, r₃, off₃, hc', hd', F₃, N₃⟩
      cases f with
      | ret v => exact h₃
      | brk => exact h₃
      | next => exact fin h₃
      | cont => exact fin h₃
end
end
section
set_option maxRecDepth 100000
section
variable {prog : Program} {w : World} {A : Around} {E : Value → Shared → Prop} {s : Shared}
theorem nextOf_tuple_item {it t : Addr} {i : Nat} {items : Array Value} {x : Value} {Q : Value → Shared → Prop} (hit : s.heap.IsTupleIter it t i) (ht : s.heap.IsTuple t items) (hx : items[i]? = some x)
    (hQ : ∀ h', h'.IsTupleIter it t (i + 1) → Heap.SameBut it s.heap h' → Q x { s with heap := h' }) : wpAny (model prog w) A (Builtin.SmallTypes.nextOf (.ref it)) Q E s := by
  obtain ⟨o, ho, hc, hd⟩ := id hit
  obtain ⟨ot, hot, _, nt, hdt⟩ := ht
  unfold Builtin.SmallTypes.nextOf
  refine wpAny_bind (wpAny_callSpecial?_slot (name := Str.ofString "__next__") hit.typeIs F.slot_tuple_iterator_next
    (wpAny_call_entry F.slot_tuple_iterator_next hit.typeIs F.entry_tuple_iterator_next ?_ (F.args_tuple_iterator_next_1 _)))
  show wpAny _ _ (field (.ref it) 0 >>= _) _ _ s
  refine wpAny_bind (wpAny_field ho hd (x := .ref t) rfl ?_)
  show wpAny _ _ (if (Value.ref t == Value.none) = true then _ else _) _ _ s
  rw [if_neg (show ¬ ((Value.ref t == Value.none) = true) from Bool.false_ne_true)]
  show wpAny _ _ (field (.ref it) 1 >>= _) _ _ s
  refine wpAny_bind (wpAny_field ho hd (x := .int i 0) rfl ?_)
  show wpAny _ _ (seqItems? (.ref t) >>= _) _ _ s
  refine wpAny_bind (wpAny_seqItems hot hdt ?_)
  simp only [Int.toNat_natCast, hx]
  refine wpAny_bind (wpAny_setField ho hd (by simp) (wpAny_pure ⟨x, rfl, wpAny_pure (hQ _ ?_ (Heap.SameBut.update ..))⟩))
  exact ⟨_, Heap.get?_update_self _ ho (Obj.isFreed_of_fields (Obj.data_mapFields hd _)), (Obj.cls_mapFields ..).trans hc, by
    rw [Obj.data_mapFields hd]; simp [rawInt]⟩
theorem nextOf_tuple_end {it t : Addr} {i : Nat} {items : Array Value} {Q : Value → Shared → Prop} (hh : A.handled = none) (hit : s.heap.IsTupleIter it t i) (ht : s.heap.IsTuple t items) (hx : items[i]? = none)
    (hE : ∀ h' e, Heap.ExtBut it s.heap h' → (∃ o, h'.get? e = some o ∧ o.cls = .type "StopIteration") → E (.ref e) { s with heap := h' }) : wpAny (model prog w) A (Builtin.SmallTypes.nextOf (.ref it)) Q E s := by
  obtain ⟨o, ho, hc, hd⟩ := id hit
  obtain ⟨ot, hot, _, nt, hdt⟩ := ht
  unfold Builtin.SmallTypes.nextOf
  refine wpAny_bind (wpAny_callSpecial?_slot (name := Str.ofString "__next__") hit.typeIs F.slot_tuple_iterator_next
    (wpAny_call_entry F.slot_tuple_iterator_next hit.typeIs F.entry_tuple_iterator_next ?_ (F.args_tuple_iterator_next_1 _)))
  show wpAny _ _ (field (.ref it) 0 >>= _) _ _ s
  refine wpAny_bind (wpAny_field ho hd (x := .ref t) rfl ?_)
  show wpAny _ _ (if (Value.ref t == Value.none) = true then _ else _) _ _ s
  rw [if_neg (show ¬ ((Value.ref t == Value.none) = true) from Bool.false_ne_true)]
  show wpAny _ _ (field (.ref it) 1 >>= _) _ _ s
  refine wpAny_bind (wpAny_field ho hd (x := .int i 0) rfl ?_)
  show wpAny _ _ (seqItems? (.ref t) >>= _) _ _ s
  refine wpAny_bind (wpAny_seqItems hot hdt ?_)
  simp only [Int.toNat_natCast, hx]
  refine wpAny_bind (wpAny_rule (wpAny_bind (wpAny_setField ho hd (by simp) ?_)))
  show wpAny _ _ (newExc (.type "StopIteration") [] >>= _) _ _ _
  refine wpAny_bind ?_
  simp only [newExc, newTuple]
  refine wpAny_bind (wpAny_newObj_type ?_ (by size_fits))
  refine wpAny_bind (m := firstArgMember _ _) (wpAny_of_eq (a := Value.none) (by first | rfl | (simp only [firstArgMember]; rfl)) ?_)
  refine wpAny_newObj_type ?_ (by size_fits)
  simp only [raiseNew]
  refine wpAny_bind (wpAny_handled ?_)
  first | rw [show A.in1.handled = none from hh] | rw [hh]
  refine wpAny_bind (wpAny_pure (wpAny_throw ?_))
  exact hE _ _ (((Heap.SameBut.update ..).extBut.push _).push _) ⟨_, Heap.get?_push_size _ rfl, rfl⟩
end
theorem drawsTuple {prog : Program} {w : World} {A : Around} (hh : A.handled = none) (it t : Addr) (hne : t ≠ it) (items : Array Value) :
    Draws prog w A it [it, t] items.size (fun i v => items[i]? = some v) (fun i h => h.IsTupleIter it t i ∧ h.IsTuple t items) where
  live := fun _ _ st => let ⟨o, ho, _⟩ := st.1; ⟨o, ho⟩
  frame := fun _ _ _ st hk => ⟨st.1.at fun o e => hk it (by simp) o e, st.2.at fun o e => hk t (by simp) o e⟩
  item := fun i s Q E hi st hQ => by
    refine nextOf_tuple_item st.1 st.2 (x := items[i]) (by simp [hi]) fun h' hit' hs' => ?_
    exact hQ _ h' s.toks (by simp [hi]) ⟨hit', st.2.extBut hs'.extBut hne⟩ hs'
  done := fun s Q E st hE => nextOf_tuple_end hh st.1 st.2 (by simp) hE
open AutoSeq1 (wpAny_loadPart') in
theorem meets_enum_newT (l : Addr) (items : Array Value) (n : Nat) (dct : Option Addr) (sl : Array (Option Value)) :
    Meets (Builtin.«enumerate.__new__» ⟨[.type "enumerate", .ref l], []⟩) (fun _ R s => s.heap.get? l = some { cls := .type "tuple", dict := dct, data := .seq items n, slots := sl } ∧
      R (.ok (.ret (.ref (s.heap.push { cls := .type "tuple_iterator", data := .fields #[.ref l, .int 0 0] }).objs.size)))
        { s with heap := (s.heap.push { cls := .type "tuple_iterator", data := .fields #[.ref l, .int 0 0] }).push { cls := .type "enumerate", data := .fields #[.none, .bool false, .ref s.heap.objs.size, rawInt 0, .none, .none] } }) :=
  .of_wp fun prog w A R s h => by
    obtain ⟨hp, g, d, tk, os⟩ := s; obtain ⟨hl, h⟩ := h
    have hsub := sub_enumerate
    have hL : Heap.IsTuple (Shared.heap ⟨hp, g, d, tk, os⟩) l items := ⟨_, hl, rfl, n, rfl⟩
    wp_walk using wpAny_loadPart' hl
    refine wpAny_stack_any fun st => wpAny_pure ?_
    split
    · rename_i c _ _ _ _ _
      cases (c == Value.type "enumerate")
      · wp_walk using wpAny_loadPart' hl, wpAny_pyIter_tuple hL
        exact ⟨_, rfl, h⟩
      · wp_walk using wpAny_loadPart' hl, wpAny_pyIter_tuple hL
        exact ⟨_, rfl, h⟩
    · wp_walk using wpAny_loadPart' hl, wpAny_pyIter_tuple hL
      exact ⟨_, rfl, h⟩
section
variable {prog : Program} {w : World} {A : Around} {E : Value → Shared → Prop} {s : Shared}
theorem call_enum_tuple {l : Addr} {items : Array Value} {Q : Value → Shared → Prop} (hL : s.heap.IsTuple l items)
    (h : ∀ h', IsEnum h' (s.heap.objs.size + 1) s.heap.objs.size 0 .none → h'.IsTupleIter s.heap.objs.size l 0 → h'.objs.size = s.heap.objs.size + 2 →
      (∀ b o, s.heap.get? b = some o → h'.get? b = some o) → Q (.ref (s.heap.objs.size + 1)) { s with heap := h' }) :
    wpAny (model prog w) A (call (.type "enumerate") [.ref l]) Q E s := by
  obtain ⟨⟨c, dct, dt, sl⟩, hl, hc, n, hd⟩ := hL
  replace hc : c = .type "tuple" := hc
  replace hd : dt = .seq items n := hd
  subst hc hd
  refine callType_new F.called_enumerate (by decide) (F.typeCall_enumerate_1 _) (F.newCall_enumerate_1 _) (fun obj => F.args_object_init_2 obj _) F.entry_enumerate_new
    (meets_enum_newT l items n dct sl) ⟨hl, ?_⟩
  have hz : (s.heap.push { cls := .type "tuple_iterator", data := .fields #[.ref l, .int 0 0] }).objs.size = s.heap.objs.size + 1 := Heap.size_push ..
  show _ ∧ _
  rw [hz]
  have he : IsEnum ((s.heap.push { cls := .type "tuple_iterator", data := .fields #[.ref l, .int 0 0] }).push
      { cls := .type "enumerate", data := .fields #[.none, .bool false, .ref s.heap.objs.size, rawInt 0, .none, .none] }) (s.heap.objs.size + 1) s.heap.objs.size 0 .none := by
    have := Heap.get?_push_size (s.heap.push { cls := .type "tuple_iterator", data := .fields #[.ref l, .int 0 0] })
      (o := { cls := .type "enumerate", data := .fields #[.none, .bool false, .ref s.heap.objs.size, rawInt 0, .none, .none] }) rfl
    rw [hz] at this; exact this
  refine ⟨⟨_, he, rfl⟩, h _ he ⟨_, Heap.get?_push_of_some _ (Heap.get?_push_size _ rfl), rfl, rfl⟩ (by rw [Heap.size_push, hz]) fun b o x => Heap.get?_push_of_some _ (Heap.get?_push_of_some _ x)⟩
end
end
section
set_option maxRecDepth 100000
noncomputable def End2 (h₀ : Heap) (L : Addr) (s₁ : Shared) (e : Addr) (oe : Obj) (it : Addr) (oi : Obj) (rest : (Str → Option Value) → List (Addr × Obj) → Prop) (s₂ : Shared) : Prop :=
  ∃ h' tk m' nx, s₂ = { s₁ with heap := h', toks := tk } ∧ Fr h₀ L h' m' ∧ News h₀ L h' ((e, oe) :: (it, oi) :: nx) ∧ (∀ p ∈ nx, p.1 ≠ e ∧ p.1 ≠ it) ∧ rest m' nx
section
variable {prog : Program} {w : World} {A : Around} {s : Shared} {env : Env} {h₀ : Heap} {L : Addr} {elts : List Expr} {kk : Nat} {pp : Pos} {body orelse : List Stmt} {Q : Flow → Shared → Prop}
theorem fr_keep {h h' : Heap} {m : Str → Option Value} (F : Fr h₀ L h m) (hk : ∀ o, h.get? L = some o → h'.get? L = some o) (hk' : ∀ b o, h₀.get? b = some o → h.get? b = some o → h'.get? b = some o) : Fr h₀ L h' m :=
  ⟨F.ns.at' hk, fun b o e => hk' b o e (F.keep b o e), F.above⟩
theorem enumT_for {t : Addr} {items : Array Value} {m₀ : Str → Option Value} {nx₀ : List (Addr × Obj)} (J : Nat → (Str → Option Value) → List (Addr × Obj) → Prop)
    (hh : A.handled = none) (ht : h₀.IsTuple t items) (F : Fr h₀ L s.heap m₀) (N : News h₀ L s.heap nx₀) (hJ : J 0 m₀ nx₀)
    (turn : ∀ i v m nx h tk T k e oe it oi, items[i]? = some v → J i m nx → (∀ p ∈ nx, p.1 ≠ e ∧ p.1 ≠ it) → (T ≠ e ∧ T ≠ it ∧ ∀ p ∈ nx, p.1 ≠ T) → oe.cls = .type "enumerate" → oi.cls = .type "tuple_iterator" → Fr h₀ L h m →
      News h₀ L h ((T, { cls := .type "tuple", data := .seq #[.int (i : Int) k, v] }) :: (e, oe) :: (it, oi) :: nx) →
      wpAny (model prog w) A (assign (.Tuple elts kk pp) env (.ref T)) (fun _ s₂ => wpAny (model prog w) A (execs body env) (ForPost Q (End2 h₀ L { s with heap := h, toks := tk } e oe it oi (J (i + 1)))) FF s₂) FF { s with heap := h, toks := tk })
    (done : ∀ m nx h tk, J items.size m nx → Fr h₀ L h m → News h₀ L h nx → wpAny (model prog w) A (execs orelse env) Q FF { s with heap := h, toks := tk }) :
    wpAny (model prog w) A (call (.type "enumerate") [.ref t]) (fun xv s₁ => wpAny (model prog w) A (pyIter xv) (fun it s₂ => ForAt prog w A env (.Tuple elts kk pp) body orelse Q it s₂) FF s₁) FF s := by
  have hts : s.heap.IsTuple t items := by obtain ⟨o, ho, r⟩ := ht; exact ⟨o, F.keep _ _ ho, r⟩
  have htl : t < s.heap.objs.size := by obtain ⟨o, ho, _⟩ := hts; exact Heap.lt_size ho
  refine call_enum_tuple hts fun h₁ he hi hsz hk => ?_
  refine wpAny_pyIter_enum he ?_
  have hLs : L < s.heap.objs.size := F.ns.lt
  have hit0 : h₀.get? s.heap.objs.size = none := next_is_new F
  have he0 : h₀.get? (s.heap.objs.size + 1) = none := Heap.get?_none_of_le (Nat.le_succ_of_le (Nat.le_of_lt (Nat.lt_of_le_of_lt F.above hLs)))
  have hlo : ∀ p ∈ nx₀, p.1 < s.heap.objs.size := fun p hp => Heap.lt_size (N p hp).1
  generalize hI : s.heap.objs.size = I at *
  have hne : I + 1 ≠ I := Nat.succ_ne_self _
  have hLI : L ≠ I := Nat.ne_of_lt hLs
  have hLE : L ≠ I + 1 := Nat.ne_of_lt (Nat.lt_succ_of_lt hLs)
  have htI : t ≠ I := Nat.ne_of_lt htl
  have D := drawsTuple (prog := prog) (w := w) (A := A.in1) hh I t htI items
  have hfp : I + 1 ∉ [I, t] := by
    intro hm
    rcases List.mem_cons.mp hm with e | hm
    · exact hne e
    · exact absurd (List.mem_singleton.mp hm) (Nat.ne_of_gt (Nat.lt_succ_of_lt htl))
  refine ⟨fun k s' => ∃ (h : Heap) (tk : Nat) (m : Str → Option Value) (nx : List (Addr × Obj)) (i : Nat) (old : Value), s' = { s with heap := h, toks := tk } ∧ i ≤ items.size ∧ k = items.size - i ∧ J i m nx ∧ (∀ p ∈ nx, p.1 ≠ I + 1 ∧ p.1 ≠ I) ∧
    IsEnum h (I + 1) I (i : Int) old ∧ h.IsTupleIter I t i ∧ Fr h₀ L h m ∧ News h₀ L h nx, items.size, ?_, ?_⟩
  · exact ⟨h₁, s.toks, m₀, nx₀, 0, .none, rfl, Nat.zero_le _, rfl, hJ, fun p hp => ⟨Nat.ne_of_lt (Nat.lt_succ_of_lt (hlo p hp)), Nat.ne_of_lt (hlo p hp)⟩, he, hi, F.keeps hk, N.grown hk⟩
  · rintro k s' ⟨h, tk, m, nx, i, old, rfl, hile, rfl, hJ', off, hE, hIt, F', N'⟩
    have htt : h.IsTuple t items := by obtain ⟨o, ho, r⟩ := ht; exact ⟨o, F'.keep _ _ ho, r⟩
    by_cases hlt : i < items.size
    · refine wpAny_pyNext_enum_itemD D hE ⟨hIt, htt⟩ hlt hne hfp fun x h₂ tk₂ hx hO hst hT hsz₂ hk₂ => ?_
      refine wpAny_letOwnedTupleGo_enum hO fun h₃ hE₃ hs₃ => ?_
      generalize hTT : Shared.heap { s with heap := h, toks := tk } = hh0 at hT hsz₂ hk₂ hO
      replace hTT : h = hh0 := hTT
      subst hTT
      have hEl : I + 1 < h.objs.size := Heap.lt_size hE
      have hIl : I < h.objs.size := Nat.lt_of_succ_lt hEl
      have hLl : L < h.objs.size := F'.ns.lt
      have hTe : h.objs.size ≠ I + 1 := Nat.ne_of_gt hEl
      have hTi : h.objs.size ≠ I := Nat.ne_of_gt hIl
      have keep : ∀ b o, b ≠ I + 1 → b ≠ I → h.get? b = some o → h₃.get? b = some o := fun b o h1 h2 e => (hs₃.2 b h1).trans (hk₂ b o h1 h2 e)
      have hT₃ : h₃.get? h.objs.size = some { cls := .type "tuple", data := .seq #[.int (i : Int) tk₂, x] } := (hs₃.2 _ hTe).trans hT
      obtain ⟨oi, hoi, hoic, hoid⟩ := id hst.1
      have hoi₃ : h₃.get? I = some oi := (hs₃.2 _ (Ne.symm hne)).trans hoi
      have F₃ : Fr h₀ L h₃ m := fr_keep F' (fun o e => keep _ o hLE hLI e) fun b o e0 e => keep b o (fun q => by rw [q, he0] at e0; cases e0) (fun q => by rw [q, hit0] at e0; cases e0) e
      obtain ⟨oe, hoe, hoec⟩ : ∃ oe : Obj, h₃.get? (I + 1) = some oe ∧ oe.cls = .type "enumerate" := ⟨_, hE₃, rfl⟩
      have hT0 : h₀.get? h.objs.size = none := next_is_new F'
      have N₃ : News h₀ L h₃ ((h.objs.size, { cls := .type "tuple", data := .seq #[.int (i : Int) tk₂, x] }) :: (I + 1, oe) :: (I, oi) :: nx) := by
        intro p hp
        rcases List.mem_cons.mp hp with rfl | hp
        · exact ⟨hT₃, Nat.ne_of_gt hLl, hT0⟩
        · rcases List.mem_cons.mp hp with rfl | hp
          · exact ⟨hoe, Ne.symm hLE, he0⟩
          · rcases List.mem_cons.mp hp with rfl | hp
            · exact ⟨hoi₃, Ne.symm hLI, hit0⟩
            · exact ⟨keep _ _ (off p hp).1 (off p hp).2 (N' p hp).1, (N' p hp).2⟩
      refine wpAny_mono (turn i x m nx h₃ (tk₂ + 1) h.objs.size tk₂ (I + 1) oe I oi hx hJ' off ⟨hTe, hTi, fun p hp => Nat.ne_of_lt (Heap.lt_size (N' p hp).1)⟩ hoec hoic F₃ N₃) (fun _ s₂ q₂ => wpAny_mono q₂ (fun f s₃ q₃ => ?_) fun _ _ e => e) fun _ _ e => e
      have fin : End2 h₀ L { s with heap := h₃, toks := tk₂ + 1 } (I + 1) oe I oi (J (i + 1)) s₃ → ∃ m_1, m_1 < items.size - i ∧ ∃ (h : Heap) (tk : Nat) (m : Str → Option Value) (nx : List (Addr × Obj)) (i : Nat) (old : Value), s₃ = { s with heap := h, toks := tk } ∧ i ≤ items.size ∧ m_1 = items.size - i ∧ J i m nx ∧ (∀ p ∈ nx, p.1 ≠ I + 1 ∧ p.1 ≠ I) ∧
          IsEnum h (I + 1) I (i : Int) old ∧ h.IsTupleIter I t i ∧ Fr h₀ L h m ∧ News h₀ L h nx := by
        rintro ⟨g₄, tk₄, m₄, nx₄, rfl, F₄, N₄, off₄, r₄⟩
        have e1 : g₄.get? (I + 1) = some oe := (N₄ _ (.head _)).1
        have e2 : g₄.get? I = some oi := (N₄ _ (.tail _ (.head _))).1
        refine ⟨items.size - (i + 1), by omega, g₄, tk₄, m₄, nx₄, i + 1, x, rfl, hlt, rfl, r₄, off₄, ?_, ⟨oi, e2, hoic, hoid⟩, F₄, fun p hp => N₄ p (.tail _ (.tail _ hp))⟩
        have e3 : h₃.get? (I + 1) = some { cls := .type "enumerate", dict := none, data := .fields #[.none, .bool false, .ref I, rawInt ((i : Int) + 1), .none, x], slots := #[] } := hE₃
        rw [hoe] at e3
        rw [Option.some.inj e3] at e1
        exact e1
      cases f with
      | ret v => exact q₃
      | brk => exact q₃
      | next => exact fin q₃
      | cont => exact fin q₃
    · have hin : i = items.size := by omega
      subst hin
      refine wpAny_pyNext_enum_endD D hE ⟨hIt, htt⟩ fun h' hx => ?_
      exact done m nx h' tk hJ' (fr_ext F' hit0 (Ne.symm hLI) hx) (news_ext N' (fun p hp => (off p hp).2) hx)

/-- enumerate over a list of the ledger whose items a turn may change -/
theorem enumL_for {l : Addr} {n : Nat} {m₀ : Str → Option Value} {nx₀ : List (Addr × Obj)} (J : Nat → (Str → Option Value) → List (Addr × Obj) → Prop)
    (hh : A.handled = none) (F : Fr h₀ L s.heap m₀) (N : News h₀ L s.heap nx₀) (hJ : J 0 m₀ nx₀)
    (isL : ∀ i m nx, J i m nx → ∃ lo items ep, (l, lo) ∈ nx ∧ lo.cls = .type "list" ∧ lo.data = .seq items ep ∧ items.size = n)
    (turn : ∀ i v m nx h tk T k e oe it oi, i < n → (∀ lo items ep, (l, lo) ∈ nx → lo.data = .seq items ep → items[i]? = some v) → J i m nx → (∀ p ∈ nx, p.1 ≠ e ∧ p.1 ≠ it) → (T ≠ e ∧ T ≠ it ∧ ∀ p ∈ nx, p.1 ≠ T) → oe.cls = .type "enumerate" → oi.cls = .type "list_iterator" → Fr h₀ L h m →
      News h₀ L h ((T, { cls := .type "tuple", data := .seq #[.int (i : Int) k, v] }) :: (e, oe) :: (it, oi) :: nx) →
      wpAny (model prog w) A (assign (.Tuple elts kk pp) env (.ref T)) (fun _ s₂ => wpAny (model prog w) A (execs body env) (ForPost Q (End2 h₀ L { s with heap := h, toks := tk } e oe it oi (J (i + 1)))) FF s₂) FF { s with heap := h, toks := tk })
    (done : ∀ m nx h tk, J n m nx → Fr h₀ L h m → News h₀ L h nx → wpAny (model prog w) A (execs orelse env) Q FF { s with heap := h, toks := tk }) :
    wpAny (model prog w) A (call (.type "enumerate") [.ref l]) (fun xv s₁ => wpAny (model prog w) A (pyIter xv) (fun it s₂ => ForAt prog w A env (.Tuple elts kk pp) body orelse Q it s₂) FF s₁) FF s := by
  obtain ⟨lo, items, ep, hm, hc, hd, hsz0⟩ := isL 0 m₀ nx₀ hJ
  have hls : s.heap.IsList l items := ⟨lo, (N _ hm).1, hc, ep, hd⟩
  have htl : l < s.heap.objs.size := Heap.lt_size (N _ hm).1
  refine call_enumerate_list hls fun h₁ he hi hsz hk => ?_
  refine wpAny_pyIter_enum he ?_
  have hLs : L < s.heap.objs.size := F.ns.lt
  have hit0 : h₀.get? s.heap.objs.size = none := next_is_new F
  have he0 : h₀.get? (s.heap.objs.size + 1) = none := Heap.get?_none_of_le (Nat.le_succ_of_le (Nat.le_of_lt (Nat.lt_of_le_of_lt F.above hLs)))
  have hlo : ∀ p ∈ nx₀, p.1 < s.heap.objs.size := fun p hp => Heap.lt_size (N p hp).1
  clear hls hm hc hd hsz0
  generalize hI : s.heap.objs.size = I at *
  have hne : I + 1 ≠ I := Nat.succ_ne_self _
  have hLI : L ≠ I := Nat.ne_of_lt hLs
  have hLE : L ≠ I + 1 := Nat.ne_of_lt (Nat.lt_succ_of_lt hLs)
  refine ⟨fun k s' => ∃ (h : Heap) (tk : Nat) (m : Str → Option Value) (nx : List (Addr × Obj)) (i : Nat) (old : Value), s' = { s with heap := h, toks := tk } ∧ i ≤ n ∧ k = n - i ∧ J i m nx ∧ (∀ p ∈ nx, p.1 ≠ I + 1 ∧ p.1 ≠ I) ∧
    IsEnum h (I + 1) I (i : Int) old ∧ h.IsListIter I l i ∧ Fr h₀ L h m ∧ News h₀ L h nx, n, ?_, ?_⟩
  · exact ⟨h₁, s.toks, m₀, nx₀, 0, .none, rfl, Nat.zero_le _, rfl, hJ, fun p hp => ⟨Nat.ne_of_lt (Nat.lt_succ_of_lt (hlo p hp)), Nat.ne_of_lt (hlo p hp)⟩, he, hi, F.keeps hk, N.grown hk⟩
  · rintro k s' ⟨h, tk, m, nx, i, old, rfl, hile, rfl, hJ', off, hE, hIt, F', N'⟩
    obtain ⟨lo', items', ep', hm', hc', hd', hsz'⟩ := isL i m nx hJ'
    have htt : h.IsList l items' := ⟨lo', (N' _ hm').1, hc', ep', hd'⟩
    have huniq : ∀ lo items ep, (l, lo) ∈ nx → lo.data = .seq items ep → items = items' := by
      intro lo items ep hm hd
      have e1 := (N' _ hm).1
      rw [(N' _ hm').1] at e1
      have e2 := Option.some.inj e1
      subst e2
      rw [hd'] at hd
      injection hd with q _
      exact q.symm
    by_cases hlt : i < n
    · have hx : items'[i]? = some (items'[i]'(by omega)) := Array.getElem?_eq_getElem _
      generalize items'[i]'(by omega) = x at hx
      refine wpAny_pyNext_enum_item hE hIt htt hx hne fun h₂ hO hst hT hsz₂ hk₂ => ?_
      refine wpAny_letOwnedTupleGo_enum hO fun h₃ hE₃ hs₃ => ?_
      generalize hTT : Shared.heap { s with heap := h, toks := tk } = hh0 at hT hsz₂ hk₂ hO
      replace hTT : h = hh0 := hTT
      subst hTT
      have hEl : I + 1 < h.objs.size := Heap.lt_size hE
      have hIl : I < h.objs.size := Nat.lt_of_succ_lt hEl
      have hLl : L < h.objs.size := F'.ns.lt
      have hTe : h.objs.size ≠ I + 1 := Nat.ne_of_gt hEl
      have hTi : h.objs.size ≠ I := Nat.ne_of_gt hIl
      have keep : ∀ b o, b ≠ I + 1 → b ≠ I → h.get? b = some o → h₃.get? b = some o := fun b o h1 h2 e => (hs₃.2 b h1).trans (hk₂ b o h1 h2 e)
      have hT₃ : h₃.get? h.objs.size = some { cls := .type "tuple", data := .seq #[.int (i : Int) tk, x] } := (hs₃.2 _ hTe).trans hT
      obtain ⟨oi, hoi, hoic, hoid⟩ := id hst
      have hoi₃ : h₃.get? I = some oi := (hs₃.2 _ (Ne.symm hne)).trans hoi
      have F₃ : Fr h₀ L h₃ m := fr_keep F' (fun o e => keep _ o hLE hLI e) fun b o e0 e => keep b o (fun q => by rw [q, he0] at e0; cases e0) (fun q => by rw [q, hit0] at e0; cases e0) e
      obtain ⟨oe, hoe, hoec⟩ : ∃ oe : Obj, h₃.get? (I + 1) = some oe ∧ oe.cls = .type "enumerate" := ⟨_, hE₃, rfl⟩
      have hT0 : h₀.get? h.objs.size = none := next_is_new F'
      have N₃ : News h₀ L h₃ ((h.objs.size, { cls := .type "tuple", data := .seq #[.int (i : Int) tk, x] }) :: (I + 1, oe) :: (I, oi) :: nx) := by
        intro p hp
        rcases List.mem_cons.mp hp with rfl | hp
        · exact ⟨hT₃, Nat.ne_of_gt hLl, hT0⟩
        · rcases List.mem_cons.mp hp with rfl | hp
          · exact ⟨hoe, Ne.symm hLE, he0⟩
          · rcases List.mem_cons.mp hp with rfl | hp
            · exact ⟨hoi₃, Ne.symm hLI, hit0⟩
            · exact ⟨keep _ _ (off p hp).1 (off p hp).2 (N' p hp).1, (N' p hp).2⟩
      refine wpAny_mono (turn i x m nx h₃ (tk + 1) h.objs.size tk (I + 1) oe I oi hlt (fun lo items ep hm hd => by rw [huniq lo items ep hm hd]; exact hx) hJ' off ⟨hTe, hTi, fun p hp => Nat.ne_of_lt (Heap.lt_size (N' p hp).1)⟩ hoec hoic F₃ N₃) (fun _ s₂ q₂ => wpAny_mono q₂ (fun f s₃ q₃ => ?_) fun _ _ e => e) fun _ _ e => e
      have fin : End2 h₀ L { s with heap := h₃, toks := tk + 1 } (I + 1) oe I oi (J (i + 1)) s₃ → ∃ m_1, m_1 < n - i ∧ ∃ (h : Heap) (tk : Nat) (m : Str → Option Value) (nx : List (Addr × Obj)) (i : Nat) (old : Value), s₃ = { s with heap := h, toks := tk } ∧ i ≤ n ∧ m_1 = n - i ∧ J i m nx ∧ (∀ p ∈ nx, p.1 ≠ I + 1 ∧ p.1 ≠ I) ∧
          IsEnum h (I + 1) I (i : Int) old ∧ h.IsListIter I l i ∧ Fr h₀ L h m ∧ News h₀ L h nx := by
        rintro ⟨g₄, tk₄, m₄, nx₄, rfl, F₄, N₄, off₄, r₄⟩
        have e1 : g₄.get? (I + 1) = some oe := (N₄ _ (.head _)).1
        have e2 : g₄.get? I = some oi := (N₄ _ (.tail _ (.head _))).1
        refine ⟨n - (i + 1), by omega, g₄, tk₄, m₄, nx₄, i + 1, x, rfl, hlt, rfl, r₄, off₄, ?_, ⟨oi, e2, hoic, hoid⟩, F₄, fun p hp => N₄ p (.tail _ (.tail _ hp))⟩
        have e3 : h₃.get? (I + 1) = some { cls := .type "enumerate", dict := none, data := .fields #[.none, .bool false, .ref I, rawInt ((i : Int) + 1), .none, x], slots := #[] } := hE₃
        rw [hoe] at e3
        rw [Option.some.inj e3] at e1
        exact e1
      cases f with
      | ret v => exact q₃
      | brk => exact q₃
      | next => exact fin q₃
      | cont => exact fin q₃
    · have hin : i = n := by omega
      subst hin
      refine wpAny_pyNext_enum_end hh hE hIt htt (by simp [hsz']) fun h' hx => ?_
      exact done m nx h' tk hJ' (fr_ext F' hit0 (Ne.symm hLI) hx) (news_ext N' (fun p hp => (off p hp).2) hx)
end
end
section
set_option maxRecDepth 100000
section
variable {prog : Program} {w : World} {A : Around} {E : Value → Shared → Prop} {s : Shared} {h₀ : Heap} {L l : Addr} {m : Str → Option Value} {news news' : List (Addr × Obj)} {its : Array Value} {n : Nat} {value slice : PySem.Expr}
theorem isList_led (N : News h₀ L s.heap news) (hm : (l, W.listOf its n) ∈ news) : s.heap.IsList l its := ⟨_, (N _ hm).1, rfl, n, rfl⟩
/-- text.split(c) -/
theorem split_led {x y : Str} {t u : Tok} {ys : List Str} {Q : Value → Shared → Prop} (F : Fr h₀ L s.heap m) (N : News h₀ L s.heap news) (hy : (y.length == 0) = false) (hsz : x.length + 2 ≤ sizeLine) (hs : Txt.split x y = ys)
    (h : ∀ P its h' k, (∀ p ∈ news, p.1 < P) → StrsAre its.toList ys → Fr h₀ L h' m → News h₀ L h' ((P, W.listOf its 0) :: news) → Q (.ref P) { s with heap := h', toks := k }) :
    wpAny (model prog w) A (call (.builtin "str.split") [.str x t, .str y u]) Q E s := by
  refine splitN1A F N hy (fun l h' k e S _ _ F' N' => ?_) hsz
  refine h _ (strValues l).toArray h' k (fun p hp => Heap.lt_size (N p hp).1) ?_ F' N'
  rw [e, hs] at S
  exact S
/-- xs[k] -/
theorem item_led {k : Int} {u : Tok} {v : Value} {Q : Value → Shared → Prop} (N : News h₀ L s.heap news) (hm : (l, W.listOf its n) ∈ news) (h0 : 0 ≤ k) (hhi : k < 2 ^ 63) (hx : its[k.toNat]? = some v) (h : Q v s)
    (hs : subscripted slice false (.ref l) (.int k u) = operate [.ref l, .int k u] (getItem (.ref l) (.int k u))) :
    wpAny (model prog w) A (subscriptTail value slice (.ref l) (.int k u)) Q E s :=
  tail_any (isList_led N hm).typeIs slot_list_getitem.lookup (wpAny_getItem_list (isList_led N hm) h0 hhi hx h) hs
theorem item_strs {k : Int} {u : Tok} {ys : List Str} {y : Str} {Q : Value → Shared → Prop} (N : News h₀ L s.heap news) (hm : (l, W.listOf its n) ∈ news) (hS : StrsAre its.toList ys) (h0 : 0 ≤ k) (hhi : k < 2 ^ 63) (hx : ys[k.toNat]? = some y) (h : ∀ t, Q (.str y t) s)
    (hs : subscripted slice false (.ref l) (.int k u) = operate [.ref l, .int k u] (getItem (.ref l) (.int k u))) :
    wpAny (model prog w) A (subscriptTail value slice (.ref l) (.int k u)) Q E s := by
  obtain ⟨t, ht⟩ := StrsAre.get hS _ _ hx
  exact item_led N hm h0 hhi (v := .str y t) (by rw [← Array.getElem?_toList]; exact ht) (h t) hs
/-- xs[k] = v -/
theorem set_led {k : Int} {t : Tok} {v : Value} {Q : Unit → Shared → Prop} (F : Fr h₀ L s.heap m) (N : News h₀ L s.heap news) (U : Upd l (W.listOf its n) (W.listOf (its.setIfInBounds k.toNat v) n) news news') (h0 : 0 ≤ k) (h1 : k < its.size) (hfit : k < 2 ^ 63)
    (h : ∀ h', Fr h₀ L h' m → News h₀ L h' news' → Q () { s with heap := h' }) : wpAny (model prog w) A (setItem (.ref l) (.int k t) v) Q E s := by
  obtain ⟨pre, post, rfl, rfl, a, b⟩ := U.split
  have z := N (l, W.listOf its n) (List.mem_append.mpr (.inr (.head _)))
  refine ki_setAt z.1 h0 hfit h1 (h _ (F.change (Heap.SameBut.update ..) z.2.1 z.2.2) (ki_turn _ N a b rfl ?_))
  simp
/-- len(xs) -/
theorem len_led {k : Nat} {Q : Value → Shared → Prop} (N : News h₀ L s.heap news) (hm : (l, W.listOf its n) ∈ news) (hk : its.size = k) (hfit : k < 2 ^ 62) (h : ∀ t tk, Q (.int (k : Int) t) { s with toks := tk }) :
    wpAny (model prog w) A (call (.builtin "len") [.ref l]) Q E s := by
  subst hk
  exact len_list (isList_led N hm) (by omega) (h _ _)
/-- xs[a:b], a and b not below nought -/
theorem slice_led {a b : Nat} {ta tb : Tok} {Q : Value → Shared → Prop} (F : Fr h₀ L s.heap m) (N : News h₀ L s.heap news) (hm : (l, W.listOf its n) ∈ news)
    (h : ∀ D ws h', (∀ p ∈ news, p.1 < D) → ws.toList = (its.toList.drop a).take (b - a) → Fr h₀ L h' m → News h₀ L h' ((D, W.listOf ws 0) :: news) → Q (.ref D) { s with heap := h' })
    (hs : subscripted slice false (.ref l) (.ref s.heap.objs.size) = operate [.ref s.heap.objs.size, .ref l] (getItem (.ref l) (.ref s.heap.objs.size))) (ht : ∀ r, letTemporaryGo value (.ref l) r = pure ()) (hz : its.size ≤ sizeLine) (hb : b ≤ its.size) (hab : a ≤ b) :
    wpAny (model prog w) A (subscriptTail value slice (.ref l) (.ref s.heap.objs.size)) Q E { s with heap := s.heap.push { cls := .type "slice", data := .fields #[.int (a : Int) ta, .int (b : Int) tb, .none] } } := by
  refine kmk_slice F N (isList_led N hm) (IsPart.int _ _) (IsPart.int _ _) (fun D h' F' N' lt => h D _ h' lt ?_ F' N') hs ht hz
  rw [kms_pick_eq]
  unfold kms_pick
  have e1 : kms_lo (some (a : Int)) its.toList.length = a := by
    simp only [kms_lo, Array.length_toList]; rw [if_neg (by omega)]; omega
  have e2 : kms_hi (some (b : Int)) its.toList.length = b := by
    simp only [kms_hi, Array.length_toList]; rw [if_neg (by omega)]; omega
  rw [e1, e2]
end
theorem off_upd {P : Addr} {o o' : Obj} {news : List (Addr × Obj)} {C : Addr → Prop} (h : ∀ p ∈ (P, o) :: news, C p.1) : ∀ p ∈ (P, o') :: news, C p.1 := by
  intro p hp
  rcases List.mem_cons.mp hp with rfl | hp
  · exact (h (P, o) (.head _) : C P)
  · exact h _ (.tail _ hp)
noncomputable def cutS (i : Nat) (z : Str) : Str := ⟨(z.cps.toList.drop i).toArray⟩
theorem slice_cut (z : Str) (i : Nat) : Txt.slice z (some (i : Int)) none = cutS i z := by
  unfold cutS
  by_cases h : i ≤ z.length
  · rw [slice_from_eq (b := (z.length : Int)) (by omega) (by omega) rfl]
    congr 1
    have e1 : ((i : Int)).toNat = i := by omega
    have e2 : ((z.length : Int) - (i : Int)).toNat = z.length - i := by omega
    rw [e1, e2, List.take_of_length_le]
    rw [List.length_drop, Array.length_toList]
    exact Nat.le_refl _
  · rw [slice_from_beyond (by omega)]
    congr 1
    rw [List.drop_of_length_le]
    rw [Array.length_toList]
    exact Nat.le_of_lt (Nat.lt_of_not_le h)
noncomputable def firstS (z : Str) : Str := ⟨(z.cps.toList.take 1).toArray⟩
theorem slice_first (z : Str) : Txt.slice z none (some 1) = firstS z := by
  unfold firstS
  by_cases h : 1 ≤ z.length
  · have q := slice_closes_toL (x := z) (j := 1) (by omega) (by omega)
    have q2 := beq_iff_eq.mp q
    rw [q2]
    congr 1
  · rw [slice_to_beyond (by omega)]
    have h0 : z.length = 0 := by omega
    have q := slice_closes_toL (x := z) (j := (z.length : Int)) (by omega) (by omega)
    rw [beq_iff_eq.mp q]
    congr 1
    have : z.cps.toList = [] := List.eq_nil_of_length_eq_zero (by rw [Array.length_toList]; exact h0)
    rw [this]
    simp
section
variable {prog : Program} {w : World} {A : Around} {E : Value → Shared → Prop} {s : Shared} {h₀ : Heap} {L l : Addr} {m : Str → Option Value} {news news' : List (Addr × Obj)} {value slice : PySem.Expr} {z : Str} {t u : Tok} {Q : Value → Shared → Prop}
theorem cut_str {i : Nat} (F : Fr h₀ L s.heap m) (N : News h₀ L s.heap news) (hz : z.length ≤ sizeLine) (h : ∀ h' t' k, Fr h₀ L h' m → News h₀ L h' news → Q (.str (cutS i z) t') { s with heap := h', toks := k })
    (hs : subscripted slice false (.str z t) (.ref s.heap.objs.size) = operate [.ref s.heap.objs.size, .str z t] (getItem (.str z t) (.ref s.heap.objs.size)))
    (ht : ∀ r, letTemporaryGo value (.str z t) r = pure ()) :
    wpAny (model prog w) A (subscriptTail value slice (.str z t) (.ref s.heap.objs.size)) Q E { s with heap := s.heap.push { cls := .type "slice", data := .fields #[.int (i : Int) u, .none, .none] } } :=
  slice_strN_sn F N (fun h' t' k F' N' => by rw [slice_cut]; exact h h' t' k F' N') hs ht hz
theorem first_str (F : Fr h₀ L s.heap m) (N : News h₀ L s.heap news) (hz : z.length ≤ sizeLine) (h : ∀ h' t' k, Fr h₀ L h' m → News h₀ L h' news → Q (.str (firstS z) t') { s with heap := h', toks := k })
    (hs : subscripted slice false (.str z t) (.ref s.heap.objs.size) = operate [.ref s.heap.objs.size, .str z t] (getItem (.str z t) (.ref s.heap.objs.size)))
    (ht : ∀ r, letTemporaryGo value (.str z t) r = pure ()) :
    wpAny (model prog w) A (subscriptTail value slice (.str z t) (.ref s.heap.objs.size)) Q E { s with heap := s.heap.push { cls := .type "slice", data := .fields #[.none, .int 1 u, .none] } } :=
  slice_strN_ns F N (fun h' t' k F' N' => by rw [slice_first]; exact h h' t' k F' N') hs ht hz
end
end
section
set_option maxRecDepth 100000
set_option maxHeartbeats 8000000
noncomputable def lrHead (n : Int) : Str := Txt.item (Str.ofString "?pc?d?b?-?l?s???") ((n.fdiv 4096).fmod 16)
abbrev lrFig (n : Int) (i : Nat) : Int := (n.fdiv (8 ^ (2 - (0 + (i : Int))).toNat)).fmod 8
abbrev lrAbove (n : Int) (i : Nat) : Int := (n.fdiv (2 ^ (11 - (0 + (i : Int))).toNat)).fmod 2
noncomputable def lrTurn (n : Int) (i : Nat) (T : Str) : Str :=
  ((T ++ (if 3 < lrFig n i then Str.ofString "r" else Str.ofString "-")) ++ (if ((lrFig n i).fdiv 2).fmod 2 = 1 then Str.ofString "w" else Str.ofString "-")) ++
    Txt.item (if i = 2 then Str.ofString "-xTt" else Str.ofString "-xSs") ((lrFig n i).fmod 2 + 2 * lrAbove n i)
noncomputable def lrPref (n : Int) : Nat → Str
  | 0 => lrHead n
  | i + 1 => lrTurn n i (lrPref n i)
theorem lr_tt {n : Int} {i : Nat} {T : Str} (h1 : 3 < lrFig n i) (h2 : ((lrFig n i).fdiv 2).fmod 2 = 1) : lrTurn n i T = ((T ++ Str.ofString "r") ++ Str.ofString "w") ++ Txt.item (if i = 2 then Str.ofString "-xTt" else Str.ofString "-xSs") ((lrFig n i).fmod 2 + 2 * lrAbove n i) := by
  unfold lrTurn; rw [if_pos h1, if_pos h2]
theorem lr_tf {n : Int} {i : Nat} {T : Str} (h1 : 3 < lrFig n i) (h2 : ¬ ((lrFig n i).fdiv 2).fmod 2 = 1) : lrTurn n i T = ((T ++ Str.ofString "r") ++ Str.ofString "-") ++ Txt.item (if i = 2 then Str.ofString "-xTt" else Str.ofString "-xSs") ((lrFig n i).fmod 2 + 2 * lrAbove n i) := by
  unfold lrTurn; rw [if_pos h1, if_neg h2]
theorem lr_ft {n : Int} {i : Nat} {T : Str} (h1 : ¬ 3 < lrFig n i) (h2 : ((lrFig n i).fdiv 2).fmod 2 = 1) : lrTurn n i T = ((T ++ Str.ofString "-") ++ Str.ofString "w") ++ Txt.item (if i = 2 then Str.ofString "-xTt" else Str.ofString "-xSs") ((lrFig n i).fmod 2 + 2 * lrAbove n i) := by
  unfold lrTurn; rw [if_neg h1, if_pos h2]
theorem lr_ff {n : Int} {i : Nat} {T : Str} (h1 : ¬ 3 < lrFig n i) (h2 : ¬ ((lrFig n i).fdiv 2).fmod 2 = 1) : lrTurn n i T = ((T ++ Str.ofString "-") ++ Str.ofString "-") ++ Txt.item (if i = 2 then Str.ofString "-xTt" else Str.ofString "-xSs") ((lrFig n i).fmod 2 + 2 * lrAbove n i) := by
  unfold lrTurn; rw [if_neg h1, if_neg h2]
theorem lr_len (n : Int) (i : Nat) (T : Str) : (lrTurn n i T).length = T.length + 3 := by
  unfold lrTurn
  rw [Str.length_append, Str.length_append, Str.length_append]
  have e1 : (if 3 < lrFig n i then Str.ofString "r" else Str.ofString "-").length = 1 := by split <;> decide +kernel
  have e2 : (if ((lrFig n i).fdiv 2).fmod 2 = 1 then Str.ofString "w" else Str.ofString "-").length = 1 := by split <;> decide +kernel
  have e3 : ∀ a b, (Txt.item a b).length = 1 := fun _ _ => rfl
  rw [e1, e2, e3]
theorem lr_preflen (n : Int) (i : Nat) : (lrPref n i).length ≤ 1 + 3 * i := by
  induction i with
  | zero => exact Nat.le_refl _
  | succ i ih => show (lrTurn n i (lrPref n i)).length ≤ _; rw [lr_len]; omega
local macro_rules | `(tactic| walk_at "pyIter ref") => `(tactic| refine Stop.out ?_)
local macro_rules | `(tactic| walk_at "UnrEnd") => `(tactic| refine Stop.out ?_)
theorem c_lawrow (w : World) (mean : ExcName → Option Value) (mg mb : Str → Option Value) (news : List (Addr × Obj)) (n : Int) (t : Tok) :
    Claim w mean mg mb 82 1 16 [.int n t] news (PureR (fun t => .str (lrPref n 3) t) news) := by
  dsimp only [Claim]; k_fill
  intros; rename_i hret
  refine wpAny_call ?_
  k_dflt cell_enter
  refine wpAny_mono (E := fun _ _ => False) ?_ (fun _ _ h => h) (fun _ _ h => h.elim)
  (try k_fold)
  k_steps
  unfold Stop
  rename IsRange _ _ _ _ _ _ _ _ => hR
  rename Fr _ _ _ _ => lF'
  rename News _ _ _ _ => lN'
  with_unfolding_all refine iter_rangeUnr (n := 3) (by rfl) hR (by first | decide | rfl) (by first | decide | rfl) lF' lN' ?_
  intro I hI
  refine rangeRest_ind (J := fun i m nx => nx = news ∧ ∃ T t', Agree [(Str.ofString "mode", Value.int n t), (Str.ofString "text", Value.str T t')] [Str.ofString "figure", Str.ofString "above", Str.ofString "k"] (fun _ => none) m ∧ T = lrPref n i) ?_ ?_ 3 0 _ _ rfl ⟨rfl, ?_⟩
  · clear lF' lN' hR
    rintro i m nx t9 h tk hi ⟨rfl, T, t', hA, hT⟩ F N
    obtain ⟨u, rfl⟩ := hA.ex
    clear hA
    have hlen : T.length ≤ 1 + 3 * i := by rw [hT]; exact lr_preflen n i
    rcases (show i = 0 ∨ i = 1 ∨ i = 2 by omega) with rfl | rfl | rfl
    all_goals k_steps
    all_goals (
      unfold Stop
      refine' UnrEnd.intro (by assumption) (by assumption) _ (fun _ h => h) ?m0 ⟨rfl, _, _, ⟨List.forall_mem_cons.mpr ⟨?m1, List.forall_mem_cons.mpr ⟨?m2, List.forall_mem_nil _⟩⟩, ?m3⟩, ?m4⟩
      (case m1 => with_unfolding_all rfl)
      (case m2 => with_unfolding_all rfl)
      (case m3 => walk_at "same")
      (case m4 => (show _ = lrTurn _ _ _; subst hT; first
        | (refine' Eq.trans ?q9 (Eq.symm (lr_tt ?a9 ?b9)); (case a9 => assumption); (case b9 => assumption); (case q9 => rfl))
        | (refine' Eq.trans ?q9 (Eq.symm (lr_tf ?a9 ?b9)); (case a9 => assumption); (case b9 => assumption); (case q9 => rfl))
        | (refine' Eq.trans ?q9 (Eq.symm (lr_ft ?a9 ?b9)); (case a9 => assumption); (case b9 => assumption); (case q9 => rfl))
        | (refine' Eq.trans ?q9 (Eq.symm (lr_ff ?a9 ?b9)); (case a9 => assumption); (case b9 => assumption); (case q9 => rfl))))
      (case m0 => exact fun p hp => Nat.ne_of_lt (hI p hp)))
  · rintro m nx h tk ⟨rfl, T, t', hA, hT⟩ F N
    obtain ⟨u, rfl⟩ := hA.ex
    clear hA lF' lN'
    subst hT
    (try dsimp only)
    k_steps
    exact retV hret (by assumption) (by assumption) rfl
  · refine' ⟨_, _, ⟨List.forall_mem_cons.mpr ⟨?m1, List.forall_mem_cons.mpr ⟨?m2, List.forall_mem_nil _⟩⟩, ?m3⟩, ?m4⟩
    (case m1 => with_unfolding_all rfl)
    (case m2 => with_unfolding_all rfl)
    (case m3 => walk_at "same")
    (case m4 => rfl)
end
section
set_option maxRecDepth 100000
structure Ent where
  a : Addr
  b : Int
  tb : Tok
  c : Str
  tc : Tok
noncomputable def fmTab : List (Addr × List Ent) := [
  (43, [⟨36, 40960, 220, ⟨#[108]⟩, 255⟩, ⟨37, 49152, 222, ⟨#[115]⟩, 256⟩, ⟨38, 32768, 216, ⟨#[45]⟩, 257⟩, ⟨39, 24576, 214, ⟨#[98]⟩, 258⟩, ⟨40, 16384, 210, ⟨#[100]⟩, 259⟩, ⟨41, 8192, 212, ⟨#[99]⟩, 260⟩, ⟨42, 4096, 218, ⟨#[112]⟩, 261⟩]),
  (45, [⟨44, 256, 237, ⟨#[114]⟩, 262⟩]),
  (47, [⟨46, 128, 239, ⟨#[119]⟩, 263⟩]),
  (51, [⟨48, 2112, 264, ⟨#[115]⟩, 265⟩, ⟨49, 2048, 231, ⟨#[83]⟩, 266⟩, ⟨50, 64, 241, ⟨#[120]⟩, 267⟩]),
  (53, [⟨52, 32, 243, ⟨#[114]⟩, 268⟩]),
  (55, [⟨54, 16, 245, ⟨#[119]⟩, 269⟩]),
  (59, [⟨56, 1032, 270, ⟨#[115]⟩, 271⟩, ⟨57, 1024, 233, ⟨#[83]⟩, 272⟩, ⟨58, 8, 247, ⟨#[120]⟩, 273⟩]),
  (61, [⟨60, 4, 249, ⟨#[114]⟩, 274⟩]),
  (63, [⟨62, 2, 251, ⟨#[119]⟩, 275⟩]),
  (67, [⟨64, 513, 276, ⟨#[116]⟩, 277⟩, ⟨65, 512, 235, ⟨#[84]⟩, 278⟩, ⟨66, 1, 253, ⟨#[120]⟩, 279⟩])]
noncomputable def entsAt (h : Heap) : List Ent → Prop
  | [] => True
  | e :: r => h.IsTuple e.a #[.int e.b e.tb, .str e.c e.tc] ∧ entsAt h r
noncomputable def rowsAt (h : Heap) : List (Addr × List Ent) → Prop
  | [] => True
  | p :: r => (h.IsTuple p.1 (p.2.map fun e => Value.ref e.a).toArray ∧ entsAt h p.2) ∧ rowsAt h r
theorem entsAt.get {h : Heap} : ∀ {l : List Ent} {e : Ent}, entsAt h l → e ∈ l → h.IsTuple e.a #[.int e.b e.tb, .str e.c e.tc]
  | _ :: _, _, x, .head _ => x.1
  | _ :: _, _, x, .tail _ m => entsAt.get x.2 m
theorem rowsAt.get {h : Heap} : ∀ {l : List (Addr × List Ent)} {p : Addr × List Ent}, rowsAt h l → p ∈ l → h.IsTuple p.1 (p.2.map fun e => Value.ref e.a).toArray ∧ entsAt h p.2
  | _ :: _, _, x, .head _ => x.1
  | _ :: _, _, x, .tail _ m => rowsAt.get x.2 m
theorem tup_of {K : Frag} {h : Heap} (X : K.In h) {t : Addr} {items : Array Value} {d : Option Addr} {sl : Array (Option Value)} {n : Nat} (e : K.lookup t = some ⟨.type "tuple", d, .seq items n, sl⟩) : h.IsTuple t items :=
  ⟨_, X _ _ e, rfl, n, rfl⟩
theorem tab_top (w : World) {h : Heap} (X : (hd.heap_39 w.params).In h) : h.IsTuple 68 (fmTab.map fun p => Value.ref p.1).toArray := tup_of (d := none) (sl := #[]) (n := 0) X (by kernel_rfl)
theorem tab_rows (w : World) {h : Heap} (X : (hd.heap_39 w.params).In h) : rowsAt h fmTab := by
  unfold fmTab
  simp only [rowsAt, entsAt, List.map_cons, List.map_nil, and_true]
  repeat' apply And.intro
  all_goals exact tup_of (d := none) (sl := #[]) (n := 0) X (by kernel_rfl)
end
section
set_option maxRecDepth 100000
set_option maxHeartbeats 8000000
noncomputable def fmPick (test : Int → Bool) (d : Str) : List Ent → Str
  | [] => d
  | e :: r => if test e.b = true then e.c else fmPick test d r
noncomputable def fmTest (n : Int) (i : Nat) (b : Int) : Bool := if i = 0 then Builtin.bitAnd n 61440 == b else Builtin.bitAnd n b == b
noncomputable def fmSeg (n : Int) (i : Nat) : Str := fmPick (fmTest n i) (if i = 0 then Str.ofString "?" else Str.ofString "-") ((fmTab[i]?.map (·.2)).getD [])
noncomputable def fmList (n : Int) (i : Nat) : List Str := (List.range i).map (fmSeg n)
theorem fmPick_hit {test : Int → Bool} {d : Str} : ∀ {l : List Ent} {j : Nat} {e : Ent}, (∀ q ∈ l.take j, test q.b = false) → l[j]? = some e → test e.b = true → fmPick test d l = e.c
  | [], _, _, _, h, _ => by simp at h
  | q :: r, 0, e, _, h, ht => by
    have e1 : q = e := by simpa using h
    subst e1
    unfold fmPick
    rw [if_pos ht]
  | q :: r, j + 1, e, hn, h, ht => by
    have h1 : test q.b = false := hn q (by simp)
    unfold fmPick
    rw [h1]
    simp only [Bool.false_eq_true, if_false]
    exact fmPick_hit (j := j) (fun x hx => hn x (by simp [hx])) (by simpa using h) ht
theorem fmPick_miss {test : Int → Bool} {d : Str} : ∀ {l : List Ent}, (∀ q ∈ l, test q.b = false) → fmPick test d l = d
  | [], _ => rfl
  | q :: r, hn => by
    unfold fmPick
    rw [hn q (.head _)]
    simp only [Bool.false_eq_true, if_false]
    exact fmPick_miss fun x hx => hn x (.tail _ hx)
theorem fm_hit0 {n : Int} {i : Nat} {b : Int} (h0 : (i : Int) = 0) (h : Builtin.bitAnd n 61440 = b) : fmTest n i b = true := by
  unfold fmTest; rw [if_pos (by omega)]; simp [h]
theorem fm_hit1 {n : Int} {i : Nat} {b : Int} (h0 : (i : Int) ≠ 0) (h : Builtin.bitAnd n b = b) : fmTest n i b = true := by
  unfold fmTest; rw [if_neg (by omega)]; simp [h]
theorem fm_miss0 {n : Int} {i : Nat} {b : Int} (h0 : (i : Int) = 0) (h : Builtin.bitAnd n 61440 ≠ b) : fmTest n i b = false := by
  unfold fmTest; rw [if_pos (by omega)]; simp [h]
theorem fm_miss1 {n : Int} {i : Nat} {b : Int} (h0 : (i : Int) ≠ 0) (h : Builtin.bitAnd n b ≠ b) : fmTest n i b = false := by
  unfold fmTest; rw [if_neg (by omega)]; simp [h]
theorem fmList_succ (n : Int) (i : Nat) : fmList n (i + 1) = fmList n i ++ [fmSeg n i] := by
  unfold fmList; rw [List.range_succ, List.map_append]; rfl
theorem fmSeg_at {n : Int} {i : Nat} {p : Addr × List Ent} (hp : fmTab[i]? = some p) : fmSeg n i = fmPick (fmTest n i) (if i = 0 then Str.ofString "?" else Str.ofString "-") p.2 := by
  unfold fmSeg; rw [hp]; rfl
theorem strs_push {its : Array Value} {l : List Str} {c : Str} {tc : Tok} (h : StrsAre its.toList l) : StrsAre (its.push (.str c tc)).toList (l ++ [c]) := by
  rw [Array.toList_push]; exact StrsAre.append' h (.cons _ _ .nil)
theorem fm_strs {n : Int} {i : Nat} {its : Array Value} {c : Str} {tc : Tok} (h : StrsAre its.toList (fmList n i)) (e : fmSeg n i = c) : StrsAre (its.push (.str c tc)).toList (fmList n (i + 1)) := by
  rw [fmList_succ, e]; exact strs_push h
theorem fmTab_len : ∀ p ∈ fmTab, ∀ e ∈ p.2, e.c.length = 1 := by
  unfold fmTab
  simp only [List.forall_mem_cons, List.not_mem_nil, false_implies, implies_true, and_true]
  repeat' apply And.intro
  all_goals rfl
theorem fmPick_len {test : Int → Bool} {d : Str} : ∀ {l : List Ent}, d.length = 1 → (∀ e ∈ l, e.c.length = 1) → (fmPick test d l).length = 1
  | [], h, _ => h
  | q :: r, h, hl => by
    unfold fmPick
    split
    · exact hl q (.head _)
    · exact fmPick_len h fun e he => hl e (.tail _ he)
theorem fmSeg_len (n : Int) (i : Nat) : (fmSeg n i).length = 1 := by
  unfold fmSeg
  refine fmPick_len (by split <;> decide +kernel) ?_
  cases h : fmTab[i]? with
  | none => intro e he; cases he
  | some p => exact fmTab_len p (List.mem_of_getElem? h)
theorem fmList_ok (n : Int) : ((fmList n 10).map (·.length)).sum + (fmList n 10).length * (Str.ofString "").length ≤ 16777216 := by
  have e1 : (Str.ofString "").length = 0 := by decide +kernel
  have e2 : (fmList n 10).map (·.length) = (List.range 10).map fun _ => 1 := by
    unfold fmList; rw [List.map_map]; apply List.map_congr_left; intro i _; exact fmSeg_len n i
  rw [e1, e2, Nat.mul_zero]
  decide
theorem miss_succ {test : Int → Bool} {l : List Ent} {j : Nat} {e : Ent} (hn : ∀ q ∈ l.take j, test q.b = false) (h : l[j]? = some e) (ht : test e.b = false) : ∀ q ∈ l.take (j + 1), test q.b = false := by
  intro q hq
  rw [List.take_add_one, h] at hq
  rcases List.mem_append.mp hq with hq | hq
  · exact hn q hq
  · have : q = e := by simpa using hq
    rw [this]; exact ht
local macro_rules | `(tactic| walk_at "call type:enumerate") => `(tactic| refine Stop.out ?_)
local macro_rules | `(tactic| walk_at "pyIter ref") => `(tactic| refine Stop.out ?_)
local macro_rules | `(tactic| walk_at "exec For Tuple Call cons nil") => `(tactic| refine forN ?_ (fun _ => rfl))
local macro_rules | `(tactic| walk_at "exec For Tuple Name cons cons") => `(tactic| refine forN ?_ (fun _ => rfl))
local macro_rules | `(tactic| walk_at "call ref") => `(tactic| (
  refine' Claim.useV (c_ifmt _ _ _ _ _ _ _) ?k1 ?k2 ?k3 ?k4 ?k5 ?kK ?kd ?ku ?_
  (case k1 => k_asm)
  (case k2 => k_asm)
  (case k3 => k_asm)
  (case k4 => k_asm)
  (case k5 => k_asm)
  (case kK => first | exact rfl | assumption)
  (case kd => ktr_room)
  (case ku => ktr_units)
  intro t9 h9 tk9 F9 N9
  (try dsimp only)
  (try k_fold)))
local macro_rules | `(tactic| k_all) => `(tactic| first | with_reducible assumption | exact tail_ne (by with_reducible assumption))
local macro_rules | `(tactic| walk_at "call builtin:list.append") => `(tactic| (
  (with_reducible show wpAny _ _ (call (Value.builtin _) [Value.ref _, _]) _ _ _)
  k_dflt (refine' append_K ?k1 ?k2 ?k3 ?_ ?z; (case k1 => k_asm); (case k2 => k_asm); (case k3 => k_upd); (case z => with_reducible assumption); k_whole)
  intro h' F' N'
  (try k_sweep)))
local macro_rules | `(tactic| walk_at "call builtin:str.join") => `(tactic| (
  refine' join_list (ys := fmList _ 10) ⟨_, News.get (by assumption) (.head _), rfl, _, rfl⟩ (by assumption) (fmList_ok _) ?_
  intro _ _))
local macro_rules | `(tactic| walk_at "ForPost") => `(tactic| dsimp only [ForPost])
local macro_rules | `(tactic| walk_at "End2") => `(tactic| refine Stop.out ?_)
local macro_rules | `(tactic| walk_at "UnrEnd") => `(tactic| refine Stop.out ?_)
abbrev fmPs (n : Int) (t : Tok) (P : Addr) : List (Str × Value) := [(Str.ofString "mode", Value.int n t), (Str.ofString "perm", Value.ref P)]
abbrev fmSt : List Str := [Str.ofString "index", Str.ofString "table", Str.ofString "bit", Str.ofString "char"]
theorem c_filemode (w : World) (mean : ExcName → Option Value) (mg mb : Str → Option Value) (news : List (Addr × Obj)) (n : Int) (t : Tok) :
    Claim w mean mg mb 75 2 32 [.int n t] news (PureR (fun t => .str (Txt.join (Str.ofString "") (fmList n 10)) t) news) := by
  dsimp only [Claim]; k_fill
  intros; rename_i hret
  refine wpAny_call ?_
  k_dflt cell_enter
  refine wpAny_mono (E := fun _ _ => False) ?_ (fun _ _ h => h) (fun _ _ h => h.elim)
  (try k_fold)
  k_steps
  unfold Stop
  rename Fr _ _ _ _ => lF'
  rename News _ _ _ _ => lN'
  rename (∀ (p : Addr × Obj), p ∈ news → p.1 < _) => hP
  rename Frag.In _ _ => hX
  rename_i P hp1 hp2
  have hT := tab_top w hX
  have hR := tab_rows w hX
  refine enumT_for (J := fun i m nx => ∃ its ep, nx = (P, W.listOf its ep) :: news ∧ StrsAre its.toList (fmList n i) ∧ Agree (fmPs n t P) fmSt (fun _ => none) m) rfl hT lF' lN' ?_ ?_ ?_
  · refine ⟨_, _, rfl, StrsAre.nil, ⟨List.forall_mem_cons.mpr ⟨?m1, List.forall_mem_cons.mpr ⟨?m2, List.forall_mem_nil _⟩⟩, ?m3⟩⟩
    (case m1 => with_unfolding_all rfl)
    (case m2 => with_unfolding_all rfl)
    (case m3 => walk_at "same")
  · clear lF' lN'
    rintro i v m nx h tk T k e oe it oi hv ⟨its, ep, rfl, hS, hA⟩ off hoff hce hci F N
    obtain ⟨u, rfl⟩ := hA.ex
    clear hA
    have o1 := neN (off _ (.head _)).1
    have o1' := neN (off _ (.head _)).2
    have o2 := neN (hoff.2.2 _ (.head _))
    have o3 := neN hoff.1
    have o4 := neN hoff.2.1
    have hi : i < 10 := by
      have q := (Array.getElem?_eq_some_iff.mp hv).1
      simpa [fmTab] using q
    obtain ⟨p, hp⟩ : ∃ p, fmTab[i]? = some p := ⟨_, List.getElem?_eq_getElem (by simpa [fmTab] using hi)⟩
    have hv' : v = .ref p.1 := by
      have q : (fmTab.map fun p => Value.ref p.1)[i]? = some v := by simpa using hv
      rw [List.getElem?_map, hp] at q
      exact (Option.some.inj q).symm
    subst hv'
    have hrow := hR.get (List.mem_of_getElem? hp)
    dsimp only at o1 o1' o2
    k_steps
    unfold Stop
    rename Fr _ _ _ _ => lF'
    rename News _ _ _ _ => lN'
    refine forAt_tuple (J := fun j m nx => nx = (e, oe) :: (it, oi) :: (P, W.listOf its ep) :: news ∧ (∀ q ∈ p.2.take j, fmTest n i q.b = false) ∧ Agree ((Str.ofString "index", Value.int (i : Int) k) :: fmPs n t P) fmSt (fun _ => none) m) rfl hrow.1 lF' (fun q hq => lN' q (.tail _ hq)) ?_ ?_ ?_
    · refine ⟨rfl, (fun q hq => nomatch (show q ∈ ([] : List Ent) from hq)), ⟨List.forall_mem_cons.mpr ⟨?m0, List.forall_mem_cons.mpr ⟨?m1, List.forall_mem_cons.mpr ⟨?m2, List.forall_mem_nil _⟩⟩⟩, ?m3⟩⟩
      (case m0 => with_unfolding_all rfl)
      (case m1 => with_unfolding_all rfl)
      (case m2 => with_unfolding_all rfl)
      (case m3 => walk_at "same")
    · clear lF' lN'
      rintro j v m nx h tk I io hv2 ⟨rfl, hno, hA⟩ off2 hci2 F N
      obtain ⟨u2, rfl⟩ := hA.ex
      clear hA
      obtain ⟨en, hen⟩ : ∃ en, p.2[j]? = some en ∧ v = .ref en.a := by
        have q : (p.2.map fun e => Value.ref e.a)[j]? = some v := by simpa using hv2
        rw [List.getElem?_map] at q
        cases hq : p.2[j]? with
        | none => rw [hq] at q; cases q
        | some en => rw [hq] at q; exact ⟨en, rfl, (Option.some.inj q).symm⟩
      obtain ⟨hen, rfl⟩ := hen
      have hent := hrow.2.get (List.mem_of_getElem? hen)
      have htup : IsTup h en.a #[.int en.b en.tb, .str en.c en.tc] := by obtain ⟨o, ho, r⟩ := hent; exact ⟨o, F.keep _ _ ho, r⟩
      have p1 := neN (off2 _ (.tail _ (.tail _ (.head _))))
      have p2 := neN (off2 _ (.head _))
      have p3 := neN (off2 _ (.tail _ (.head _)))
      dsimp only at p1 p2 p3
      have hsz : its.size ≤ 10 := by
        have q := hS.length
        simp [fmList] at q
        omega
      have hsz2 : its.size ≤ sizeLine := Nat.le_trans hsz (by decide)
      k_steps
      all_goals unfold Stop
      all_goals first
        | (refine' ⟨_, _, _, _, rfl, by assumption, fun q hq => (by assumption : News _ _ _ ((I, io) :: _)) q (.tail _ hq), off_upd (C := fun a => a ≠ e ∧ a ≠ it) off, _, _, rfl, fm_strs hS ((fmSeg_at hp).trans (fmPick_hit hno hen ?t1)), ⟨List.forall_mem_cons.mpr ⟨?m1, List.forall_mem_cons.mpr ⟨?m2, List.forall_mem_nil _⟩⟩, ?m3⟩⟩
           (case t1 => first | exact fm_hit0 (by assumption) (by assumption) | exact fm_hit1 (by assumption) (by assumption))
           (case m1 => with_unfolding_all rfl)
           (case m2 => with_unfolding_all rfl)
           (case m3 => walk_at "same"))
        | (refine' UnrEnd.intro (by assumption) (by assumption) _ (fun _ h => h) off2 ⟨rfl, miss_succ hno hen ?t1, ⟨List.forall_mem_cons.mpr ⟨?m0, List.forall_mem_cons.mpr ⟨?m1, List.forall_mem_cons.mpr ⟨?m2, List.forall_mem_nil _⟩⟩⟩, ?m3⟩⟩
           (case t1 => first | exact fm_miss0 (by assumption) (by assumption) | exact fm_miss1 (by assumption) (by assumption))
           (case m0 => with_unfolding_all rfl)
           (case m1 => with_unfolding_all rfl)
           (case m2 => with_unfolding_all rfl)
           (case m3 => walk_at "same"))
    · clear lF' lN'
      rintro m nx h tk ⟨rfl, hno, hA⟩ F N
      obtain ⟨u2, rfl⟩ := hA.ex
      clear hA
      have hno' : ∀ q ∈ p.2, fmTest n i q.b = false := by
        intro q hq
        exact hno q (by simpa using hq)
      have hsz : its.size ≤ 10 := by
        have q := hS.length
        simp [fmList] at q
        omega
      have hsz2 : its.size ≤ sizeLine := Nat.le_trans hsz (by decide)
      k_steps
      all_goals unfold Stop
      all_goals (
        refine' ⟨_, _, _, _, rfl, by assumption, by assumption, off_upd (C := fun a => a ≠ e ∧ a ≠ it) off, _, _, rfl, fm_strs hS ((fmSeg_at hp).trans ((fmPick_miss hno').trans ?t1)), ⟨List.forall_mem_cons.mpr ⟨?m1, List.forall_mem_cons.mpr ⟨?m2, List.forall_mem_nil _⟩⟩, ?m3⟩⟩
        (case t1 => first | exact if_pos (by omega) | exact if_neg (by omega))
        (case m1 => with_unfolding_all rfl)
        (case m2 => with_unfolding_all rfl)
        (case m3 => walk_at "same"))
  · clear lF' lN'
    rintro m nx h tk ⟨its, ep, rfl, hS, hA⟩ F N
    obtain ⟨u, rfl⟩ := hA.ex
    clear hA
    k_steps
    exact retV hret (by assumption) (fun q hq => (by assumption : News _ _ _ ((P, W.listOf its ep) :: news)) q (.tail _ hq)) rfl
end
section
set_option maxRecDepth 100000
set_option maxHeartbeats 8000000
local macro_rules | `(tactic| walk_at "call type:enumerate") => `(tactic| ((with_reducible show wpAny _ _ (call (Value.type _) [Value.ref _]) _ _ _); refine Stop.out ?_))
local macro_rules | `(tactic| walk_at "exec For Tuple Call cons nil") => `(tactic| ((goal_lacks PySem.Stmt.If); refine forN ?_ (fun _ => rfl)))
local macro_rules | `(tactic| walk_at "call builtin:str.split") => `(tactic| (
  (refine' split_led (by assumption) (by assumption) (by decide +kernel) ?z (by assumption) ?_)
  (case z => with_reducible assumption)
  intro P its h' k hP hS F' N'
  (try k_sweep)))
local macro_rules | `(tactic| walk_at "subscriptTail Name Constant ref int") => `(tactic| (
  refine' item_strs (by assumption) (.head _) (by assumption) (by decide) (by decide) rfl ?_ (by with_unfolding_all rfl)
  intro _))
local macro_rules | `(tactic| walk_at "subscriptTail Name Slice str ref") => `(tactic| (
  with_unfolding_all refine' cut_str ?k1 ?k2 ?k3 ?_ ?k4 ?k5
  (case k1 => k_asm)
  (case k2 => k_asm)
  (case k3 => with_reducible assumption)
  (case k4 => with_unfolding_all rfl)
  (case k5 => intro _; with_unfolding_all rfl)
  intro h' t' k F' N'
  (try k_sweep)))
local macro_rules | `(tactic| walk_at "setItem ref int") => `(tactic| (
  k_dflt (refine' set_led ?k1 ?k2 ?k3 ?k4 ?k5 ?k6 ?_; (case k1 => k_asm); (case k2 => k_asm); (case k3 => k_upd); (case k4 => omega); (case k5 => omega); (case k6 => omega); k_whole)
  intro h' F' N'
  (try k_sweep)))
local macro_rules | `(tactic| walk_at "call builtin:str.join") => `(tactic| (
  refine' join_list ⟨_, News.get (by assumption) (.head _), rfl, _, rfl⟩ (by assumption) (by assumption) ?_
  intro _ _))
local macro_rules | `(tactic| k_all) => `(tactic| first | with_reducible assumption | exact tail_ne (by with_reducible assumption))
local macro_rules | `(tactic| walk_at "ForPost") => `(tactic| dsimp only [ForPost])
local macro_rules | `(tactic| walk_at "End2") => `(tactic| refine Stop.out ?_)
theorem strs_set {c : Str} {t : Tok} : ∀ {vs : List Value} {ss : List Str}, StrsAre vs ss → ∀ j, StrsAre (vs.set j (.str c t)) (ss.set j c)
  | _, _, .nil, _ => .nil
  | _, _, .cons _ _ r, 0 => .cons _ _ r
  | _, _, .cons y u r, j + 1 => .cons y u (strs_set r j)
theorem cut_turn {f : Str → Str} {l : List Str} {j : Nat} {z : Str} (h : l[j]? = some z) : ((l.take j).map f ++ l.drop j).set j (f z) = (l.take (j + 1)).map f ++ l.drop (j + 1) := by
  have hj : j < l.length := (List.getElem?_eq_some_iff.mp h).1
  have e1 : ((l.take j).map f).length = j := by simp; omega
  rw [List.set_append_right _ _ (by omega), e1, Nat.sub_self, List.take_add_one, h]
  have e2 : l.drop j = z :: l.drop (j + 1) := by
    rw [List.drop_eq_getElem_cons hj]
    congr 1
    exact Option.some.inj ((List.getElem?_eq_getElem hj).symm.trans h)
  rw [e2]
  simp
theorem cut_strs {i j : Nat} {its : Array Value} {l : List Str} {z : Str} {t : Tok} (h : l[j]? = some z) (hS : StrsAre its.toList ((l.take j).map (cutS i) ++ l.drop j)) :
    StrsAre (its.setIfInBounds ((j : Int)).toNat (.str (cutS i z) t)).toList ((l.take (j + 1)).map (cutS i) ++ l.drop (j + 1)) := by
  rw [← cut_turn h, Int.toNat_natCast, Array.toList_setIfInBounds]
  exact strs_set hS j
theorem cut_sum (i : Nat) : ∀ l : List Str, (((l.map (cutS i)).map (·.length)).sum) ≤ (l.map (·.length)).sum
  | [] => Nat.le_refl _
  | z :: r => by
    have h1 : (cutS i z).length ≤ z.length := by
      unfold cutS
      show (z.cps.toList.drop i).toArray.size ≤ z.cps.size
      simp
    have h2 := cut_sum i r
    simp only [List.map_cons, List.sum_cons]
    omega
theorem c_dedent (w : World) (mean : ExcName → Option Value) (mg mb : Str → Option Value) (news : List (Addr × Obj)) (x : Str) (t : Tok) (hx : x.length + 2 ≤ sizeLine) (y : Str) (ys : List Str)
    (hs : Txt.split x (Str.ofString "\n") = y :: ys) (i : Nat) (c : Str) (hf : List.find? (fun p => p.1 != Str.ofString " ") (signs y).zipIdx = some (c, i)) :
    Claim w mean mg mb 21 1 32 [.str x t] news (PureR (fun t => .str (Txt.join (Str.ofString "\n") ((y :: ys).map (cutS i))) t) news) := by
  dsimp only [Claim]; k_fill
  intros; rename_i hret
  refine wpAny_call ?_
  k_dflt cell_enter
  refine wpAny_mono (E := fun _ _ => False) ?_ (fun _ _ h => h) (fun _ _ h => h.elim)
  (try k_fold)
  k_steps
  rotate_left
  · exfalso
    rename (∀ (p : Str × Nat), p ∈ (signs y).zipIdx → (p.1 != Str.ofString " ") = false) => hno
    have q := List.find?_some hf
    have q2 := hno _ (List.mem_of_find?_eq_some hf)
    simp only at q q2
    rw [q2] at q
    cases q
  unfold Stop
  rename List.find? _ _ = some _ => hf2
  rename (∀ (p : Addr × Obj), p ∈ news → p.1 < _) => hP
  rename StrsAre _ _ => hS
  rename Fr _ _ _ _ => lF'
  rename News _ _ _ _ => lN'
  rw [hf] at hf2
  obtain ⟨rfl, rfl⟩ := Prod.mk.inj (Option.some.inj hf2)
  rename_i P its hh2 kk hh1 Fx Nx tt1 hh0 e0 a4 a3 a2 ti own hh4 tk4 wc a1 i1 a0
  clear Fx Nx a4 a3 a2 hf2
  replace lN' : News _ _ _ ((P, W.listOf its 0) :: news) := fun p hp => lN' p (List.mem_append_right _ hp)
  have hsz0 : its.size = ys.length + 1 := by rw [← Array.length_toList, StrsAre.length hS]; rfl
  refine enumL_for (l := P) (n := ys.length + 1) (J := fun j m nx => ∃ its', nx = (P, W.listOf its' 0) :: news ∧ its'.size = ys.length + 1 ∧ StrsAre its'.toList (((y :: ys).take j).map (cutS i) ++ (y :: ys).drop j) ∧
    Agree [(Str.ofString "lines", Value.ref P), (Str.ofString "i", Value.int (i : Int) ti)] [Str.ofString "ch", Str.ofString "j", Str.ofString "l", Str.ofString "text"] (fun _ => none) m) rfl lF' lN' ?_ ?_ ?_ ?_
  · refine ⟨its, rfl, hsz0, hS, ⟨List.forall_mem_cons.mpr ⟨?m1, List.forall_mem_cons.mpr ⟨?m2, List.forall_mem_nil _⟩⟩, ?m3⟩⟩
    (case m1 => with_unfolding_all rfl)
    (case m2 => with_unfolding_all rfl)
    (case m3 =>
      intro z h2 h3
      simp only [List.forall_mem_cons, List.not_mem_nil, false_implies, implies_true, and_true, ne_eq] at h2
      simp only [List.contains_cons, List.contains_nil, Bool.or_false, Bool.or_eq_false_iff, beq_eq_false_iff_ne, ne_eq] at h3
      have e9 : (z == Str.ofString "text") = false := by simp [h3]
      simp [bindM, h2, h3, List.lookup_cons, e9])
  · rintro j m nx ⟨its', rfl, hz, _, _⟩
    exact ⟨_, its', 0, .head _, rfl, rfl, hz⟩
  · clear lF' lN'
    rintro j v m nx h tk T k e oe it oi hj hv ⟨its', rfl, hz, hS', hA⟩ off hoff hce hci F N
    obtain ⟨u, rfl⟩ := hA.ex
    clear hA
    have hv' := hv _ _ _ (.head _) rfl
    have o1 := neN (off _ (.head _)).1
    have o1' := neN (off _ (.head _)).2
    have o2 := neN (hoff.2.2 _ (.head _))
    have o3 := neN hoff.1
    have o4 := neN hoff.2.1
    dsimp only at o1 o1' o2
    obtain ⟨z, hz1, tz, rfl⟩ : ∃ z, (y :: ys)[j]? = some z ∧ ∃ tz, v = .str z tz := by
      have q : ((((y :: ys).take j).map (cutS i)) ++ (y :: ys).drop j)[j]? = (y :: ys)[j]? := by
        rw [List.getElem?_append_right (by simp; omega)]
        simp
        congr 1
        omega
      have hj' : j < (y :: ys).length := by simpa using hj
      have q2 := List.getElem?_eq_getElem hj'
      obtain ⟨tz, ht⟩ := StrsAre.get hS' j _ (q.trans q2)
      rw [Array.getElem?_toList] at ht
      rw [hv'] at ht
      exact ⟨_, q2, tz, Option.some.inj ht⟩
    have hzl : z.length ≤ sizeLine := by
      have q := part_short (y := Str.ofString "\n") (x := x) (a := z) (by rw [hs]; exact List.mem_of_getElem? hz1)
      omega
    have hfit : sizeLine ≤ 16777216 := by decide
    have hys : ys.length + 1 ≤ sizeLine := by
      have q := split_weight x (Str.ofString "\n") (by decide +kernel)
      rw [hs] at q
      simp only [List.length_cons] at q
      omega
    k_steps
    unfold Stop
    refine' ⟨_, _, _, _, rfl, by assumption, fun q hq => (by assumption : News _ _ _ ((T, _) :: _)) q (.tail _ hq), off_upd (C := fun a => a ≠ e ∧ a ≠ it) off, _, rfl, ?m8, cut_strs hz1 hS', ⟨List.forall_mem_cons.mpr ⟨?m1, List.forall_mem_cons.mpr ⟨?m2, List.forall_mem_nil _⟩⟩, ?m3⟩⟩
    (case m8 => simp [hz])
    (case m1 => with_unfolding_all rfl)
    (case m2 => with_unfolding_all rfl)
    (case m3 => walk_at "same")
  · clear lF' lN'
    rintro m nx h tk ⟨its', rfl, hz, hS', hA⟩ F N
    obtain ⟨u, rfl⟩ := hA.ex
    clear hA
    have hS2 : StrsAre its'.toList ((y :: ys).map (cutS i)) := by
      have q : ((y :: ys).take (ys.length + 1)).map (cutS i) ++ (y :: ys).drop (ys.length + 1) = (y :: ys).map (cutS i) := by
        simp
      rw [q] at hS'
      exact hS'
    have hok : ((((y :: ys).map (cutS i)).map (·.length)).sum) + ((y :: ys).map (cutS i)).length * (Str.ofString "\n").length ≤ 16777216 := by
      have q := split_weight x (Str.ofString "\n") (by decide +kernel)
      rw [hs] at q
      have q2 := cut_sum i (y :: ys)
      have q3 : (Str.ofString "\n").length = 1 := by decide +kernel
      have hfit : sizeLine ≤ 16777216 := by decide
      rw [List.length_map, q3]
      omega
    k_steps
    exact retV hret (by assumption) (fun q hq => (by assumption : News _ _ _ ((P, W.listOf its' 0) :: news)) q (.tail _ hq)) rfl
end
section
set_option maxRecDepth 100000
section
variable {prog : Program} {w : World} {A : Around} {E : Value → Shared → Prop} {s : Shared} {h₀ : Heap} {L l : Addr} {m : Str → Option Value} {news news' : List (Addr × Obj)} {its : Array Value} {n : Nat} {value slice : PySem.Expr} {lv : List Int}
theorem item_ints {k : Int} {u : Tok} {v : Int} {Q : Value → Shared → Prop} (N : News h₀ L s.heap news) (hm : (l, W.listOf its n) ∈ news) (hi : IntsAre its.toList lv) (h0 : 0 ≤ k) (hhi : k < 2 ^ 63) (hx : lv[k.toNat]? = some v) (h : ∀ t, Q (.int v t) s)
    (hs : subscripted slice false (.ref l) (.int k u) = operate [.ref l, .int k u] (getItem (.ref l) (.int k u))) :
    wpAny (model prog w) A (subscriptTail value slice (.ref l) (.int k u)) Q E s := by
  obtain ⟨t, ht⟩ := hi.get _ _ hx
  exact item_led N hm h0 hhi (v := .int v t) (by rw [← Array.getElem?_toList]; exact ht) (h t) hs
theorem ints_last {x : Int} (hi : IntsAre its.toList (lv ++ [x])) : ∃ t, its[its.size - 1]? = some (.int x t) ∧ 0 < its.size ∧ IntsAre its.toList.dropLast lv ∧ its.toList = its.toList.dropLast ++ [.int x t] := by
  have hl := hi.length
  rw [Array.length_toList, List.length_append, List.length_singleton] at hl
  obtain ⟨t, ht⟩ := hi.get lv.length x (by simp)
  rw [Array.getElem?_toList] at ht
  have e1 : its.size - 1 = lv.length := by omega
  refine ⟨t, by rw [e1]; exact ht, by omega, ?_, ?_⟩
  · have q := hi.take lv.length
    rw [List.take_left] at q
    rw [List.dropLast_eq_take, Array.length_toList, e1]
    exact q
  · have hne : its.toList ≠ [] := by
      intro q
      have := congrArg List.length q
      rw [Array.length_toList, List.length_nil] at this
      omega
    have q := (List.dropLast_concat_getLast hne).symm
    have q2 : its.toList.getLast hne = .int x t := by
      have q3 := List.getLast?_eq_some_getLast hne
      rw [List.getLast?_eq_getElem?, Array.length_toList, Array.getElem?_toList, e1, ht] at q3
      exact (Option.some.inj q3).symm
    rw [q2] at q
    exact q
/-- xs[-1] -/
theorem last_ints {x : Int} {u : Tok} {Q : Value → Shared → Prop} (N : News h₀ L s.heap news) (hm : (l, W.listOf its n) ∈ news) (hi : IntsAre its.toList (lv ++ [x])) (h : ∀ t, Q (.int x t) s)
    (hs : subscripted slice false (.ref l) (.int (-1) u) = operate [.ref l, .int (-1) u] (getItem (.ref l) (.int (-1) u))) :
    wpAny (model prog w) A (subscriptTail value slice (.ref l) (.int (-1) u)) Q E s := by
  obtain ⟨t, ht, hp, _⟩ := ints_last hi
  refine tail_any (isList_led N hm).typeIs slot_list_getitem.lookup (wpAny_getItem_list_neg (isList_led N hm) (by decide) (by omega) (by decide) (x := .int x t) ?_ (h t)) hs
  have e : ((-1 : Int) + (its.size : Int)).toNat = its.size - 1 := by omega
  rw [e]; exact ht
/-- xs.pop() -/
theorem pop_ints {x : Int} {Q : Value → Shared → Prop} (F : Fr h₀ L s.heap m) (N : News h₀ L s.heap news) (U : Upd l (W.listOf its n) (W.listOf its.toList.dropLast.toArray (n + 1)) news news') (hi : IntsAre its.toList (lv ++ [x])) (hz : its.size ≤ sizeLine)
    (h : ∀ h' t, Fr h₀ L h' m → News h₀ L h' news' → IntsAre its.toList.dropLast.toArray.toList lv → Q (.int x t) { s with heap := h' }) : wpAny (model prog w) A (call (.builtin "list.pop") [.ref l]) Q E s := by
  obtain ⟨t, ht, hp, hd, he⟩ := ints_last hi
  refine kl_pop (p := its.toList.dropLast) (y := .int x t) F N ?_ U (by rw [Array.length_toList]; exact hz) fun h' F' N' => h h' t F' N' hd
  have q := kpa_last (.int x t) its.toList.dropLast
  rw [← he] at q
  exact q
/-- xs == [] -/
theorem eq_nil {l' : Addr} {n' : Nat} {b : Bool} {Q : Value → Shared → Prop} (N : News h₀ L s.heap news) (hm : (l, W.listOf its n) ∈ news) (hm' : (l', W.listOf #[] n') ∈ news) (hi : IntsAre its.toList lv) (hu : A.units + 64 < cLine) (hb : lv.isEmpty = b) (h : Q (.bool b) s) :
    wpAny (model prog w) A (compareOp .Eq (.ref l) (.ref l')) Q E s := by
  refine eq_intsK (vs := its.toList) (us := []) (ns := lv) (ms := []) (isList_led N hm) hi (isList_led N hm') .nil hu ?_
  have e : decide (lv = []) = b := by rw [← hb]; cases lv <;> simp
  rw [e]; exact h
theorem ne_nil {l' : Addr} {n' : Nat} {b : Bool} {Q : Value → Shared → Prop} (N : News h₀ L s.heap news) (hm : (l, W.listOf its n) ∈ news) (hm' : (l', W.listOf #[] n') ∈ news) (hi : IntsAre its.toList lv) (hu : A.units + 64 < cLine) (hb : lv.isEmpty = b) (h : Q (.bool (!b)) s) :
    wpAny (model prog w) A (compareOp .NotEq (.ref l) (.ref l')) Q E s := by
  refine ne_intsK (vs := its.toList) (us := []) (ns := lv) (ms := []) (isList_led N hm) hi (isList_led N hm') .nil hu ?_
  have e : decide (lv = []) = b := by rw [← hb]; cases lv <;> simp
  rw [e]; exact h
theorem ints_push {x : Int} {t : Tok} (hi : IntsAre its.toList lv) : IntsAre (its.push (.int x t)).toList (lv ++ [x]) := by
  rw [Array.toList_push]; exact IntsAre.append hi (.cons _ _ .nil)
theorem range_small {n : Nat} (h : n ≤ 1000000) : Builtin.Range.small 0 (n : Int) 1 = true := by
  unfold Builtin.Range.small Builtin.Range.rangeFitsLong
  rw [rangeSize_nat]
  simp
  omega
theorem range_size (n : Nat) : Builtin.Range.rangeSize 0 (n : Int) 1 = (n : Int) := by rw [rangeSize_nat]; omega
end
noncomputable def WExit (h₀ : Heap) (L : Addr) (s : Shared) (P : (Str → Option Value) → List (Addr × Obj) → Prop) (s₂ : Shared) : Prop :=
  ∃ h' tk' m' nx', s₂ = { s with heap := h', toks := tk' } ∧ Fr h₀ L h' m' ∧ News h₀ L h' nx' ∧ P m' nx'
section
variable {prog : Program} {w : World} {A : Around} {s : Shared} {env : Env} {h₀ : Heap} {L : Addr} {Q : Flow → Shared → Prop}
theorem while_then {test : Expr} {body : List Stmt} {pos : Pos} {m : Str → Option Value} {news : List (Addr × Obj)} (J : Nat → (Str → Option Value) → List (Addr × Obj) → Prop) (P : (Str → Option Value) → List (Addr × Obj) → Prop) {n₀ : Nat}
    (F : Fr h₀ L s.heap m) (N : News h₀ L s.heap news) (hJ : J n₀ m news)
    (turn : ∀ n m₁ news₁ h₁ tk₁, Fr h₀ L h₁ m₁ → News h₀ L h₁ news₁ → J n m₁ news₁ →
      wpAny (model prog w) A (isTrue test env (eval test env)) (fun b s₂ =>
        if b = true then wpAny (model prog w) A (execs body env) (WhileStep2 h₀ L s J Q n) FF s₂ else WExit h₀ L s P s₂) FF { s with heap := h₁, toks := tk₁ })
    (after : ∀ m' nx' h' tk', P m' nx' → Fr h₀ L h' m' → News h₀ L h' nx' → Q .next { s with heap := h', toks := tk' }) :
    wpAny (model prog w) A (exec (.While test body [] pos) env) Q FF s := by
  refine While_inv2 J F N hJ (fun n m₁ nx h tk F₁ N₁ hJ₁ => wpAny_mono (turn n m₁ nx h tk F₁ N₁ hJ₁) (fun b s₂ p => ?_) fun _ _ e => e) PassesOwn.never
  cases b with
  | true => exact p
  | false =>
    obtain ⟨h', tk', m', nx', rfl, F', N', hP⟩ := p
    exact after m' nx' h' tk' hP F' N'
end
theorem memH {α : Type} {a : α} {l : List α} : a ∈ a :: l := List.Mem.head _
theorem memT {α : Type} {a b : α} {l : List α} (h : a ∈ l) : a ∈ b :: l := List.Mem.tail _ h
noncomputable def isD (mode : Int) : Bool := (mode.fdiv 4096).fmod 16 == 4
noncomputable def popTo (g : Int) : List Int → List Int
  | [] => []
  | x :: r => if g < x then popTo g r else x :: r
noncomputable def dueStep (st : List Int) (pd : Bool) (g : Int) : Option (List Int) :=
  match st with
  | [] => none
  | x :: r =>
    if x < g ∧ pd = false then none
    else match popTo g (if x < g then g :: x :: r else x :: r) with
      | [] => none
      | y :: q => if y = g then some (y :: q) else none
noncomputable def dueL (st : List Int) (pd : Bool) : List (Int × Int) → Bool × List (Int × Str)
  | [] => (true, [])
  | p :: rest => match dueStep st pd p.2 with
    | none => (false, [])
    | some st' => ((dueL st' (isD p.1) rest).1, ((st'.length : Int) - 1, lrPref p.1 3) :: (dueL st' (isD p.1) rest).2)

theorem dueL_none {st : List Int} {pd : Bool} {p : Int × Int} {rest : List (Int × Int)} (h : dueStep st pd p.2 = none) : dueL st pd (p :: rest) = (false, []) := by
  rw [dueL, h]
theorem dueL_some {st st' : List Int} {pd : Bool} {p : Int × Int} {rest : List (Int × Int)} (h : dueStep st pd p.2 = some st') :
    dueL st pd (p :: rest) = ((dueL st' (isD p.1) rest).1, ((st'.length : Int) - 1, lrPref p.1 3) :: (dueL st' (isD p.1) rest).2) := by
  rw [dueL, h]
theorem dueStep_leap {x g : Int} {r : List Int} (h : x < g) : dueStep (x :: r) false g = none := by
  unfold dueStep
  simp [h]
theorem dueStep_nil {x g : Int} {r : List Int} {pd : Bool} (hp : popTo g [] = popTo g (if x < g then g :: x :: r else x :: r)) : dueStep (x :: r) pd g = none := by
  unfold dueStep
  simp only
  split
  · rfl
  · rw [← hp]; rfl
theorem dueStep_off {x g y : Int} {r q : List Int} {pd : Bool} (hy : ¬ g < y) (hne : y ≠ g) (hp : popTo g (y :: q) = popTo g (if x < g then g :: x :: r else x :: r)) : dueStep (x :: r) pd g = none := by
  unfold dueStep
  simp only
  split
  · rfl
  · rw [← hp, popTo, if_neg hy]
    simp only
    rw [if_neg hne]
theorem dueStep_on {x g y : Int} {r q : List Int} {pd : Bool} (h : ¬ (x < g ∧ pd = false)) (hy : ¬ g < y) (he : y = g) (hp : popTo g (y :: q) = popTo g (if x < g then g :: x :: r else x :: r)) : dueStep (x :: r) pd g = some (y :: q) := by
  unfold dueStep
  simp only
  rw [if_neg h, ← hp, popTo, if_neg hy]
  simp only
  rw [if_pos he]
theorem popTo_cons {g y : Int} {q : List Int} (h : g < y) : popTo g (y :: q) = popTo g q := by
  rw [popTo, if_pos h]
noncomputable def toDat (p : Int × Str) : Dat := .tuple [.int p.1, .str p.2]
noncomputable def DueR (B : Bool) (TT : List (Int × Str)) (news : List (Addr × Obj)) (r : Value) (news' : List (Addr × Obj)) : Prop :=
  ∃ T D tv eD eT, r = .ref T ∧ (T, ({ cls := .type "tuple", data := .seq #[.bool B, .ref D] eT } : Obj)) ∈ news' ∧ (D, W.listOf tv eD) ∈ news' ∧ DatAll news' tv.toList (TT.map toDat) ∧ ∀ p ∈ news, p ∈ news'
theorem dueR_intro {B : Bool} {TT : List (Int × Str)} {news rest led : List (Addr × Obj)} {T D : Addr} {tv : Array Value} {eD eT : Nat} (h1 : (T, ({ cls := .type "tuple", data := .seq #[.bool B, .ref D] eT } : Obj)) ∈ led) (h2 : (D, W.listOf tv eD) ∈ led)
    (h3 : DatAll rest tv.toList (TT.map toDat)) (h4 : ∀ p ∈ rest, p ∈ led) (h5 : ∀ p ∈ news, p ∈ rest) : DueR B TT news (.ref T) led :=
  ⟨T, D, tv, eD, eT, rfl, h1, h2, h3.mono h4, fun p hp => h4 p (h5 p hp)⟩
theorem datall_push {rest : List (Addr × Obj)} {tv : Array Value} {told : List (Int × Str)} {a : Addr} {d : Int} {x : Str} {t1 t2 : Tok} {e : Nat} {o : Obj} (ho : o = { cls := .type "tuple", data := .seq #[.int d t1, .str x t2] e }) (h : DatAll rest tv.toList (told.map toDat)) :
    DatAll ((a, o) :: rest) (tv.push (.ref a)).toList ((told ++ [(d, x)]).map toDat) := by
  subst ho
  rw [Array.toList_push, List.map_append]
  refine (h.mono fun p hp => memT hp).append (.one ?_)
  exact DatIn.tuple (vs := [.int d t1, .str x t2]) memH (.cons (.int _ _) (.cons (.str _ _) .nil))
end
local macro_rules | `(tactic| walk_at "mem") => `(tactic| first | with_reducible assumption | with_reducible exact memH | (with_reducible refine memT ?_; walk_at "mem"))
local macro_rules | `(tactic| k_all) => `(tactic| first | with_reducible assumption | exact tail_ne (by with_reducible assumption))
section
set_option maxRecDepth 100000
set_option maxHeartbeats 8000000
local macro_rules | `(tactic| walk_at "pyIter ref") => `(tactic| refine Stop.out ?_)
local macro_rules | `(tactic| walk_at "exec While BoolOp cons nil") => `(tactic| refine Stop.out ?_)
local macro_rules | `(tactic| walk_at "UnrEnd") => `(tactic| refine Stop.out ?_)
local macro_rules | `(tactic| walk_at "WhileStep2") => `(tactic| (dsimp only [WhileStep2]; refine Stop.out ?_))
local macro_rules | `(tactic| walk_at "call builtin:len") => `(tactic| (
  refine' len_led ?k1 ?k2 ?k3 ?k4 ?_
  (case k1 => k_asm)
  (case k2 => walk_at "mem")
  (case k3 => with_reducible assumption)
  (case k4 => omega)
  intro _ _))
local macro_rules | `(tactic| walk_at "subscriptTail Name Name ref int") => `(tactic| (
  refine' item_ints ?k1 ?k2 ?k3 ?k4 ?k5 ?k6 ?_ ?k7
  (case k1 => k_asm)
  (case k2 => walk_at "mem")
  (case k3 => with_reducible assumption)
  (case k6 => with_reducible assumption)
  (case k4 => omega)
  (case k5 => omega)
  (case k7 => with_unfolding_all rfl)
  intro _))
local macro_rules | `(tactic| walk_at "subscriptTail Name Constant ref int") => `(tactic| (
  refine' item_ints ?k1 ?k2 ?k3 ?k4 ?k5 ?k6 ?_ ?k7
  (case k1 => k_asm)
  (case k2 => walk_at "mem")
  (case k3 => with_reducible assumption)
  (case k6 => with_reducible assumption)
  (case k4 => omega)
  (case k5 => omega)
  (case k7 => with_unfolding_all rfl)
  intro _))
local macro_rules | `(tactic| walk_at "subscriptTail Name BinOp ref int") => `(tactic| (
  refine' item_ints ?k1 ?k2 ?k3 ?k4 ?k5 ?k6 ?_ ?k7
  (case k1 => k_asm)
  (case k2 => walk_at "mem")
  (case k3 => with_reducible assumption)
  (case k6 => with_reducible assumption)
  (case k4 => omega)
  (case k5 => omega)
  (case k7 => with_unfolding_all rfl)
  intro _))
local macro_rules | `(tactic| walk_at "subscriptTail Name UnaryOp ref int") => `(tactic| (
  refine' last_ints ?k1 ?k2 ?k3 ?_ ?k7
  (case k1 => k_asm)
  (case k2 => walk_at "mem")
  (case k3 => with_reducible assumption)
  (case k7 => with_unfolding_all rfl)
  intro _))
local macro_rules | `(tactic| walk_at "compareOp Eq ref ref") => `(tactic| (
  refine' eq_nil ?k1 ?k2 ?k3 ?k4 ?k5 ?k6 ?_
  (case k1 => k_asm)
  (case k2 => walk_at "mem")
  (case k3 => walk_at "mem")
  (case k4 => with_reducible assumption)
  (case k5 => ktr_units)
  (case k6 => with_reducible assumption)))
local macro_rules | `(tactic| walk_at "compareOp NotEq ref ref") => `(tactic| (
  refine' ne_nil ?k1 ?k2 ?k3 ?k4 ?k5 ?k6 ?_
  (case k1 => k_asm)
  (case k2 => walk_at "mem")
  (case k3 => walk_at "mem")
  (case k4 => with_reducible assumption)
  (case k5 => ktr_units)
  (case k6 => with_reducible assumption)))
local macro_rules | `(tactic| walk_at "call builtin:list.pop") => `(tactic| (
  k_dflt (refine' pop_ints ?k1 ?k2 ?k3 ?k4 ?k5 ?_; (case k1 => k_asm); (case k2 => k_asm); (case k3 => k_upd); (case k4 => with_reducible assumption); (case k5 => with_reducible assumption); k_whole)
  intro h' t' F' N' I'
  (try k_sweep)))
local macro_rules | `(tactic| walk_at "call builtin:list.append") => `(tactic| (
  (with_reducible show wpAny _ _ (call (Value.builtin _) [Value.ref _, _]) _ _ _)
  k_dflt (refine' append_K ?k1 ?k2 ?k3 ?_ ?z; (case k1 => k_asm); (case k2 => k_asm); (case k3 => k_upd); (case z => with_reducible assumption); k_whole)
  intro h' F' N'
  (try k_sweep)))
local macro_rules | `(tactic| walk_at "call ref") => `(tactic| (
  refine' Claim.useV (c_lawrow _ _ _ _ _ _ _) ?k1 ?k2 ?k3 ?k4 ?k5 ?kK ?kd ?ku ?_
  (case k1 => k_asm)
  (case k2 => k_asm)
  (case k3 => k_asm)
  (case k4 => k_asm)
  (case k5 => k_asm)
  (case kK => first | exact rfl | assumption)
  (case kd => ktr_room)
  (case ku => ktr_units)
  intro t9 h9 tk9 F9 N9
  (try dsimp only)
  (try k_fold)))
local macro_rules | `(tactic| walk_at "sub") => `(tactic| (intro p hp; repeat (first | with_reducible assumption | refine memT ?_)))
abbrev duPs (am ag Pl Pt : Addr) : List (Str × Value) := [(Str.ofString "modes", Value.ref am), (Str.ofString "margins", Value.ref ag), (Str.ofString "levels", Value.ref Pl), (Str.ofString "told", Value.ref Pt)]
theorem c_due (w : World) (mean : ExcName → Option Value) (mg mb : Str → Option Value) (news : List (Addr × Obj)) (am ag : Addr) (em eg : Nat) (vm vg : Array Value) (ms gs : List Int)
    (hm : (am, W.listOf vm em) ∈ news) (hg : (ag, W.listOf vg eg) ∈ news) (im : IntsAre vm.toList ms) (ig : IntsAre vg.toList gs) (hlen : gs.length = ms.length) (g0 : Int) (hg0 : gs[(0 : Int).toNat]? = some g0) (hn2 : ms.length ≤ 13) :
    Claim w mean mg mb 96 3 200 [.ref am, .ref ag] news (DueR (dueL [g0] false (ms.zip gs)).1 (dueL [g0] false (ms.zip gs)).2 news) := by
  have hszm : vm.size = ms.length := by rw [← Array.length_toList, im.length]
  have hszg : vg.size = gs.length := by rw [← Array.length_toList, ig.length]
  dsimp only [Claim]; k_fill
  intros; rename_i hret
  refine wpAny_call ?_
  k_dflt cell_enter
  refine wpAny_mono (E := fun _ _ => False) ?_ (fun _ _ h => h) (fun _ _ h => h.elim)
  (try k_fold)
  k_steps
  all_goals (try unfold Stop)
  rename (∀ (p : Addr × Obj), p ∈ news → p.1 < _) => hP
  rename IsRange _ _ _ _ _ _ _ _ => hR
  rename Fr _ _ _ _ => lF'
  rename News _ _ _ _ => lN'
  rename_i tk3 t1 Pl h4 h3 tk2 Pt h2 l1 h1 Fx Nx t0 tk1 h0 tk0 ta tb tc a0
  clear Fx Nx a0
  generalize hB : (dueL [g0] false (ms.zip gs)).1 = B at hret
  generalize hT : (dueL [g0] false (ms.zip gs)).2 = TT at hret
  with_unfolding_all refine iter_rangeUnr (n := ms.length) (by rfl) hR (range_small (by omega)) (range_size _) lF' lN' ?_
  intro I hI
  have hne1 : Pl ≠ Pt := Nat.ne_of_lt l1.1
  refine rangeRest_ind (J := fun k m nx => ∃ x r pd told lvs el tvs et rest, nx = (Pt, W.listOf tvs et) :: (Pl, W.listOf lvs el) :: rest ∧ IntsAre lvs.toList (r.reverse ++ [x]) ∧ DatAll rest tvs.toList (told.map toDat) ∧ (∀ p ∈ news, p ∈ rest) ∧
    (∀ p ∈ rest, p.1 ≠ Pl) ∧ (∀ p ∈ rest, p.1 ≠ Pt) ∧ (∀ p ∈ rest, p.1 ≠ I) ∧ Agree (duPs am ag Pl Pt) ([Str.ofString "k"]) (fun _ => none) m ∧ tvs.size = k ∧ lvs.size ≤ k + 1 ∧
    (dueL (x :: r) pd ((ms.zip gs).drop k)).1 = B ∧ told ++ (dueL (x :: r) pd ((ms.zip gs).drop k)).2 = TT ∧ ((0 < k ∧ ∃ pm, ms[k - 1]? = some pm ∧ pd = isD pm) ∨ (k = 0 ∧ x = g0))) ?_ ?_ ms.length 0 _ _ rfl ?_
  · clear lF' lN' hR
    rintro i m nx t9 h tk hi ⟨x, r, pd, told, lvs, el, tvs, et, rest, rfl, hI1, hD1, hsub, off1, off2, off3, hA, hsz1, hsz2, hB', hT', hpd⟩ F N
    obtain ⟨u, rfl⟩ := hA.ex
    clear hA
    obtain ⟨md, hmd⟩ : ∃ md, ms[i]? = some md := ⟨_, List.getElem?_eq_getElem hi⟩
    obtain ⟨g, hgd⟩ : ∃ g, gs[i]? = some g := ⟨_, List.getElem?_eq_getElem (by omega)⟩
    have e0 : (0 + (i : Int)).toNat = i := by omega
    have hmk : ms[(0 + (i : Int)).toNat]? = some md := by rw [e0]; exact hmd
    have hgk : gs[(0 + (i : Int)).toNat]? = some g := by rw [e0]; exact hgd
    have hzip : (ms.zip gs).drop i = (md, g) :: (ms.zip gs).drop (i + 1) := by
      have q : (ms.zip gs)[i]? = some (md, g) := by rw [List.getElem?_zip_eq_some]; exact ⟨hmd, hgd⟩
      have hl := (List.getElem?_eq_some_iff.mp q).1
      rw [List.drop_eq_getElem_cons hl]
      congr 1
      exact Option.some.inj ((List.getElem?_eq_getElem hl).symm.trans q)
    rw [hzip] at hB' hT'
    have hm' := hsub _ hm
    have hg' := hsub _ hg
    have q1 : Pl ≠ I := fun q => by
      have := hI (Pl, W.listOf #[.int g0 t1] 0) (.tail _ (.head _))
      exact absurd this (q ▸ Nat.lt_irrefl _)
    have q2 : Pt ≠ I := fun q => by
      have := hI (Pt, W.listOf #[] 0) (.head _)
      exact absurd this (q ▸ Nat.lt_irrefl _)
    have n1 := neN hne1
    have n2 := neN q1
    have n3 := neN q2
    have hfit : sizeLine = 16777216 := by decide
    have hz1 : lvs.size ≤ sizeLine := by omega
    have hz2 : tvs.size ≤ sizeLine := by omega
    have hpk : 0 < i → ∃ pm, ms[(0 + (i : Int) - 1).toNat]? = some pm ∧ pd = isD pm := by
      intro h0
      rcases hpd with ⟨_, pm, h1, h2⟩ | ⟨h1, _⟩
      · refine ⟨pm, ?_, h2⟩
        have e1 : (0 + (i : Int) - 1).toNat = i - 1 := by omega
        rw [e1]; exact h1
      · omega
    by_cases hgx : x < g
    · have hi0 : 0 < i := by
        rcases hpd with ⟨h1, _⟩ | ⟨h1, h2⟩
        · exact h1
        · exfalso
          subst h1
          have q : gs[(0 : Int).toNat]? = some g := hgd
          rw [hg0] at q
          have q2 := Option.some.inj q
          omega
      obtain ⟨pm, hpm, hpd2⟩ := hpk hi0
      by_cases hdir : (pm.fdiv 4096).fmod 16 = 4
      · have hpdt : pd = true := by rw [hpd2]; unfold isD; rw [hdir]; rfl
        obtain ⟨st1, hst1, hI3⟩ : ∃ st1, popTo g st1 = popTo g (if x < g then g :: x :: r else x :: r) ∧ ∀ t, IntsAre (lvs.push (.int g t)).toList st1.reverse :=
          ⟨g :: x :: r, by rw [if_pos hgx], fun t => by rw [List.reverse_cons, List.reverse_cons]; exact ints_push hI1⟩
        have hz3 : ∀ t, (lvs.push (.int g t)).size ≤ i + 2 := fun t => by rw [Array.size_push]; omega
        have hno : ¬ (x < g ∧ pd = false) := fun q => by rw [hpdt] at q; exact absurd q.2 (by decide)
        k_steps
        · exact absurd hdir (by assumption)
        unfold Stop
        rename Fr _ _ _ _ => F2
        rename News _ _ _ _ => N2
        refine While_inv2 (J := fun n m' nx => ∃ st lvs1 el1, nx = (I, itR (0 + ((i + 1 : Nat) : Int)) ((ms.length : Int) - ((i + 1 : Nat) : Int))) :: (Pt, W.listOf tvs et) :: (Pl, W.listOf lvs1 el1) :: rest ∧ n = st.length ∧ IntsAre lvs1.toList st.reverse ∧
          popTo g st = popTo g (if x < g then g :: x :: r else x :: r) ∧ lvs1.size ≤ i + 2 ∧ Agree ((Str.ofString "k", Value.int (0 + (i : Int)) t9) :: duPs am ag Pl Pt) [] (fun _ => none) m') F2 N2 ⟨st1, _, _, rfl, rfl, ?w1, hst1, ?w3, ?w4⟩ ?wt PassesOwn.never
        case w1 => first | exact hI3 | exact hI3 _
        case w3 => first | exact hz3 | exact hz3 _
        case w4 =>
          refine ⟨List.forall_mem_cons.mpr ⟨?m0, List.forall_mem_cons.mpr ⟨?m1, List.forall_mem_cons.mpr ⟨?m2, List.forall_mem_cons.mpr ⟨?m3, List.forall_mem_cons.mpr ⟨?m4, List.forall_mem_nil _⟩⟩⟩⟩⟩, ?m5⟩
          (case m0 => with_unfolding_all rfl)
          (case m1 => with_unfolding_all rfl)
          (case m2 => with_unfolding_all rfl)
          (case m3 => with_unfolding_all rfl)
          (case m4 => with_unfolding_all rfl)
          (case m5 => walk_at "same")
        case wt =>
          clear F2 N2 hz3 hI3
          rintro n m₁ nx h₁ tk₁ F₁ N₁ ⟨st, lvs1, el1, rfl, rfl, hI2, hpop, hz3, hA⟩
          obtain ⟨u1, rfl⟩ := hA.ex
          clear hA
          have hz4 : lvs1.size ≤ sizeLine := by omega
          cases st with
          | nil =>
            have hb : ([] : List Int).isEmpty = true := rfl
            replace hI2 : IntsAre lvs1.toList [] := hI2
            rw [dueL_none (dueStep_nil hpop)] at hB' hT'
            subst hB'
            rw [List.append_nil] at hT'
            subst hT'
            k_steps
            (refine' hret _ _ _ _ (dueR_intro ?a1 ?a2 hD1 ?a4 hsub) ?a5 ?a6)
            (case a6 => assumption)
            (case a5 => assumption)
            (case a1 => exact memH)
            (case a2 => walk_at "mem")
            (case a4 => walk_at "sub")
          | cons y q =>
            rw [List.reverse_cons] at hI2
            have hlen1 : lvs1.size = (y :: q).length := by
              have e9 := hI2.length
              rw [Array.length_toList] at e9
              rw [e9]; simp
            have hlen2 : (y :: q).length ≤ i + 2 := by omega
            have hb : (q.reverse ++ [y]).isEmpty = false := by simp
            by_cases hgy : g < y
            · rw [popTo_cons hgy] at hpop
              k_steps
              unfold Stop
              refine' ⟨_, _, _, _, q.length, rfl, by assumption, fun p hp => (by assumption : News _ _ _ ((_, W.listOf #[] 0) :: _)) p (memT hp), Nat.lt_succ_self _, q, _, _, rfl, rfl, by assumption, hpop, ?s1, ?s2⟩
              (case s1 => simp; omega)
              (case s2 =>
                refine ⟨List.forall_mem_cons.mpr ⟨?m0, List.forall_mem_cons.mpr ⟨?m1, List.forall_mem_cons.mpr ⟨?m2, List.forall_mem_cons.mpr ⟨?m3, List.forall_mem_cons.mpr ⟨?m4, List.forall_mem_nil _⟩⟩⟩⟩⟩, ?m5⟩
                (case m0 => with_unfolding_all rfl)
                (case m1 => with_unfolding_all rfl)
                (case m2 => with_unfolding_all rfl)
                (case m3 => with_unfolding_all rfl)
                (case m4 => with_unfolding_all rfl)
                (case m5 => walk_at "same"))
            · by_cases hyg : y = g
              · rw [dueL_some (dueStep_on hno hgy hyg hpop)] at hB' hT'
                k_steps
                · exact absurd hyg (by assumption)
                unfold Stop
                rename (_ < _ ∧ _ < _ ∧ I < _ ∧ Pt < _ ∧ Pl < _ ∧ AllLt _ rest) => hDl
                obtain ⟨_, _, d1, d2, d3, d4⟩ := hDl
                refine' UnrEnd.intro (by assumption) (by assumption) _ (List.forall_mem_cons.mpr ⟨?s1, List.forall_mem_cons.mpr ⟨?s2, List.forall_mem_cons.mpr ⟨?s3, List.forall_mem_cons.mpr ⟨?s4, ?s5⟩⟩⟩⟩) ?off ⟨y, q, isD md, told ++ [(((y :: q).length : Int) - 1, lrPref md 3)], lvs1, el1, _, _, _, rfl, hI2, datall_push rfl hD1, fun p hp => memT (hsub p hp), List.forall_mem_cons.mpr ⟨Nat.ne_of_gt d3, off1⟩, List.forall_mem_cons.mpr ⟨Nat.ne_of_gt d2, off2⟩, List.forall_mem_cons.mpr ⟨Nat.ne_of_gt d1, off3⟩, ?ag, ?sz, hz3, hB', ?tt, Or.inl ⟨Nat.succ_pos _, md, hmd, rfl⟩⟩
                (case s4 => exact memH)
                (case s2 => walk_at "mem")
                (case s3 => walk_at "mem")
                (case s1 => walk_at "mem")
                (case s5 => walk_at "sub")
                (case off =>
                  intro p hp
                  simp only [List.mem_cons] at hp
                  rcases hp with rfl | rfl | rfl | h
                  · exact q2
                  · exact q1
                  · exact Nat.ne_of_gt d1
                  · exact off3 p h)
                (case ag =>
                  refine ⟨List.forall_mem_cons.mpr ⟨?m1, List.forall_mem_cons.mpr ⟨?m2, List.forall_mem_cons.mpr ⟨?m3, List.forall_mem_cons.mpr ⟨?m4, List.forall_mem_nil _⟩⟩⟩⟩, ?m5⟩
                  (case m1 => with_unfolding_all rfl)
                  (case m2 => with_unfolding_all rfl)
                  (case m3 => with_unfolding_all rfl)
                  (case m4 => with_unfolding_all rfl)
                  (case m5 => walk_at "same"))
                (case sz => rw [Array.size_push, hsz1])
                (case tt => rw [← hT']; simp)
              · rw [dueL_none (dueStep_off hgy hyg hpop)] at hB' hT'
                subst hB'
                rw [List.append_nil] at hT'
                subst hT'
                k_steps
                (refine' hret _ _ _ _ (dueR_intro ?a1 ?a2 hD1 ?a4 hsub) ?a5 ?a6)
                (case a6 => assumption)
                (case a5 => assumption)
                (case a1 => exact memH)
                (case a2 => walk_at "mem")
                (case a4 => walk_at "sub")
                exact absurd (by assumption) hyg
      · have hpdf : pd = false := by rw [hpd2]; unfold isD; simpa using hdir
        subst hpdf
        rw [dueL_none (dueStep_leap hgx)] at hB' hT'
        subst hB'
        rw [List.append_nil] at hT'
        subst hT'
        k_steps
        · (refine' hret _ _ _ _ (dueR_intro ?a1 ?a2 hD1 ?a4 hsub) ?a5 ?a6)
          (case a6 => assumption)
          (case a5 => assumption)
          (case a1 => exact memH)
          (case a2 => walk_at "mem")
          (case a4 => walk_at "sub")
        · exact absurd (by assumption) hdir
    · obtain ⟨st1, hst1, hI3⟩ : ∃ st1, popTo g st1 = popTo g (if x < g then g :: x :: r else x :: r) ∧ IntsAre lvs.toList st1.reverse :=
          ⟨x :: r, by rw [if_neg hgx], by rw [List.reverse_cons]; exact hI1⟩
      have hz3 : lvs.size ≤ i + 2 := by omega
      have hno : ¬ (x < g ∧ pd = false) := fun q => hgx q.1
      k_steps
      unfold Stop
      rename Fr _ _ _ _ => F2
      rename News _ _ _ _ => N2
      refine While_inv2 (J := fun n m' nx => ∃ st lvs1 el1, nx = (I, itR (0 + ((i + 1 : Nat) : Int)) ((ms.length : Int) - ((i + 1 : Nat) : Int))) :: (Pt, W.listOf tvs et) :: (Pl, W.listOf lvs1 el1) :: rest ∧ n = st.length ∧ IntsAre lvs1.toList st.reverse ∧
        popTo g st = popTo g (if x < g then g :: x :: r else x :: r) ∧ lvs1.size ≤ i + 2 ∧ Agree ((Str.ofString "k", Value.int (0 + (i : Int)) t9) :: duPs am ag Pl Pt) [] (fun _ => none) m') F2 N2 ⟨st1, _, _, rfl, rfl, ?w1, hst1, ?w3, ?w4⟩ ?wt PassesOwn.never
      case w1 => first | exact hI3 | exact hI3 _
      case w3 => first | exact hz3 | exact hz3 _
      case w4 =>
        refine ⟨List.forall_mem_cons.mpr ⟨?m0, List.forall_mem_cons.mpr ⟨?m1, List.forall_mem_cons.mpr ⟨?m2, List.forall_mem_cons.mpr ⟨?m3, List.forall_mem_cons.mpr ⟨?m4, List.forall_mem_nil _⟩⟩⟩⟩⟩, ?m5⟩
        (case m0 => with_unfolding_all rfl)
        (case m1 => with_unfolding_all rfl)
        (case m2 => with_unfolding_all rfl)
        (case m3 => with_unfolding_all rfl)
        (case m4 => with_unfolding_all rfl)
        (case m5 => walk_at "same")
      case wt =>
        clear F2 N2 hz3 hI3
        rintro n m₁ nx h₁ tk₁ F₁ N₁ ⟨st, lvs1, el1, rfl, rfl, hI2, hpop, hz3, hA⟩
        obtain ⟨u1, rfl⟩ := hA.ex
        clear hA
        have hz4 : lvs1.size ≤ sizeLine := by omega
        cases st with
        | nil =>
          have hb : ([] : List Int).isEmpty = true := rfl
          replace hI2 : IntsAre lvs1.toList [] := hI2
          rw [dueL_none (dueStep_nil hpop)] at hB' hT'
          subst hB'
          rw [List.append_nil] at hT'
          subst hT'
          k_steps
          (refine' hret _ _ _ _ (dueR_intro ?a1 ?a2 hD1 ?a4 hsub) ?a5 ?a6)
          (case a6 => assumption)
          (case a5 => assumption)
          (case a1 => exact memH)
          (case a2 => walk_at "mem")
          (case a4 => walk_at "sub")
        | cons y q =>
          rw [List.reverse_cons] at hI2
          have hlen1 : lvs1.size = (y :: q).length := by
            have e9 := hI2.length
            rw [Array.length_toList] at e9
            rw [e9]; simp
          have hlen2 : (y :: q).length ≤ i + 2 := by omega
          have hb : (q.reverse ++ [y]).isEmpty = false := by simp
          by_cases hgy : g < y
          · rw [popTo_cons hgy] at hpop
            k_steps
            unfold Stop
            refine' ⟨_, _, _, _, q.length, rfl, by assumption, fun p hp => (by assumption : News _ _ _ ((_, W.listOf #[] 0) :: _)) p (memT hp), Nat.lt_succ_self _, q, _, _, rfl, rfl, by assumption, hpop, ?s1, ?s2⟩
            (case s1 => simp; omega)
            (case s2 =>
              refine ⟨List.forall_mem_cons.mpr ⟨?m0, List.forall_mem_cons.mpr ⟨?m1, List.forall_mem_cons.mpr ⟨?m2, List.forall_mem_cons.mpr ⟨?m3, List.forall_mem_cons.mpr ⟨?m4, List.forall_mem_nil _⟩⟩⟩⟩⟩, ?m5⟩
              (case m0 => with_unfolding_all rfl)
              (case m1 => with_unfolding_all rfl)
              (case m2 => with_unfolding_all rfl)
              (case m3 => with_unfolding_all rfl)
              (case m4 => with_unfolding_all rfl)
              (case m5 => walk_at "same"))
          · by_cases hyg : y = g
            · rw [dueL_some (dueStep_on hno hgy hyg hpop)] at hB' hT'
              k_steps
              · exact absurd hyg (by assumption)
              unfold Stop
              rename (_ < _ ∧ _ < _ ∧ I < _ ∧ Pt < _ ∧ Pl < _ ∧ AllLt _ rest) => hDl
              obtain ⟨_, _, d1, d2, d3, d4⟩ := hDl
              refine' UnrEnd.intro (by assumption) (by assumption) _ (List.forall_mem_cons.mpr ⟨?s1, List.forall_mem_cons.mpr ⟨?s2, List.forall_mem_cons.mpr ⟨?s3, List.forall_mem_cons.mpr ⟨?s4, ?s5⟩⟩⟩⟩) ?off ⟨y, q, isD md, told ++ [(((y :: q).length : Int) - 1, lrPref md 3)], lvs1, el1, _, _, _, rfl, hI2, datall_push rfl hD1, fun p hp => memT (hsub p hp), List.forall_mem_cons.mpr ⟨Nat.ne_of_gt d3, off1⟩, List.forall_mem_cons.mpr ⟨Nat.ne_of_gt d2, off2⟩, List.forall_mem_cons.mpr ⟨Nat.ne_of_gt d1, off3⟩, ?ag, ?sz, hz3, hB', ?tt, Or.inl ⟨Nat.succ_pos _, md, hmd, rfl⟩⟩
              (case s4 => exact memH)
              (case s2 => walk_at "mem")
              (case s3 => walk_at "mem")
              (case s1 => walk_at "mem")
              (case s5 => walk_at "sub")
              (case off =>
                intro p hp
                simp only [List.mem_cons] at hp
                rcases hp with rfl | rfl | rfl | h
                · exact q2
                · exact q1
                · exact Nat.ne_of_gt d1
                · exact off3 p h)
              (case ag =>
                refine ⟨List.forall_mem_cons.mpr ⟨?m1, List.forall_mem_cons.mpr ⟨?m2, List.forall_mem_cons.mpr ⟨?m3, List.forall_mem_cons.mpr ⟨?m4, List.forall_mem_nil _⟩⟩⟩⟩, ?m5⟩
                (case m1 => with_unfolding_all rfl)
                (case m2 => with_unfolding_all rfl)
                (case m3 => with_unfolding_all rfl)
                (case m4 => with_unfolding_all rfl)
                (case m5 => walk_at "same"))
              (case sz => rw [Array.size_push, hsz1])
              (case tt => rw [← hT']; simp)
            · rw [dueL_none (dueStep_off hgy hyg hpop)] at hB' hT'
              subst hB'
              rw [List.append_nil] at hT'
              subst hT'
              k_steps
              (refine' hret _ _ _ _ (dueR_intro ?a1 ?a2 hD1 ?a4 hsub) ?a5 ?a6)
              (case a6 => assumption)
              (case a5 => assumption)
              (case a1 => exact memH)
              (case a2 => walk_at "mem")
              (case a4 => walk_at "sub")
              exact absurd (by assumption) hyg
  · rintro m nx h tk ⟨x, r, pd, told, lvs, el, tvs, et, rest, rfl, hI1, hD1, hsub, off1, off2, off3, hA, hsz1, hsz2, hB', hT', hpd⟩ F N
    obtain ⟨u, rfl⟩ := hA.ex
    clear hA lF' lN' hR
    have hdr : (ms.zip gs).drop ms.length = [] := by
      rw [List.drop_eq_nil_iff, List.length_zip]; omega
    rw [hdr] at hB' hT'
    replace hB' : true = B := hB'
    subst hB'
    replace hT' : told ++ [] = TT := hT'
    rw [List.append_nil] at hT'
    subst hT'
    k_steps
    (refine' hret _ _ _ _ (dueR_intro ?a1 ?a2 hD1 ?a4 hsub) ?a5 ?a6)
    (case a6 => assumption)
    (case a5 => assumption)
    (case a1 => exact memH)
    (case a2 => exact memT memH)
    (case a4 => exact fun p hp => memT (memT (memT hp)))
  · refine ⟨g0, [], false, [], _, _, _, _, news, rfl, .cons _ _ .nil, .nil, fun _ h => h, fun p hp => Nat.ne_of_lt (hP p hp), fun p hp => Nat.ne_of_lt (ktn_ltOf l1.2 p hp), fun p hp => Nat.ne_of_lt (hI p (memT (memT hp))), ?ag, rfl, Nat.le_refl _, hB, hT, Or.inr ⟨rfl, rfl⟩⟩
    (case ag =>
      refine ⟨List.forall_mem_cons.mpr ⟨?m1, List.forall_mem_cons.mpr ⟨?m2, List.forall_mem_cons.mpr ⟨?m3, List.forall_mem_cons.mpr ⟨?m4, List.forall_mem_nil _⟩⟩⟩⟩, ?m5⟩
      (case m1 => with_unfolding_all rfl)
      (case m2 => with_unfolding_all rfl)
      (case m3 => with_unfolding_all rfl)
      (case m4 => with_unfolding_all rfl)
      (case m5 =>
        intro z h2 h3
        simp only [List.forall_mem_cons, List.not_mem_nil, false_implies, implies_true, and_true, ne_eq] at h2
        simp only [List.contains_cons, List.contains_nil, Bool.or_false, Bool.or_eq_false_iff, beq_eq_false_iff_ne, ne_eq] at h3
        have e8 : (z == Str.ofString "modes") = false := by simp [h2]
        have e9 : (z == Str.ofString "margins") = false := by simp [h2]
        with_unfolding_all change (if z = Str.ofString "told" then some (Value.ref Pt) else if z = Str.ofString "levels" then some (Value.ref Pl) else List.lookup z [(Str.ofString "margins", Value.ref ag), (Str.ofString "modes", Value.ref am)]) = none
        simp only [h2, if_false, List.lookup_cons, e8, e9, List.lookup_nil]))
end
section
set_option maxRecDepth 100000
noncomputable def NL : Str := Str.ofString "\n"
theorem NL_eq : NL = ⟨#[10]⟩ := by decide +kernel
theorem SP_eq : Str.ofString " " = ⟨#[32]⟩ := by decide +kernel
/-- a text out of its parts -/
noncomputable def flatN : List Str → List Nat
  | [] => []
  | p :: r => 10 :: (p.cps.toList ++ flatN r)
noncomputable def joinN : List Str → List Nat
  | [] => []
  | p :: r => p.cps.toList ++ flatN r
theorem foldl_flat (r : List Str) : ∀ acc : Array Nat, (r.foldl (fun acc p => acc ++ NL.cps ++ p.cps) acc).toList = acc.toList ++ flatN r := by
  induction r with
  | nil => intro acc; simp [flatN]
  | cons p r ih =>
    intro acc
    rw [List.foldl_cons, ih]
    rw [NL_eq]
    simp [flatN]
theorem txtJoin_list (ls : List Str) : (Txt.join NL ls).cps.toList = joinN ls := by
  cases ls with
  | nil => rfl
  | cons p r =>
    show ((r.foldl (fun acc p => acc ++ NL.cps ++ p.cps) p.cps)).toList = _
    rw [foldl_flat]; rfl
theorem strJoin_list (ls : List Str) : (Str.join NL ls).cps.toList = joinN ls := by
  induction ls with
  | nil => rfl
  | cons p r ih =>
    cases r with
    | nil => simp [Str.join, joinN, flatN]
    | cons q r =>
      have e : Str.join NL (p :: q :: r) = p ++ NL ++ Str.join NL (q :: r) := rfl
      rw [e]
      have e2 : ∀ a b : Str, (a ++ b).cps.toList = a.cps.toList ++ b.cps.toList := fun a b => by
        show (a.cps ++ b.cps).toList = _
        simp
      rw [e2, e2, ih, NL_eq]
      simp [joinN, flatN]
theorem take_free : ∀ (a : List Nat) (r : List Nat), 10 ∉ a → (r = [] ∨ ∃ r', r = 10 :: r') → (a ++ r).takeWhile (fun c => c != 10) = a ∧ (a ++ r).dropWhile (fun c => c != 10) = r
  | [], r, _, h => by
    rcases h with rfl | ⟨r', rfl⟩ <;> simp
  | c :: a, r, hn, h => by
    have hc : (c != 10) = true := by
      have : c ≠ 10 := fun e => hn (by rw [e]; exact .head _)
      simpa using this
    have ih := take_free a r (fun q => hn (.tail _ q)) h
    simp [hc, ih.1, ih.2]
theorem flat_shape : ∀ ls : List Str, flatN ls = [] ∨ ∃ r, flatN ls = 10 :: r
  | [] => .inl rfl
  | _ :: _ => .inr ⟨_, rfl⟩
theorem joinN_inj : ∀ (a b : List Str), a ≠ [] → b ≠ [] → (∀ p ∈ a, 10 ∉ p.cps.toList) → (∀ p ∈ b, 10 ∉ p.cps.toList) → joinN a = joinN b → a = b
  | p :: ps, q :: qs, _, _, ha, hb, h => by
    have h1 := take_free p.cps.toList (flatN ps) (ha p (.head _)) (flat_shape ps)
    have h2 := take_free q.cps.toList (flatN qs) (hb q (.head _)) (flat_shape qs)
    have h' : p.cps.toList ++ flatN ps = q.cps.toList ++ flatN qs := h
    rw [h'] at h1
    have e1 : p.cps.toList = q.cps.toList := h1.1.symm.trans h2.1
    have e2 : flatN ps = flatN qs := h1.2.symm.trans h2.2
    have e3 : p = q := Str.ext' (Array.toList_inj.mp e1)
    subst e3
    cases ps with
    | nil =>
      cases qs with
      | nil => rfl
      | cons => cases e2
    | cons p' ps' =>
      cases qs with
      | nil => cases e2
      | cons q' qs' =>
        have e4 : joinN (p' :: ps') = joinN (q' :: qs') := by
          have := List.cons.inj e2
          exact this.2
        rw [joinN_inj (p' :: ps') (q' :: qs') (by simp) (by simp) (fun x hx => ha x (.tail _ hx)) (fun x hx => hb x (.tail _ hx)) e4]
  | [], _, h, _, _, _, _ => absurd rfl h
  | _ :: _, [], _, h, _, _, _ => absurd rfl h
theorem split_join {ls : List Str} (hne : ls ≠ []) (hf : ∀ p ∈ ls, 10 ∉ p.cps.toList) : Txt.split (Txt.join NL ls) NL = ls := by
  have h1 := StrLaws.join_split (Txt.join NL ls) NL
  have hfree : ∀ p ∈ Txt.split (Txt.join NL ls) NL, 10 ∉ p.cps.toList := by
    intro p hp
    rw [NL_eq] at hp
    exact StrLaws.split_free _ 10 p hp
  refine joinN_inj _ _ (fun q => ?_) hne hfree hf ?_
  · have := split_pos (Txt.join NL ls) NL
    rw [q] at this
    exact absurd this (by simp)
  · rw [← strJoin_list, h1, txtJoin_list]
theorem flatN_len : ∀ ls : List Str, (flatN ls).length = (ls.map (·.length)).sum + ls.length
  | [] => rfl
  | p :: r => by
    simp only [flatN, List.length_cons, List.length_append, flatN_len r, List.map_cons, List.sum_cons, Array.length_toList]
    show p.cps.size + _ + 1 = p.cps.size + _ + _
    omega
theorem join_len (ls : List Str) : (Txt.join NL ls).length ≤ (ls.map (·.length)).sum + ls.length := by
  have e : (Txt.join NL ls).length = (joinN ls).length := by
    rw [← txtJoin_list, Array.length_toList]; rfl
  rw [e]
  cases ls with
  | nil => exact Nat.le_refl _
  | cons p r =>
    simp only [joinN, List.length_append, flatN_len, List.map_cons, List.sum_cons, List.length_cons, Array.length_toList]
    show p.cps.size + _ ≤ p.cps.size + _ + _
    omega
/-- a row: blanks, then ten signs without a blank and without a line's end -/
noncomputable def RowText (z : Str) (g : Nat) (r : List Nat) : Prop := z.cps.toList = List.replicate g 32 ++ r ∧ r.length = 10 ∧ 32 ∉ r ∧ 10 ∉ r
noncomputable def IsRow (z : Str) : Prop := ∃ g r, RowText z g r ∧ g ≤ 100
noncomputable def lead (z : Str) : Nat := (z.cps.toList.takeWhile (fun c => c == 32)).length
theorem row_lead {z : Str} {g : Nat} {r : List Nat} (h : RowText z g r) : lead z = g := by
  unfold lead
  rw [h.1]
  obtain ⟨c, r', rfl⟩ : ∃ c r', r = c :: r' := by
    cases r with
    | nil => have := h.2.1; simp at this
    | cons c r' => exact ⟨c, r', rfl⟩
  have hc : (c == 32) = false := by
    have : c ≠ 32 := fun e => h.2.2.1 (by rw [e]; exact .head _)
    simpa using this
  rw [List.takeWhile_append]
  simp [hc, List.takeWhile_replicate]
theorem row_free {z : Str} (h : IsRow z) : 10 ∉ z.cps.toList := by
  obtain ⟨g, r, ⟨h1, _, _, h4⟩, _⟩ := h
  rw [h1]
  intro hm
  rcases List.mem_append.mp hm with hm | hm
  · have := (List.mem_replicate.mp hm).2
    cases this
  · exact h4 hm
theorem row_len {z : Str} (h : IsRow z) : z.length ≤ 110 := by
  obtain ⟨g, r, ⟨h1, h2, _, _⟩, h5⟩ := h
  show z.cps.size ≤ _
  rw [← Array.length_toList, h1, List.length_append, List.length_replicate]
  omega
theorem find_blank : ∀ (g k : Nat) (c : Nat) (r : List Nat), c ≠ 32 → List.find? (fun p : Str × Nat => p.1 != Str.ofString " ") ((((List.replicate g 32 ++ c :: r).map fun n => (⟨#[n]⟩ : Str))).zipIdx k) = some (⟨#[c]⟩, k + g)
  | 0, k, c, r, h => by
    have e : ((⟨#[c]⟩ : Str) != Str.ofString " ") = true := by
      rw [SP_eq]
      simpa using h
    simp [List.zipIdx_cons, e]
  | g + 1, k, c, r, h => by
    have e : ((⟨#[32]⟩ : Str) != Str.ofString " ") = false := by decide +kernel
    rw [List.replicate_succ, List.cons_append, List.map_cons, List.zipIdx_cons, List.find?_cons]
    simp only [e]
    rw [find_blank g (k + 1) c r h]
    congr 2
    omega
theorem row_find {z : Str} (h : IsRow z) : ∃ c, List.find? (fun p : Str × Nat => p.1 != Str.ofString " ") (signs z).zipIdx = some (c, lead z) := by
  obtain ⟨g, r, hr, _⟩ := h
  rw [row_lead hr]
  obtain ⟨h1, h2, h3, _⟩ := hr
  obtain ⟨c, r', rfl⟩ : ∃ c r', r = c :: r' := by
    cases r with
    | nil => simp at h2
    | cons c r' => exact ⟨c, r', rfl⟩
  refine ⟨⟨#[c]⟩, ?_⟩
  unfold signs
  rw [h1]
  have q := find_blank g 0 c r' (fun e => h3 (by rw [e]; exact .head _))
  rw [Nat.zero_add] at q
  exact q
/-- a row less some of its blanks is a row, if it still begins with a blank -/
theorem row_cut {z : Str} (h : IsRow z) (i : Nat) (hb : firstS (cutS i z) = Str.ofString " ") : IsRow (cutS i z) := by
  obtain ⟨g, r, ⟨h1, h2, h3, h4⟩, h5⟩ := h
  by_cases hi : i < g
  · refine ⟨g - i, r, ⟨?_, h2, h3, h4⟩, by omega⟩
    show ((z.cps.toList.drop i).toArray).toList = _
    rw [h1, List.drop_append_of_le_length (by simp; omega), List.drop_replicate]
  · exfalso
    rw [SP_eq] at hb
    have e : (z.cps.toList.drop i) = r.drop (i - g) := by
      rw [h1, List.drop_append, List.drop_of_length_le (by simp; omega)]
      simp
    unfold firstS cutS at hb
    have hb2 : (z.cps.toList.drop i).take 1 = [32] := by
      have := congrArg (fun s : Str => s.cps.toList) hb
      simpa using this
    rw [e] at hb2
    have : 32 ∈ (r.drop (i - g)).take 1 := by rw [hb2]; exact .head _
    exact h3 (List.mem_of_mem_drop (List.mem_of_mem_take this))
end
section
set_option maxRecDepth 100000
set_option maxHeartbeats 8000000
noncomputable def blankFirst (z : Str) : Bool := firstS z == Str.ofString " "
noncomputable def dedentU (ls : List Str) : List Str := ls.map (cutS (lead (ls.headD Str.empty)))
noncomputable def loopU : Nat → Int → List Str → Bool × List (Int × Str)
  | 0, _, _ => (true, [])
  | _ + 1, _, [] => (true, [])
  | n + 1, d, u :: rest =>
    if u.length ≠ 10 then (false, [])
    else if rest.takeWhile blankFirst = [] then ((loopU n d (rest.dropWhile blankFirst)).1, (d, u) :: (loopU n d (rest.dropWhile blankFirst)).2)
    else if Txt.item u 0 ≠ Str.ofString "d" then (false, [(d, u)])
    else if (loopU n (d + 1) (dedentU (rest.takeWhile blankFirst))).1 = true then
      ((loopU n d (rest.dropWhile blankFirst)).1, (d, u) :: ((loopU n (d + 1) (dedentU (rest.takeWhile blankFirst))).2 ++ (loopU n d (rest.dropWhile blankFirst)).2))
    else (false, (d, u) :: (loopU n (d + 1) (dedentU (rest.takeWhile blankFirst))).2)
noncomputable def readU (n : Nat) (d : Int) (ls : List Str) : Bool × List (Int × Str) := loopU n d (dedentU ls)
noncomputable def ReadR (B : Bool) (TT : List (Int × Str)) (tl : Addr) (rest : List (Addr × Obj)) (r : Value) (news' : List (Addr × Obj)) : Prop :=
  ∃ vt et rest', r = .bool B ∧ news' = (tl, W.listOf vt et) :: rest' ∧ (∀ p ∈ rest, p ∈ rest') ∧ (∀ p ∈ rest', p.1 ≠ tl) ∧ DatAll rest' vt.toList (TT.map toDat)
local macro_rules | `(tactic| walk_at "exec While Compare cons nil") => `(tactic| refine Stop.out ?_)
local macro_rules | `(tactic| walk_at "exec While BoolOp cons nil") => `(tactic| refine Stop.out ?_)
local macro_rules | `(tactic| walk_at "WhileStep2") => `(tactic| (dsimp only [WhileStep2]; refine Stop.out ?_))
local macro_rules | `(tactic| walk_at "call ref") => `(tactic| refine Stop.out ?_)
local macro_rules | `(tactic| walk_at "call builtin:str.join") => `(tactic| (
  refine' join_list (isList_led ?k1 ?k2) ?k3 ?k4 ?_
  (case k1 => k_asm)
  (case k2 => walk_at "mem")
  (case k3 => with_reducible assumption)
  (case k4 => with_reducible assumption)
  intro _ _))
local macro_rules | `(tactic| walk_at "call builtin:str.split") => `(tactic| (
  (refine' split_led (by assumption) (by assumption) (by decide +kernel) ?z (by assumption) ?_)
  (case z => with_reducible assumption)
  intro P its h' k hP hS F' N'
  (try k_sweep)))
local macro_rules | `(tactic| walk_at "WExit") => `(tactic| refine Stop.out ?_)
local macro_rules | `(tactic| walk_at "call builtin:len") => `(tactic| (
  refine' len_led ?k1 ?k2 ?k3 ?k4 ?_
  (case k1 => k_asm)
  (case k2 => walk_at "mem")
  (case k3 => with_reducible assumption)
  (case k4 => omega)
  intro _ _))
local macro_rules | `(tactic| walk_at "subscriptTail Name Name ref int") => `(tactic| (
  refine' Mine.item_strs ?k1 ?k2 ?k3 ?k4 ?k5 ?k6 ?_ ?k7
  (case k1 => k_asm)
  (case k2 => walk_at "mem")
  (case k3 => with_reducible assumption)
  (case k6 => with_reducible assumption)
  (case k4 => omega)
  (case k5 => omega)
  (case k7 => with_unfolding_all rfl)
  intro _))
local macro_rules | `(tactic| walk_at "call builtin:list.append") => `(tactic| (
  (with_reducible show wpAny _ _ (call (Value.builtin _) [Value.ref _, _]) _ _ _)
  k_dflt (refine' append_K ?k1 ?k2 ?k3 ?_ ?z; (case k1 => k_asm); (case k2 => k_asm); (case k3 => k_upd); (case z => with_reducible assumption); k_whole)
  intro h' F' N'
  (try k_sweep)))
local macro_rules | `(tactic| walk_at "sub") => `(tactic| (intro p hp; repeat (first | with_reducible assumption | refine memT ?_)))
theorem tw_take {p : Str → Bool} : ∀ {l : List Str} {j : Nat}, (l.take j).all p = true → j ≤ l.length → (∀ z, l[j]? = some z → p z = false) → l.takeWhile p = l.take j ∧ l.dropWhile p = l.drop j
  | [], j, _, _, _ => by simp
  | z :: l, 0, _, _, h => by
    have := h z rfl
    simp [this]
  | z :: l, j + 1, ha, hj, h => by
    rw [List.take_succ_cons, List.all_cons, Bool.and_eq_true] at ha
    have ih := tw_take (p := p) (l := l) (j := j) ha.2 (Nat.le_of_succ_le_succ hj) (fun z' hz' => h z' (by simpa using hz'))
    simp [ha.1, ih.1, ih.2]
theorem all_next {p : Str → Bool} {l : List Str} {a b : Nat} {z : Str} (hz : l[a]? = some z) (h : (l.take a).all p = true) (hb : b = a + 1) (hp : p z = true) : (l.take b).all p = true := by
  subst hb
  have q : l.take (a + 1) = l.take a ++ [z] := by rw [List.take_succ, hz]; rfl
  rw [q, List.all_append, h]
  simp [hp]
theorem slice_led2 {prog : Program} {w : World} {A : Around} {E : Value → Shared → Prop} {s : Shared} {h₀ : Heap} {L l : Addr} {m : Str → Option Value} {news : List (Addr × Obj)} {its : Array Value} {n : Nat} {value slice : PySem.Expr} {a b : Nat} {x y : Int} {ta tb : Tok} {Q : Value → Shared → Prop} (F : Fr h₀ L s.heap m) (N : News h₀ L s.heap news) (hm : (l, W.listOf its n) ∈ news)
    (hx : x = (a : Int)) (hy : y = (b : Int)) (hz : its.size ≤ sizeLine) (hb : b ≤ its.size) (hab : a ≤ b)
    (h : ∀ D ws h', (∀ p ∈ news, p.1 < D) → ws.toList = (its.toList.drop a).take (b - a) → Fr h₀ L h' m → News h₀ L h' ((D, W.listOf ws 0) :: news) → Q (.ref D) { s with heap := h' })
    (hs : subscripted slice false (.ref l) (.ref s.heap.objs.size) = operate [.ref s.heap.objs.size, .ref l] (getItem (.ref l) (.ref s.heap.objs.size))) (ht : ∀ r, letTemporaryGo value (.ref l) r = pure ()) :
    wpAny (model prog w) A (subscriptTail value slice (.ref l) (.ref s.heap.objs.size)) Q E { s with heap := s.heap.push { cls := .type "slice", data := .fields #[.int x ta, .int y tb, .none] } } := by
  subst hx
  subst hy
  exact slice_led F N hm h hs ht hz hb hab
local macro_rules | `(tactic| walk_at "subscriptTail Name Slice ref ref") => `(tactic| (
  with_unfolding_all refine' slice_led2 ?k1 ?k2 ?k3 ?ka ?kb ?k6 ?k7 ?k8 ?_ ?k4 ?k5
  (case k1 => k_asm)
  (case k2 => k_asm)
  (case k3 => walk_at "mem")
  (case ka => with_reducible assumption)
  (case kb => exact rfl)
  (case k6 => omega)
  (case k7 => omega)
  (case k8 => omega)
  (case k4 => with_unfolding_all rfl)
  (case k5 => intro _; with_unfolding_all rfl)
  intro D ws h' l1 hw F' N'
  (try k_sweep)))
theorem mem_tw {p : Str → Bool} : ∀ {l : List Str} {z : Str}, z ∈ l.takeWhile p → p z = true
  | [], _, h => by simp at h
  | x :: l, z, h => by
    rw [List.takeWhile_cons] at h
    split at h
    · rcases List.mem_cons.mp h with rfl | h
      · assumption
      · exact mem_tw h
    · cases h
theorem tw_dw_len (p : Str → Bool) : ∀ l : List Str, (l.takeWhile p).length + (l.dropWhile p).length = l.length
  | [] => rfl
  | x :: l => by
    have ih := tw_dw_len p l
    rw [List.takeWhile_cons, List.dropWhile_cons]
    split
    · simp only [List.length_cons]; omega
    · simp
theorem loopU_len : ∀ (n : Nat) (d : Int) (ls : List Str), (loopU n d ls).2.length ≤ ls.length
  | 0, _, _ => Nat.zero_le _
  | _ + 1, _, [] => Nat.zero_le _
  | n + 1, d, u :: rest => by
    have h1 := loopU_len n d (rest.dropWhile blankFirst)
    have h2 := loopU_len n (d + 1) (dedentU (rest.takeWhile blankFirst))
    have h3 := tw_dw_len blankFirst rest
    have h4 : (dedentU (rest.takeWhile blankFirst)).length = (rest.takeWhile blankFirst).length := by unfold dedentU; rw [List.length_map]
    rw [loopU]
    split
    · simp
    · split
      · simp only [List.length_cons]; omega
      · split
        · simp
        · split
          · simp only [List.length_cons, List.length_append]; omega
          · simp only [List.length_cons]; omega
theorem Claim.use {w : World} {mean : ExcName → Option Value} {mg mb : Str → Option Value} {f : Addr} {d u : Nat} {vs : List Value} {news : List (Addr × Obj)} {R : Value → List (Addr × Obj) → Prop} (C : Claim w mean mg mb f d u vs news R)
    {dp un : Nat} {gd : Option (List Code)} {cn : Str} {cs : Scope} {a : Addr} {ccd : Value} {cl : List (Str × Addr)} {outer : List Env} {A₀ : Around} {base h₀ : Heap} {L : Addr} {m : Str → Option Value} {s : Shared} {Q E : Value → Shared → Prop}
    (B : Below A₀ base outer h₀) (F : Fr h₀ L s.heap m) (X : (hd.heap_39 w.params).In h₀) (N : News h₀ L s.heap news) (T : Top hd.view_39 (looseW hd.view_39 [Str.ofString "_filemode_table"]) mean mg mb h₀) (hk : cs.kind = .function)
    (hd : dp + d < recursionLimit) (hu : un + u < cLine) (ret : ∀ r news' h' tk', R r news' → Fr h₀ L h' m → News h₀ L h' news' → Q r { s with heap := h', toks := tk' }) :
      wpAny (model Challenge.rw_tx0011_01.row.prog w) (ktrTop dp un gd cn cs L a ccd cl outer) (call (.ref f) vs) Q E s :=
  C dp un gd cn cs a ccd cl outer A₀ base h₀ L m s Q E B F X N T hk hd hu ret
theorem news_swap {h₀ h : Heap} {L : Addr} {a b : Addr × Obj} {r : List (Addr × Obj)} (N : News h₀ L h (a :: b :: r)) : News h₀ L h (b :: a :: r) := fun p hp => N p (by
    rcases List.mem_cons.mp hp with rfl | hp
    · exact .tail _ (.head _)
    · rcases List.mem_cons.mp hp with rfl | hp
      · exact .head _
      · exact .tail _ (.tail _ hp))
theorem news_third {h₀ h : Heap} {L : Addr} {a b c : Addr × Obj} {r : List (Addr × Obj)} (N : News h₀ L h (a :: b :: c :: r)) : News h₀ L h (c :: a :: b :: r) := fun p hp => N p (by
    rcases List.mem_cons.mp hp with rfl | hp
    · exact .tail _ (.tail _ (.head _))
    · rcases List.mem_cons.mp hp with rfl | hp
      · exact .head _
      · rcases List.mem_cons.mp hp with rfl | hp
        · exact .tail _ (.head _)
        · exact .tail _ (.tail _ (.tail _ hp)))
abbrev rdPs (Pr tl : Addr) (d : Int) (td : Tok) (kv : Int) (tk : Tok) : List (Str × Value) := [(Str.ofString "rows", Value.ref Pr), (Str.ofString "depth", Value.int d td), (Str.ofString "told", Value.ref tl), (Str.ofString "k", Value.int kv tk)]
theorem c_read (w : World) (mean : ExcName → Option Value) (mg mb : Str → Option Value) : ∀ (n : Nat) (rest : List (Addr × Obj)) (ar tl : Addr) (er et : Nat) (vr vt : Array Value) (ls : List Str) (d : Int) (td : Tok) (told : List (Int × Str)),
    ls.length ≤ n → ls ≠ [] → (∀ z ∈ ls, IsRow z) → (ar, W.listOf vr er) ∈ rest → StrsAre vr.toList ls → (∀ p ∈ rest, p.1 ≠ tl) → DatAll rest vt.toList (told.map toDat) → vt.size + ls.length ≤ 100 →
    Claim w mean mg mb 89 (n + 2) (8 * n + 200) [.ref ar, .int d td, .ref tl] ((tl, W.listOf vt et) :: rest) (ReadR (readU n d ls).1 (told ++ (readU n d ls).2) tl rest) := by
  intro n
  induction n using Nat.strongRecOn with
  | _ n IH =>
  intro rest ar tl er et vr vt ls d td told hn hne hrow hm hS hoff hD hsz
  have hlead : ∃ y ys, ls = y :: ys := by
    cases ls with
    | nil => exact absurd rfl hne
    | cons y ys => exact ⟨y, ys, rfl⟩
  obtain ⟨y, ys, hls⟩ := hlead
  obtain ⟨c0, hfind⟩ := row_find (hrow y (by rw [hls]; exact .head _))
  have hsum : (ls.map (·.length)).sum ≤ ls.length * 110 := by
    clear hsz hD hS hn IH hls hne
    induction ls with
    | nil => exact Nat.le_refl _
    | cons z r ih =>
      have h1 := row_len (hrow z (.head _))
      have h2 := ih fun x hx => hrow x (.tail _ hx)
      simp only [List.map_cons, List.sum_cons, List.length_cons]
      omega
  have hNL : (Str.ofString "\n").length = 1 := by decide +kernel
  have hok1 : (ls.map (·.length)).sum + ls.length * (Str.ofString "\n").length ≤ 16777216 := by rw [hNL]; omega
  have hfit : sizeLine = 16777216 := by decide
  have hjl := join_len ls
  have hx1 : (Txt.join (Str.ofString "\n") ls).length + 2 ≤ sizeLine := by
    show (Txt.join NL ls).length + 2 ≤ sizeLine
    omega
  have hsp1 : Txt.split (Txt.join (Str.ofString "\n") ls) (Str.ofString "\n") = y :: ys := by
    rw [← hls]; exact split_join hne fun p hp => row_free (hrow p hp)
  dsimp only [Claim]; k_fill
  intros; rename_i hret
  refine wpAny_call ?_
  k_dflt cell_enter
  refine wpAny_mono (E := fun _ _ => False) ?_ (fun _ _ h => h) (fun _ _ h => h.elim)
  (try k_fold)
  k_steps
  unfold Stop
  have hus : dedentU ls = (y :: ys).map (cutS (lead y)) := by rw [hls]; rfl
  have hcl : ∀ (i : Nat) (z : Str), (cutS i z).length ≤ z.length := by
    intro i z
    unfold cutS
    show (z.cps.toList.drop i).toArray.size ≤ z.cps.size
    simp
  have hfree2 : ∀ p ∈ (y :: ys).map (cutS (lead y)), 10 ∉ p.cps.toList := by
    intro p hp
    obtain ⟨z, hz, rfl⟩ := List.mem_map.mp hp
    intro hm
    have hm2 : 10 ∈ z.cps.toList.drop (lead y) := by simpa [cutS] using hm
    exact row_free (hrow z (by rw [hls]; exact hz)) (List.mem_of_mem_drop hm2)
  have hjl2 := join_len ((y :: ys).map (cutS (lead y)))
  have hcs := cut_sum (lead y) (y :: ys)
  rw [List.length_map] at hjl2
  have hx2 : (Txt.join (Str.ofString "\n") ((y :: ys).map (cutS (lead y)))).length + 2 ≤ sizeLine := by
    show (Txt.join NL _).length + 2 ≤ sizeLine
    rw [← hls] at hjl2 hcs ⊢
    omega
  have hsp2 : Txt.split (Txt.join (Str.ofString "\n") ((y :: ys).map (cutS (lead y)))) (Str.ofString "\n") = dedentU ls := by
    rw [hus]; exact split_join (by simp) hfree2
  refine' Claim.useV (c_dedent w mean mg mb _ _ _ hx1 y ys hsp1 _ _ hfind) ?k1 ?k2 ?k3 ?k4 ?k5 ?kK ?kd ?ku ?_
  (case k1 => k_asm)
  (case k2 => k_asm)
  (case k3 => k_asm)
  (case k4 => k_asm)
  (case k5 => k_asm)
  (case kK => exact rfl)
  (case kd => ktr_room)
  (case ku => ktr_units)
  intro t9 h9 tk9 F9 N9
  (try dsimp only)
  (try k_fold)
  k_steps
  unfold Stop
  have hul : (dedentU ls).length = ls.length := by rw [hus, hls]; simp
  have hblank : ∀ z ∈ dedentU ls, blankFirst z = true → IsRow z := by
    intro z hz hb
    rw [hus] at hz
    obtain ⟨z', hz', rfl⟩ := List.mem_map.mp hz
    exact row_cut (hrow z' (by rw [hls]; exact hz')) _ (beq_iff_eq.mp hb)
  have hzlen : ∀ z ∈ dedentU ls, z.length ≤ sizeLine := by
    intro z hz
    rw [hus] at hz
    obtain ⟨z', hz', rfl⟩ := List.mem_map.mp hz
    have q1 := hcl (lead y) z'
    have q2 := row_len (hrow z' (by rw [hls]; exact hz'))
    omega
  have hB : (loopU n d (dedentU ls)).1 = (readU n d ls).1 := rfl
  have hT : (loopU n d (dedentU ls)).2 = (readU n d ls).2 := rfl
  generalize (readU n d ls).1 = B at hret hB
  generalize hTT : told ++ (readU n d ls).2 = TT at hret
  rw [← hT] at hTT
  clear hjl2 hcs hx2 hsp2 hfree2 hcl hx1 hsp1 hok1 hjl hsum hfind hus hT hrow
  generalize dedentU ls = us at *
  rename (∀ (p : Addr × Obj), p ∈ (tl, W.listOf vt et) :: rest → p.1 < _) => hP
  rename StrsAre _ us => hU
  rename Array Value => its
  rename Fr _ _ _ _ => lF'
  rename News _ _ _ _ => lN'
  rename_i P _ _ _ _
  have hsz0 : its.size = us.length := by
    have := StrsAre.length hU
    rw [← this, Array.length_toList]
  have lN2 : News _ _ _ ((tl, W.listOf vt et) :: (P, W.listOf its 0) :: rest) := fun p hp => lN' p (by
    rcases List.mem_cons.mp hp with rfl | hp
    · exact .tail _ (.head _)
    · rcases List.mem_cons.mp hp with rfl | hp
      · exact .head _
      · exact .tail _ (.tail _ hp))
  have hPtl : P ≠ tl := fun q => absurd (hP (tl, W.listOf vt et) (.head _)) (q ▸ Nat.lt_irrefl _)
  refine While_inv2 (n₀ := us.length - 0) (J := fun nn m nx => ∃ k f vt2 et2 rest2 told2 tk2, nx = (tl, W.listOf vt2 et2) :: rest2 ∧ nn = us.length - k ∧ k ≤ us.length ∧ (P, W.listOf its 0) ∈ rest2 ∧ (∀ p ∈ rest, p ∈ rest2) ∧ (∀ p ∈ rest2, p.1 ≠ tl) ∧ DatAll rest2 vt2.toList (told2.map toDat) ∧
    vt2.size ≤ vt.size + k ∧ us.length - k ≤ f ∧ f ≤ n ∧ (loopU f d (us.drop k)).1 = B ∧ told2 ++ (loopU f d (us.drop k)).2 = TT ∧ Agree (rdPs P tl d td (k : Int) tk2) [Str.ofString "row", Str.ofString "end"] (fun _ => none) m) lF' lN2 ?w0 ?wt PassesOwn.never
  case w0 =>
    refine' ⟨0, n, vt, et, (P, W.listOf its 0) :: rest, told, _, rfl, rfl, Nat.zero_le _, memH, fun p hp => memT hp, List.forall_mem_cons.mpr ⟨hPtl, hoff⟩, hD.mono fun p hp => memT hp, Nat.le_refl _, by omega, Nat.le_refl _, hB, hTT, ⟨List.forall_mem_cons.mpr ⟨?m0, List.forall_mem_cons.mpr ⟨?m1, List.forall_mem_cons.mpr ⟨?m2, List.forall_mem_cons.mpr ⟨?m3, List.forall_mem_nil _⟩⟩⟩⟩, ?m5⟩⟩
    (case m0 => with_unfolding_all rfl)
    (case m1 => with_unfolding_all rfl)
    (case m2 => with_unfolding_all rfl)
    (case m3 => with_unfolding_all rfl)
    (case m5 =>
      intro z h2 h3
      simp only [List.forall_mem_cons, List.not_mem_nil, false_implies, implies_true, and_true, ne_eq] at h2
      simp only [List.contains_cons, List.contains_nil, Bool.or_false, Bool.or_eq_false_iff, beq_eq_false_iff_ne, ne_eq] at h3
      have e8 : (z == Str.ofString "rows") = false := by simp [h2]
      have e9 : (z == Str.ofString "depth") = false := by simp [h2]
      have e10 : (z == Str.ofString "told") = false := by simp [h2]
      with_unfolding_all change (if z = Str.ofString "k" then some _ else if z = Str.ofString "rows" then some (Value.ref P) else List.lookup z [(Str.ofString "told", Value.ref tl), (Str.ofString "depth", Value.int d td), (Str.ofString "rows", Value.ref ar)]) = none
      simp only [h2, if_false, List.lookup_cons, e8, e9, e10, List.lookup_nil])
  case wt =>
    clear lF' lN' lN2
    rintro nn m₁ nx h₁ tk₁ F₁ N₁ ⟨k, f, vt2, et2, rest2, told2, tk2, rfl, rfl, hk, hPm, hsub, hoff2, hD2, hv2, hf, hfn, hB2, hT2, hA⟩
    obtain ⟨u1, rfl⟩ := hA.ex
    clear hA
    by_cases hc : k < us.length
    · obtain ⟨u, hu⟩ : ∃ u, us[k]? = some u := ⟨_, List.getElem?_eq_getElem hc⟩
      have hcI : (k : Int) < (us.length : Int) := by omega
      have hdrop : us.drop k = u :: us.drop (k + 1) := by
        rw [List.drop_eq_getElem_cons hc]
        congr 1
        exact Option.some.inj ((List.getElem?_eq_getElem hc).symm.trans hu)
      have hui : us[((k : Int)).toNat]? = some u := by rw [Int.toNat_natCast]; exact hu
      obtain ⟨f', rfl⟩ : ∃ f', f = f' + 1 := ⟨f - 1, by omega⟩
      rw [hdrop, loopU] at hB2 hT2
      have hzt : vt2.size ≤ sizeLine := by
        have hfit : sizeLine = 16777216 := by decide
        omega
      have huz : u.length ≤ sizeLine := hzlen u (List.mem_of_getElem? hu)
      have hfit : sizeLine = 16777216 := by decide
      by_cases h10 : u.length = 10
      · have h10' : ¬ (u.length ≠ 10) := fun q => q h10
        rw [if_neg h10'] at hB2 hT2
        have h10I : (u.length : Int) = 10 := by omega
        k_steps
        · exact absurd h10I (by assumption)
        unfold Stop
        rename Fr _ _ _ _ => F2
        rename News _ _ _ _ => N2
        rename_i tu hx3 ax tkx D hx2 l1 hx1 hx0
        obtain ⟨l2, l3⟩ := l1
        generalize hR : us.drop (k + 1) = R at *
        have hRl : R.length = us.length - (k + 1) := by rw [← hR, List.length_drop]
        have hRg : ∀ e, k + 1 ≤ e → R[e - (k + 1)]? = us[e]? := by
          intro e he
          rw [← hR, List.getElem?_drop]
          congr 1
          omega
        have hRd : ∀ e, k + 1 ≤ e → R.drop (e - (k + 1)) = us.drop e := by
          intro e he
          rw [← hR, List.drop_drop]
          congr 1
          omega
        refine while_then (n₀ := us.length - (k + 1)) (fun nn m nx => ∃ (e : Nat) (tke : Tok), nx = (D, { cls := .type "tuple", data := .seq #[.int d td, .str u tu] }) :: (tl, W.listOf (vt2.push (.ref D)) (et2 + 1)) :: rest2 ∧ nn = us.length - e ∧ k + 1 ≤ e ∧ e ≤ us.length ∧ (R.take (e - (k + 1))).all blankFirst = true ∧
          Agree ((Str.ofString "end", Value.int (e : Int) tke) :: (Str.ofString "row", Value.str u tu) :: rdPs P tl d td (k : Int) tk2) [] (fun _ => none) m)
          (fun m nx => ∃ (e : Nat) (tke : Tok), nx = (D, { cls := .type "tuple", data := .seq #[.int d td, .str u tu] }) :: (tl, W.listOf (vt2.push (.ref D)) (et2 + 1)) :: rest2 ∧ k + 1 ≤ e ∧ e ≤ us.length ∧ R.takeWhile blankFirst = R.take (e - (k + 1)) ∧ R.dropWhile blankFirst = us.drop e ∧
          Agree ((Str.ofString "end", Value.int (e : Int) tke) :: (Str.ofString "row", Value.str u tu) :: rdPs P tl d td (k : Int) tk2) [] (fun _ => none) m) F2 N2 ?v0 ?vt ?va
        case v0 =>
          refine' ⟨k + 1, _, rfl, rfl, Nat.le_refl _, hc, ?q1, ⟨List.forall_mem_cons.mpr ⟨?m4, List.forall_mem_cons.mpr ⟨?m6, List.forall_mem_cons.mpr ⟨?m0, List.forall_mem_cons.mpr ⟨?m1, List.forall_mem_cons.mpr ⟨?m2, List.forall_mem_cons.mpr ⟨?m3, List.forall_mem_nil _⟩⟩⟩⟩⟩⟩, ?m5⟩⟩
          (case m0 => with_unfolding_all rfl)
          (case m1 => with_unfolding_all rfl)
          (case m2 => with_unfolding_all rfl)
          (case m3 => with_unfolding_all rfl)
          (case m4 => with_unfolding_all rfl)
          (case m6 => with_unfolding_all rfl)
          (case m5 => walk_at "same")
          (case q1 => rw [Nat.sub_self, List.take_zero]; rfl)
        case vt =>
          clear F2 N2
          rintro nn m₂ nx h₂ tk₂ F₂ N₂ ⟨e, tke, rfl, rfl, he1, he2, hall, hA⟩
          obtain ⟨u2, rfl⟩ := hA.ex
          clear hA
          have hPm2 : (P, W.listOf its 0) ∈ (D, ({ cls := .type "tuple", data := .seq #[.int d td, .str u tu] } : Obj)) :: (tl, W.listOf (vt2.push (.ref D)) (et2 + 1)) :: rest2 := memT (memT hPm)
          by_cases hce : e < us.length
          · obtain ⟨z, hz⟩ : ∃ z, us[e]? = some z := ⟨_, List.getElem?_eq_getElem hce⟩
            have hceI : (e : Int) < (us.length : Int) := by omega
            have hzi : us[((e : Int)).toNat]? = some z := by rw [Int.toNat_natCast]; exact hz
            have hzz : z.length ≤ sizeLine := hzlen z (List.mem_of_getElem? hz)
            k_steps
            · unfold Stop
              rename (Txt.slice z none (some 1) == Str.ofString " ") = true => hb
              rw [slice_first] at hb
              have hbz : blankFirst z = true := hb
              refine' ⟨_, _, _, _, us.length - (e + 1), rfl, by assumption, by assumption, by omega, e + 1, _, rfl, rfl, by omega, by omega, ?q1, ⟨List.forall_mem_cons.mpr ⟨?m4, List.forall_mem_cons.mpr ⟨?m6, List.forall_mem_cons.mpr ⟨?m0, List.forall_mem_cons.mpr ⟨?m1, List.forall_mem_cons.mpr ⟨?m2, List.forall_mem_cons.mpr ⟨?m3, List.forall_mem_nil _⟩⟩⟩⟩⟩⟩, ?m5⟩⟩
              (case m0 => with_unfolding_all rfl)
              (case m1 => with_unfolding_all rfl)
              (case m2 => with_unfolding_all rfl)
              (case m3 => with_unfolding_all rfl)
              (case m4 => with_unfolding_all rfl)
              (case m6 => with_unfolding_all rfl)
              (case m5 => walk_at "same")
              (case q1 => exact all_next ((hRg e he1).trans hz) hall (by omega) hbz)
            · rename (Txt.slice z none (some 1) == Str.ofString " ") = false => hb
              rw [slice_first] at hb
              have hbz : blankFirst z = false := hb
              obtain ⟨tw, dw⟩ := tw_take hall (by omega) (fun z' hz' => by rw [hRg e he1, hz] at hz'; exact (Option.some.inj hz') ▸ hbz)
              rw [hRd e he1] at dw
              refine' ⟨_, _, _, _, rfl, by assumption, by assumption, e, tke, rfl, he1, he2, tw, dw, ⟨List.forall_mem_cons.mpr ⟨?m4, List.forall_mem_cons.mpr ⟨?m6, List.forall_mem_cons.mpr ⟨?m0, List.forall_mem_cons.mpr ⟨?m1, List.forall_mem_cons.mpr ⟨?m2, List.forall_mem_cons.mpr ⟨?m3, List.forall_mem_nil _⟩⟩⟩⟩⟩⟩, ?m5⟩⟩
              (case m0 => with_unfolding_all rfl)
              (case m1 => with_unfolding_all rfl)
              (case m2 => with_unfolding_all rfl)
              (case m3 => with_unfolding_all rfl)
              (case m4 => with_unfolding_all rfl)
              (case m6 => with_unfolding_all rfl)
              (case m5 => walk_at "same")
          · have hceI : ¬ (e : Int) < (us.length : Int) := by omega
            k_steps
            obtain ⟨tw, dw⟩ := tw_take hall (by omega) (fun z' hz' => by
              rw [hRg e he1, List.getElem?_eq_none (by omega)] at hz'
              cases hz')
            rw [hRd e he1] at dw
            refine' ⟨_, _, _, _, rfl, by assumption, by assumption, e, tke, rfl, he1, he2, tw, dw, ⟨List.forall_mem_cons.mpr ⟨?m4, List.forall_mem_cons.mpr ⟨?m6, List.forall_mem_cons.mpr ⟨?m0, List.forall_mem_cons.mpr ⟨?m1, List.forall_mem_cons.mpr ⟨?m2, List.forall_mem_cons.mpr ⟨?m3, List.forall_mem_nil _⟩⟩⟩⟩⟩⟩, ?m5⟩⟩
            (case m0 => with_unfolding_all rfl)
            (case m1 => with_unfolding_all rfl)
            (case m2 => with_unfolding_all rfl)
            (case m3 => with_unfolding_all rfl)
            (case m4 => with_unfolding_all rfl)
            (case m6 => with_unfolding_all rfl)
            (case m5 => walk_at "same")
        case va =>
          clear F2 N2
          rintro m₂ nx h₂ tk₂ ⟨e, tke, rfl, he1, he2, htw, hdw, hA⟩ F₂ N₂
          obtain ⟨u2, rfl⟩ := hA.ex
          clear hA
          rw [htw, hdw] at hB2 hT2
          by_cases hek : e = k + 1
          · subst hek
            have hnil : R.take (k + 1 - (k + 1)) = [] := by rw [Nat.sub_self, List.take_zero]
            rw [if_pos hnil] at hB2 hT2
            have heI : ¬ (k : Int) + 1 < ((k + 1 : Nat) : Int) := by omega
            k_steps
            unfold Stop
            refine' ⟨_, _, _, _, us.length - (k + 1), rfl, by assumption, news_swap (by assumption), by omega, k + 1, f', vt2.push (.ref D), et2 + 1, (D, { cls := .type "tuple", data := .seq #[.int d td, .str u tu] }) :: rest2, told2 ++ [(d, u)], _, rfl, rfl, he2, memT hPm, fun p hp => memT (hsub p hp), List.forall_mem_cons.mpr ⟨fun q => absurd l2 (q ▸ Nat.lt_irrefl _), hoff2⟩, datall_push rfl hD2, ?sz, by omega, by omega, hB2, ?tt, ⟨List.forall_mem_cons.mpr ⟨?m0, List.forall_mem_cons.mpr ⟨?m1, List.forall_mem_cons.mpr ⟨?m2, List.forall_mem_cons.mpr ⟨?m3, List.forall_mem_nil _⟩⟩⟩⟩, ?m5⟩⟩
            (case m0 => with_unfolding_all rfl)
            (case m1 => with_unfolding_all rfl)
            (case m2 => with_unfolding_all rfl)
            (case m3 => with_unfolding_all rfl)
            (case m5 => walk_at "same")
            (case sz => rw [Array.size_push]; omega)
            (case tt => rw [List.append_assoc]; exact hT2)
          · have hnn : R.take (e - (k + 1)) ≠ [] := by
              intro q
              have q2 := congrArg List.length q
              rw [List.length_take, List.length_nil] at q2
              omega
            rw [if_neg hnn] at hB2 hT2
            have heI : (k : Int) + 1 < (e : Int) := by omega
            have hkc : (k : Int) + 1 = ((k + 1 : Nat) : Int) := by omega
            have hPm2 : (P, W.listOf its 0) ∈ (D, ({ cls := .type "tuple", data := .seq #[.int d td, .str u tu] } : Obj)) :: (tl, W.listOf (vt2.push (.ref D)) (et2 + 1)) :: rest2 := memT (memT hPm)
            k_steps
            · unfold Stop
              k_steps
              rename (Txt.item u 0 != Str.ofString "d") = true => hb
              have hb2 : Txt.item u 0 ≠ Str.ofString "d" := by simpa using hb
              rw [if_pos hb2] at hB2 hT2
              subst hB2
              subst hT2
              (refine' hret _ _ _ _ ⟨vt2.push (.ref D), et2 + 1, (D, { cls := .type "tuple", data := .seq #[.int d td, .str u tu] }) :: rest2, rfl, rfl, fun p hp => memT (hsub p hp), List.forall_mem_cons.mpr ⟨fun q => absurd l2 (q ▸ Nat.lt_irrefl _), hoff2⟩, datall_push rfl hD2⟩ ?a5 ?a6)
              (case a5 => assumption)
              (case a6 => exact news_swap (by assumption))
            · unfold Stop
              rename (Txt.item u 0 != Str.ofString "d") = false => hb
              have hb2 : ¬ (Txt.item u 0 ≠ Str.ofString "d") := by simpa using hb
              rw [if_neg hb2] at hB2 hT2
              rename Fr _ _ _ _ => F3
              rename News _ _ _ _ => N3
              rename (Array.toList _ = List.take (e - (k + 1)) (List.drop (k + 1) its.toList)) => hw
              rename_i D2 ws hx4 l4
              have hUt : StrsAre ws.toList (R.take (e - (k + 1))) := by rw [hw, ← hR]; exact (hU.drop' _).take' _
              have hmu : ∀ z ∈ R.take (e - (k + 1)), IsRow z := by
                intro z hz
                refine hblank z (List.mem_of_mem_drop (i := k + 1) ?_) (mem_tw (htw ▸ hz))
                rw [hR]; exact List.mem_of_mem_take hz
              have hDt : D ≠ tl := fun q => absurd l2 (q ▸ Nat.lt_irrefl _)
              have hD2t : D2 ≠ tl := fun q => absurd (l4 (tl, W.listOf (vt2.push (.ref D)) (et2 + 1)) (memT memH)) (q ▸ Nat.lt_irrefl _)
              have hlt : (R.take (e - (k + 1))).length = e - (k + 1) := by rw [List.length_take]; omega
              have hvD := hD2.length
              rw [Array.length_toList, List.length_map] at hvD
              have C := IH f' (by omega) ((D2, W.listOf ws 0) :: (D, { cls := .type "tuple", data := .seq #[.int d td, .str u tu] }) :: rest2) D2 tl 0 (et2 + 1) ws (vt2.push (.ref D)) (R.take (e - (k + 1))) (d + 1)
              refine' Claim.use (C _ (told2 ++ [(d, u)]) (by omega) hnn hmu memH hUt (List.forall_mem_cons.mpr ⟨hD2t, List.forall_mem_cons.mpr ⟨hDt, hoff2⟩⟩) ((datall_push rfl hD2).mono fun p hp => memT hp) (by rw [Array.size_push]; omega)) ?k1 ?k2 ?k3 ?k4 ?k5 ?kK ?kd ?ku ?_
              (case k1 => k_asm)
              (case k2 => k_asm)
              (case k3 => k_asm)
              (case k4 => exact news_third N3)
              (case k5 => k_asm)
              (case kK => exact rfl)
              (case kd => ktr_room)
              (case ku => ktr_units)
              clear C F3 N3
              have hr1 : readU f' (d + 1) (R.take (e - (k + 1))) = loopU f' (d + 1) (dedentU (R.take (e - (k + 1)))) := rfl
              have hlen9 := loopU_len f' (d + 1) (dedentU (R.take (e - (k + 1))))
              have hlen8 : (dedentU (R.take (e - (k + 1)))).length = (R.take (e - (k + 1))).length := by unfold dedentU; rw [List.length_map]
              rw [hr1]
              generalize loopU f' (d + 1) (dedentU (R.take (e - (k + 1)))) = X at *
              rintro r news' h4 tk4 ⟨vt4, et4, rest4, rfl, rfl, hs4, ho4, hD4⟩ F4 N4
              obtain ⟨b, T4⟩ := X
              (try dsimp only)
              (try k_fold)
              have hv4 := hD4.length
              rw [Array.length_toList, List.length_map, List.length_append, List.length_append] at hv4
              cases b with
              | true =>
                k_steps
                unfold Stop
                have hl2 : T4.length ≤ e - (k + 1) := by rw [hlen8, hlt] at hlen9; exact hlen9
                have hv5 : vt4.size = told2.length + 1 + T4.length := hv4
                replace hB2 : (loopU f' d (us.drop e)).1 = B := hB2
                replace hT2 : told2 ++ ((d, u) :: (T4 ++ (loopU f' d (us.drop e)).2)) = TT := hT2
                refine' ⟨_, _, _, _, us.length - e, rfl, by assumption, by assumption, by omega, e, f', vt4, et4, rest4, told2 ++ [(d, u)] ++ T4, _, rfl, rfl, he2, hs4 _ (memT (memT hPm)), fun p hp => hs4 _ (memT (memT (hsub p hp))), ho4, hD4, by omega, by omega, by omega, hB2, ?tt, ⟨List.forall_mem_cons.mpr ⟨?m0, List.forall_mem_cons.mpr ⟨?m1, List.forall_mem_cons.mpr ⟨?m2, List.forall_mem_cons.mpr ⟨?m3, List.forall_mem_nil _⟩⟩⟩⟩, ?m5⟩⟩
                (case m0 => with_unfolding_all rfl)
                (case m1 => with_unfolding_all rfl)
                (case m2 => with_unfolding_all rfl)
                (case m3 => with_unfolding_all rfl)
                (case m5 => walk_at "same")
                (case tt => rw [← hT2]; simp)
              | false =>
                k_steps
                unfold Stop
                k_steps
                replace hB2 : false = B := hB2
                replace hT2 : told2 ++ ((d, u) :: T4) = TT := hT2
                subst hB2
                subst hT2
                have hD5 : DatAll rest4 vt4.toList ((told2 ++ ((d, u) :: T4)).map toDat) := by
                  have q : told2 ++ ((d, u) :: T4) = told2 ++ [(d, u)] ++ T4 := by simp
                  rw [q]; exact hD4
                (refine' hret _ _ _ _ ⟨vt4, et4, rest4, rfl, rfl, fun p hp => hs4 _ (memT (memT (hsub p hp))), ho4, hD5⟩ ?a5 ?a6)
                (case a5 => assumption)
                (case a6 => assumption)
      · rw [if_pos h10] at hB2 hT2
        subst hB2
        replace hT2 : told2 ++ [] = TT := hT2
        rw [List.append_nil] at hT2
        subst hT2
        have h10I : ¬ (u.length : Int) = 10 := by omega
        k_steps
        · unfold Stop
          k_steps
          (refine' hret _ _ _ _ ⟨vt2, et2, rest2, rfl, rfl, hsub, hoff2, hD2⟩ ?a5 ?a6)
          (case a5 => assumption)
          (case a6 => assumption)
        · exact absurd (by assumption) h10I
    · have hke : k = us.length := by omega
      have hcI : ¬ (k : Int) < (us.length : Int) := by omega
      have hdr : us.drop k = [] := List.drop_eq_nil_iff.mpr (by omega)
      rw [hdr] at hB2 hT2
      have e0 : loopU f d [] = (true, []) := by cases f <;> rfl
      rw [e0] at hB2 hT2
      subst hB2
      rw [List.append_nil] at hT2
      subst hT2
      k_steps
      (refine' hret _ _ _ _ ⟨vt2, et2, rest2, rfl, rfl, hsub, hoff2, hD2⟩ ?a5 ?a6)
      (case a5 => assumption)
      (case a6 => assumption)
end
section
set_option maxRecDepth 100000
/-- the reader, told from the rows' numbers -/
noncomputable def goA : Nat → Int → Int → List (Int × Int) → Bool × List (Int × Str)
  | 0, _, _, _ => (true, [])
  | _ + 1, _, _, [] => (true, [])
  | n + 1, d, c, p :: rest =>
    if p.2 ≠ c then (false, [])
    else match rest.takeWhile (fun q => decide (c < q.2)) with
      | [] => ((goA n d c (rest.dropWhile (fun q => decide (c < q.2)))).1, (d, lrPref p.1 3) :: (goA n d c (rest.dropWhile (fun q => decide (c < q.2)))).2)
      | q :: tw =>
        if isD p.1 = false then (false, [(d, lrPref p.1 3)])
        else if (goA n (d + 1) q.2 (q :: tw)).1 = true then
          ((goA n d c (rest.dropWhile (fun q => decide (c < q.2)))).1, (d, lrPref p.1 3) :: ((goA n (d + 1) q.2 (q :: tw)).2 ++ (goA n d c (rest.dropWhile (fun q => decide (c < q.2)))).2))
        else (false, (d, lrPref p.1 3) :: (goA n (d + 1) q.2 (q :: tw)).2)
theorem popTo_ext {g : Int} : ∀ {ext r : List Int}, (∀ y ∈ ext, g < y) → popTo g (ext ++ r) = popTo g r
  | [], _, _ => rfl
  | y :: ext, r, h => by
    rw [List.cons_append, popTo_cons (h y (.head _))]
    exact popTo_ext fun z hz => h z (.tail _ hz)
theorem step_back {g c : Int} {ext r : List Int} {pd : Bool} (hx : ∀ y ∈ ext, g < y) (hgc : g ≤ c) (hr : ∀ z ∈ r.head?, z < g) : dueStep (ext ++ c :: r) pd g = if g = c then some (c :: r) else none := by
  have hp : popTo g (ext ++ c :: r) = popTo g (c :: r) := popTo_ext hx
  have hq : popTo g (c :: r) = if g = c then c :: r else r := by
    rw [popTo]
    by_cases h : g = c
    · rw [if_neg (by omega), if_pos h]
    · rw [if_pos (by omega), if_neg h]
      cases r with
      | nil => rfl
      | cons z r =>
        have := hr z rfl
        rw [popTo, if_neg (by omega)]
  have htop : ∀ x s, ext ++ c :: r = x :: s → ¬ x < g := by
    intro x s h
    cases ext with
    | nil =>
      have := (List.cons.inj h).1
      omega
    | cons y e =>
      have h1 := (List.cons.inj h).1
      have h2 := hx y (.head _)
      omega
  obtain ⟨x, s, hxs⟩ : ∃ x s, ext ++ c :: r = x :: s := by
    cases ext with
    | nil => exact ⟨_, _, rfl⟩
    | cons y e => exact ⟨_, _, rfl⟩
  have ht := htop x s hxs
  rw [hxs] at hp ⊢
  unfold dueStep
  simp only
  rw [if_neg (fun q => ht q.1), if_neg ht, hp, hq]
  by_cases h : g = c
  · rw [if_pos h, if_pos h]
    simp only
    rw [if_pos h.symm]
  · rw [if_neg h, if_neg h]
    cases r with
    | nil => rfl
    | cons z r =>
      have := hr z rfl
      simp only
      rw [if_neg (by omega)]
theorem step_in {g c : Int} {r : List Int} (h : c < g) : dueStep (c :: r) true g = some (g :: c :: r) := by
  unfold dueStep
  simp only
  rw [if_neg (fun q => by cases q.2), if_pos h, popTo, if_neg (by omega)]
  simp
theorem tw_all {p : Int × Int → Bool} : ∀ {l : List (Int × Int)} {q : Int × Int}, q ∈ l.takeWhile p → p q = true ∧ q ∈ l
  | [], _, h => by simp at h
  | x :: l, q, h => by
    rw [List.takeWhile_cons] at h
    split at h
    · rcases List.mem_cons.mp h with rfl | h
      · exact ⟨by assumption, .head _⟩
      · exact ⟨(tw_all h).1, .tail _ (tw_all h).2⟩
    · cases h
theorem dw_head {p : Int × Int → Bool} : ∀ {l : List (Int × Int)} {q : Int × Int} {r : List (Int × Int)}, l.dropWhile p = q :: r → p q = false
  | [], _, _, h => by simp at h
  | x :: l, q, r, h => by
    rw [List.dropWhile_cons] at h
    split at h
    · exact dw_head h
    · rw [← (List.cons.inj h).1]; simpa using ‹¬ p x = true›
theorem tw_dw_len2 (p : Int × Int → Bool) : ∀ l : List (Int × Int), (l.takeWhile p).length + (l.dropWhile p).length = l.length
  | [] => rfl
  | x :: l => by
    have ih := tw_dw_len2 p l
    rw [List.takeWhile_cons, List.dropWhile_cons]
    split
    · simp only [List.length_cons]; omega
    · simp
theorem dw_mem {p : Int × Int → Bool} {l : List (Int × Int)} {q : Int × Int} (h : q ∈ l.dropWhile p) : q ∈ l := by
  have e := List.takeWhile_append_dropWhile (p := p) (l := l)
  rw [← e]
  exact List.mem_append.mpr (.inr h)
theorem due_go : ∀ (f : Nat) (rows tail : List (Int × Int)) (p : Int × Int) (c : Int) (r st : List Int) (pd : Bool), (p :: rows).length ≤ f → (∀ q ∈ p :: rows, ∀ z ∈ r.head?, z < q.2) → (∀ z ∈ r.head?, z < c) →
    dueStep st pd p.2 = (if p.2 = c then some (c :: r) else none) →
    ∃ ext pd', ext ≠ [] ∧ (∀ y ∈ ext, ∀ z ∈ r.head?, z < y) ∧ dueL st pd (p :: rows ++ tail) = if (goA f (r.length : Int) c (p :: rows)).1 = true then ((dueL (ext ++ r) pd' tail).1, (goA f (r.length : Int) c (p :: rows)).2 ++ (dueL (ext ++ r) pd' tail).2) else (false, (goA f (r.length : Int) c (p :: rows)).2)
  | 0, rows, tail, p, c, r, st, pd, hl, _, _, _ => by simp at hl
  | f + 1, rows, tail, p, c, r, st, pd, hl, hm, hc, hs => by
    rw [List.cons_append]
    by_cases hpc : p.2 = c
    · rw [if_pos hpc] at hs
      rw [dueL_some hs]
      have e := (List.takeWhile_append_dropWhile (p := fun q : Int × Int => decide (c < q.2)) (l := rows))
      have hlen := tw_dw_len2 (fun q : Int × Int => decide (c < q.2)) rows
      have hdm : ∀ q ∈ rows.dropWhile (fun q : Int × Int => decide (c < q.2)), q ∈ rows := fun q h => dw_mem h
      have hdh : ∀ q r', rows.dropWhile (fun q : Int × Int => decide (c < q.2)) = q :: r' → q.2 ≤ c := by
        intro q r' h
        have := dw_head h
        simpa using this
      have hta : ∀ q ∈ rows.takeWhile (fun q : Int × Int => decide (c < q.2)), c < q.2 := by
        intro q h
        have := (tw_all h).1
        simpa using this
      have hd : (((c :: r).length : Int) - 1) = (r.length : Int) := by simp
      rw [hd, goA, if_neg (fun q => q hpc)]
      simp only [List.length_cons] at hl
      generalize rows.dropWhile (fun q : Int × Int => decide (c < q.2)) = dw at *
      generalize rows.takeWhile (fun q : Int × Int => decide (c < q.2)) = tw at *
      -- the rows behind, from any stack that stands above the level
      have hback : ∀ (ext : List Int) (pd' : Bool), (∀ y ∈ ext, c < y) → ∃ ext2 pd2, ext2 ≠ [] ∧ (∀ y ∈ ext2, ∀ z ∈ r.head?, z < y) ∧
          dueL (ext ++ c :: r) pd' (dw ++ tail) = if (goA f (r.length : Int) c dw).1 = true then ((dueL (ext2 ++ r) pd2 tail).1, (goA f (r.length : Int) c dw).2 ++ (dueL (ext2 ++ r) pd2 tail).2) else (false, (goA f (r.length : Int) c dw).2) := by
        intro ext pd' hx
        cases dw with
        | nil =>
          refine ⟨ext ++ [c], pd', by simp, ?_, ?_⟩
          · intro y hy z hz
            rcases List.mem_append.mp hy with hy | hy
            · exact Int.lt_trans (hc z hz) (hx y hy)
            · rw [List.mem_singleton.mp hy]; exact hc z hz
          · have e0 : goA f (r.length : Int) c [] = (true, []) := by cases f <;> rfl
            rw [e0]
            simp
        | cons q dw =>
          have hq := hdh q dw rfl
          have hqm : ∀ z ∈ r.head?, z < q.2 := hm q (.tail _ (hdm q (.head _)))
          exact due_go f dw tail q c r (ext ++ c :: r) pd' (by simp only [List.length_cons] at hlen ⊢; omega) (fun q' hq' => hm q' (.tail _ (hdm q' hq'))) hc
            (step_back (fun y hy => by have := hx y hy; omega) hq hqm)
      cases tw with
      | nil =>
        have e2 : rows = dw := by rw [← e]; rfl
        subst e2
        obtain ⟨ext2, pd2, h1, h2, h3⟩ := hback [] (isD p.1) (fun _ h => nomatch h)
        refine ⟨ext2, pd2, h1, h2, ?_⟩
        rw [List.nil_append] at h3
        rw [h3]
        simp only
        split <;> simp
      | cons q tw =>
        simp only
        cases hD : isD p.1 with
        | false =>
          have hq := hta q (.head _)
          have hst : dueStep (c :: r) false q.2 = none := dueStep_leap hq
          refine ⟨[c], false, by simp, ?_, ?_⟩
          · intro y hy z hz
            rw [List.mem_singleton.mp hy]; exact hc z hz
          · rw [← e, List.append_assoc, List.cons_append, dueL_none hst]
            simp
        | true =>
          have hq := hta q (.head _)
          have hst : dueStep (c :: r) true q.2 = (if q.2 = q.2 then some (q.2 :: c :: r) else none) := by rw [if_pos rfl]; exact step_in hq
          obtain ⟨ext, pd', h1, h2, h3⟩ := due_go f tw (dw ++ tail) q q.2 (c :: r) (c :: r) true (by simp only [List.length_cons] at hlen ⊢; omega) (fun q' hq' z hz => by
            cases hz
            exact hta q' hq') (fun z hz => by cases hz; exact hq) hst
          have hd2 : (((c :: r).length : Nat) : Int) = (r.length : Int) + 1 := by simp
          rw [hd2] at h3
          rw [← e, List.append_assoc, h3]
          simp only [Bool.true_eq_false, if_false]
          cases hX : (goA f ((r.length : Int) + 1) q.2 (q :: tw)).1 with
          | false =>
            refine ⟨[c], false, by simp, ?_, ?_⟩
            · intro y hy z hz
              rw [List.mem_singleton.mp hy]; exact hc z hz
            · simp
          | true =>
            obtain ⟨ext2, pd2, h4, h5, h6⟩ := hback ext pd' (fun y hy => h2 y hy c rfl)
            refine ⟨ext2, pd2, h4, h5, ?_⟩
            simp only [if_true]
            rw [h6]
            split <;> simp
    · rw [if_neg hpc] at hs
      rw [dueL_none hs, goA, if_pos hpc]
      refine ⟨[c], false, by simp, ?_, ?_⟩
      · intro y hy z hz
        rw [List.mem_singleton.mp hy]; exact hc z hz
      · simp
theorem due_all (N : Nat) (p : Int × Int) (rows : List (Int × Int)) (hl : (p :: rows).length ≤ N) : dueL [p.2] false (p :: rows) = goA N 0 p.2 (p :: rows) := by
  have hs : dueStep [p.2] false p.2 = (if p.2 = p.2 then some [p.2] else none) := by
    unfold dueStep
    simp [popTo]
  obtain ⟨ext, pd', _, _, h3⟩ := due_go N rows [] p p.2 [] [p.2] false hl (fun _ _ _ hz => by cases hz) (fun _ hz => by cases hz) hs
  rw [List.append_nil] at h3
  rw [h3]
  have e : ((([] : List Int).length : Nat) : Int) = 0 := rfl
  rw [e]
  simp only [dueL, List.append_nil]
  cases hX : (goA N 0 p.2 (p :: rows)).1 with
  | true => simp only [if_true]; exact Prod.ext hX.symm rfl
  | false => simp only [Bool.false_eq_true, if_false]; exact Prod.ext hX.symm rfl
end
section
set_option maxRecDepth 100000
/-- a label: ten signs, no blank, no line's end; its first tells a folder -/
noncomputable def LabelOk (n : Int) : Prop := (lrPref n 3).cps.toList.length = 10 ∧ 32 ∉ (lrPref n 3).cps.toList ∧ 10 ∉ (lrPref n 3).cps.toList ∧ (Txt.item (lrPref n 3) 0 = Str.ofString "d" ↔ isD n = true)
noncomputable def rowT (p : Int × Int) : Str := ⟨(List.replicate p.2.toNat 32 ++ (lrPref p.1 3).cps.toList).toArray⟩
theorem rowT_list (p : Int × Int) : (rowT p).cps.toList = List.replicate p.2.toNat 32 ++ (lrPref p.1 3).cps.toList := by
  unfold rowT
  simp
theorem rowT_text {p : Int × Int} (h : LabelOk p.1) : RowText (rowT p) p.2.toNat (lrPref p.1 3).cps.toList := ⟨rowT_list p, h.1, h.2.1, h.2.2.1⟩
theorem cut_list (i : Nat) (z : Str) : (cutS i z).cps.toList = z.cps.toList.drop i := by
  unfold cutS
  simp
theorem str_ext {a b : Str} (h : a.cps.toList = b.cps.toList) : a = b := Str.ext' (Array.toList_inj.mp h)
theorem cut_cut (i k : Nat) (z : Str) : cutS i (cutS k z) = cutS (k + i) z := by
  apply str_ext
  rw [cut_list, cut_list, cut_list, List.drop_drop]
theorem cut_row (c : Nat) (p : Int × Int) : (cutS c (rowT p)).cps.toList = List.replicate (p.2.toNat - c) 32 ++ (lrPref p.1 3).cps.toList.drop (c - p.2.toNat) := by
  rw [cut_list, rowT_list, List.drop_append, List.drop_replicate]
  simp
theorem cut_len {c : Nat} {p : Int × Int} (h : LabelOk p.1) (hp : 0 ≤ p.2) : (cutS c (rowT p)).length = 10 ↔ p.2 = (c : Int) := by
  have e : (cutS c (rowT p)).length = (p.2.toNat - c) + (10 - (c - p.2.toNat)) := by
    show (cutS c (rowT p)).cps.size = _
    rw [← Array.length_toList, cut_row, List.length_append, List.length_replicate, List.length_drop, h.1]
  rw [e]
  omega
theorem cut_blank {c : Nat} {p : Int × Int} (h : LabelOk p.1) (hp : 0 ≤ p.2) : blankFirst (cutS c (rowT p)) = decide ((c : Int) < p.2) := by
  unfold blankFirst
  have e : firstS (cutS c (rowT p)) = ⟨(((cutS c (rowT p)).cps.toList).take 1).toArray⟩ := rfl
  rw [e, cut_row, SP_eq]
  by_cases hc : (c : Int) < p.2
  · have e2 : p.2.toNat - c = (p.2.toNat - c - 1) + 1 := by omega
    rw [e2, List.replicate_succ]
    simp [hc]
  · have e2 : p.2.toNat - c = 0 := by omega
    rw [e2]
    simp only [List.replicate_zero, List.nil_append, hc, decide_false]
    cases hd : (lrPref p.1 3).cps.toList.drop (c - p.2.toNat) with
    | nil => decide
    | cons a l =>
      have : a ≠ 32 := by
        intro q
        apply h.2.1
        have hm : a ∈ (lrPref p.1 3).cps.toList.drop (c - p.2.toNat) := by rw [hd]; exact .head _
        rw [← q]; exact List.mem_of_mem_drop hm
      simp [this]
theorem cut_same {p : Int × Int} (hp : 0 ≤ p.2) : cutS p.2.toNat (rowT p) = lrPref p.1 3 := by
  apply str_ext
  rw [cut_row]
  simp
theorem cut_lead {c : Nat} {p : Int × Int} (h : LabelOk p.1) (hc : (c : Int) ≤ p.2) : lead (cutS c (rowT p)) = p.2.toNat - c := by
  refine row_lead (r := (lrPref p.1 3).cps.toList) ⟨?_, h.1, h.2.1, h.2.2.1⟩
  rw [cut_row]
  have : c - p.2.toNat = 0 := by omega
  rw [this, List.drop_zero]
noncomputable def OkRow (p : Int × Int) : Prop := LabelOk p.1 ∧ 0 ≤ p.2
theorem tw_map {c : Nat} : ∀ {rows : List (Int × Int)}, (∀ p ∈ rows, OkRow p) →
    (rows.map fun p => cutS c (rowT p)).takeWhile blankFirst = (rows.takeWhile fun q => decide ((c : Int) < q.2)).map (fun p => cutS c (rowT p)) ∧
    (rows.map fun p => cutS c (rowT p)).dropWhile blankFirst = (rows.dropWhile fun q => decide ((c : Int) < q.2)).map (fun p => cutS c (rowT p))
  | [], _ => ⟨rfl, rfl⟩
  | p :: rows, h => by
    have ih := tw_map (c := c) (rows := rows) fun q hq => h q (.tail _ hq)
    have hb := cut_blank (c := c) (h p (.head _)).1 (h p (.head _)).2
    rw [List.map_cons, List.takeWhile_cons, List.dropWhile_cons, List.takeWhile_cons, List.dropWhile_cons, hb]
    by_cases hc : (c : Int) < p.2
    · simp [hc, ih.1, ih.2]
    · simp [hc]
theorem loop_go : ∀ (n : Nat) (d : Int) (c : Nat) (rows : List (Int × Int)), (∀ p ∈ rows, OkRow p) → loopU n d (rows.map fun p => cutS c (rowT p)) = goA n d (c : Int) rows
  | 0, _, _, _, _ => rfl
  | _ + 1, _, _, [], _ => rfl
  | n + 1, d, c, p :: rows, h => by
    have hp := h p (.head _)
    have hr : ∀ q ∈ rows, OkRow q := fun q hq => h q (.tail _ hq)
    obtain ⟨e1, e2⟩ := tw_map (c := c) hr
    rw [List.map_cons, loopU, goA, e1, e2]
    by_cases hpc : p.2 = (c : Int)
    · have a1 : ¬ ((cutS c (rowT p)).length ≠ 10) := fun q => q ((cut_len hp.1 hp.2).mpr hpc)
      have a2 : ¬ (p.2 ≠ (c : Int)) := fun q => q hpc
      rw [if_neg a1, if_neg a2]
      have hs : cutS c (rowT p) = lrPref p.1 3 := by
        have : c = p.2.toNat := by omega
        rw [this]; exact cut_same hp.2
      rw [hs]
      have hdw := loop_go n d c (rows.dropWhile fun q => decide ((c : Int) < q.2)) (fun q hq => hr q (dw_mem hq))
      have htm : ∀ q ∈ rows.takeWhile (fun q => decide ((c : Int) < q.2)), OkRow q ∧ (c : Int) < q.2 := fun q hq => ⟨hr q (tw_all hq).2, by simpa using (tw_all hq).1⟩
      rw [hdw]
      generalize rows.dropWhile (fun q => decide ((c : Int) < q.2)) = dw at *
      generalize rows.takeWhile (fun q => decide ((c : Int) < q.2)) = tw at *
      cases tw with
      | nil => simp
      | cons q tw =>
        have hq := htm q (.head _)
        have hde : dedentU ((q :: tw).map fun p => cutS c (rowT p)) = (q :: tw).map fun p => cutS q.2.toNat (rowT p) := by
          unfold dedentU
          rw [List.map_map]
          show (q :: tw).map (fun p => cutS (lead (cutS c (rowT q))) (cutS c (rowT p))) = _
          rw [cut_lead hq.1.1 (by omega)]
          have : ∀ p, cutS (q.2.toNat - c) (cutS c (rowT p)) = cutS q.2.toNat (rowT p) := fun p => by
            rw [cut_cut]
            congr 1
            omega
          simp only [this]
        rw [hde, loop_go n (d + 1) q.2.toNat (q :: tw) (fun q' hq' => (htm q' hq').1)]
        have hq2 : ((q.2.toNat : Nat) : Int) = q.2 := by omega
        have a3 : ¬ (((q :: tw).map fun p => cutS c (rowT p)) = []) := by simp
        rw [hq2, if_neg a3]
        simp only
        have hiff := hp.1.2.2.2
        cases hD : isD p.1 with
        | false =>
          have : Txt.item (lrPref p.1 3) 0 ≠ Str.ofString "d" := fun q => by rw [hiff.mp q] at hD; cases hD
          rw [if_pos this, if_pos rfl]
        | true =>
          have : ¬ (Txt.item (lrPref p.1 3) 0 ≠ Str.ofString "d") := fun q => q (hiff.mpr hD)
          have a4 : ¬ (true = false) := by decide
          rw [if_neg this, if_neg a4]
    · have a1 : (cutS c (rowT p)).length ≠ 10 := fun q => hpc ((cut_len hp.1 hp.2).mp q)
      rw [if_pos a1, if_pos hpc]
theorem read_due (N : Nat) (p : Int × Int) (rows : List (Int × Int)) (hl : (p :: rows).length ≤ N) (h : ∀ q ∈ p :: rows, OkRow q) : readU N 0 ((p :: rows).map rowT) = dueL [p.2] false (p :: rows) := by
  rw [due_all N p rows hl]
  have hp := h p (.head _)
  have hc : dedentU ((p :: rows).map rowT) = (p :: rows).map fun q => cutS p.2.toNat (rowT q) := by
    unfold dedentU
    rw [List.map_map]
    show (p :: rows).map (fun q => cutS (lead (rowT p)) (rowT q)) = _
    rw [row_lead (rowT_text hp.1)]
  unfold readU
  rw [hc, loop_go N 0 p.2.toNat (p :: rows) h]
  congr 1
  have := hp.2
  omega
end
section
set_option maxRecDepth 100000
theorem and_mask (N s w m : Nat) (hm : m < 2 ^ w) : N &&& (2 ^ s * m) = 2 ^ s * ((N / 2 ^ s % 2 ^ w) &&& m) := by
  apply Nat.eq_of_testBit_eq
  intro j
  rw [Nat.testBit_and, Nat.testBit_two_pow_mul, Nat.testBit_two_pow_mul, Nat.testBit_and, Nat.testBit_mod_two_pow, Nat.testBit_div_two_pow]
  by_cases hj : s ≤ j
  · have e : j - s + s = j := by omega
    simp only [hj, decide_true, Bool.true_and, e]
    by_cases hw : j - s < w
    · simp [hw]
    · have : m.testBit (j - s) = false := Nat.testBit_lt_two_pow (Nat.lt_of_lt_of_le hm (Nat.pow_le_pow_right (by decide) (by omega)))
      simp [this]
  · simp [hj]
theorem bitAnd_nat (N m : Nat) : Builtin.bitAnd (N : Int) (m : Int) = ((N &&& m : Nat) : Int) := by
  unfold Builtin.bitAnd
  simp
theorem test_mask (N s w m : Nat) (hm : m < 2 ^ w) : (Builtin.bitAnd (N : Int) ((2 ^ s * m : Nat) : Int) == ((2 ^ s * m : Nat) : Int)) = ((N / 2 ^ s % 2 ^ w) &&& m == m) := by
  rw [bitAnd_nat, and_mask N s w m hm]
  have hp : 0 < 2 ^ s := Nat.two_pow_pos s
  rw [Bool.eq_iff_iff]
  simp only [beq_iff_eq]
  constructor
  · intro h
    have h2 : 2 ^ s * ((N / 2 ^ s % 2 ^ w) &&& m) = 2 ^ s * m := by exact_mod_cast h
    exact Nat.eq_of_mul_eq_mul_left hp h2
  · intro h
    rw [h]
theorem kind_mask (N : Nat) : Builtin.bitAnd (N : Int) 61440 = ((4096 * (N / 4096 % 16) : Nat) : Int) := by
  have e : (61440 : Int) = ((2 ^ 12 * 15 : Nat) : Int) := by decide
  rw [e, bitAnd_nat, and_mask N 12 4 15 (by decide)]
  have : ∀ y : Fin 16, (y : Nat) &&& 15 = y := by decide
  have h := this ⟨N / 2 ^ 12 % 2 ^ 4, Nat.mod_lt _ (by decide)⟩
  simp only at h
  rw [h]
theorem isD_nat (N : Nat) : isD (N : Int) = (N / 4096 % 16 == 4) := by
  unfold isD
  rw [Int.fdiv_eq_ediv_of_nonneg _ (by decide), Int.fmod_eq_emod_of_nonneg _ (by decide)]
  rw [Bool.eq_iff_iff]
  simp only [beq_iff_eq]
  omega
theorem isdir_nat (N : Nat) : (Builtin.bitAnd (N : Int) 61440 == 16384) = isD (N : Int) := by
  rw [kind_mask, isD_nat, Bool.eq_iff_iff]
  simp only [beq_iff_eq]
  omega
end
section
set_option maxRecDepth 100000
theorem fmPick_congr {test test' : Int → Bool} {d : Str} : ∀ {l : List Ent}, (∀ e ∈ l, test e.b = test' e.b) → fmPick test d l = fmPick test' d l
  | [], _ => rfl
  | e :: r, h => by
    unfold fmPick
    rw [h e (.head _), fmPick_congr fun q hq => h q (.tail _ hq)]
noncomputable def tstY (s : Nat) (y : Nat) (b : Int) : Bool := (y &&& (b.toNat / 2 ^ s)) == b.toNat / 2 ^ s
theorem test_y (N s w : Nat) (i : Nat) (hi : i ≠ 0) (b : Int) (m : Nat) (hb : b = ((2 ^ s * m : Nat) : Int)) (hm : m < 2 ^ w) : fmTest (N : Int) i b = tstY s (N / 2 ^ s % 2 ^ w) b := by
  subst hb
  unfold fmTest tstY
  rw [if_neg hi, test_mask N s w m hm, Int.toNat_natCast, Nat.mul_div_cancel_left _ (Nat.two_pow_pos s)]
noncomputable def rowY (i : Nat) : List Ent := (fmTab[i]?.map (·.2)).getD []
theorem seg_y (N s w i : Nat) (hi : i ≠ 0) (hall : ∀ e ∈ rowY i, ∃ m, e.b = ((2 ^ s * m : Nat) : Int) ∧ m < 2 ^ w) : fmSeg (N : Int) i = fmPick (tstY s (N / 2 ^ s % 2 ^ w)) (Str.ofString "-") (rowY i) := by
  unfold fmSeg
  rw [if_neg hi]
  refine fmPick_congr fun e he => ?_
  obtain ⟨m, h1, h2⟩ := hall e he
  exact test_y N s w i hi e.b m h1 h2
theorem head_k : ∀ k : Fin 16, fmPick (fun b => ((4096 * (k : Nat) : Nat) : Int) == b) (Str.ofString "?") (rowY 0) = Txt.item (Str.ofString "?pc?d?b?-?l?s???") ((k : Nat) : Int) := by decide +kernel
theorem seg_head (N : Nat) : fmSeg (N : Int) 0 = lrHead (N : Int) := by
  have e : fmSeg (N : Int) 0 = fmPick (fun b => ((4096 * (N / 4096 % 16) : Nat) : Int) == b) (Str.ofString "?") (rowY 0) := by
    unfold fmSeg
    rw [if_pos rfl]
    refine fmPick_congr fun e _ => ?_
    unfold fmTest
    rw [if_pos rfl, kind_mask]
  have e2 : ((N : Int).fdiv 4096).fmod 16 = ((N / 4096 % 16 : Nat) : Int) := by
    rw [Int.fdiv_eq_ediv_of_nonneg _ (by decide), Int.fmod_eq_emod_of_nonneg _ (by decide)]
    omega
  rw [e, lrHead, e2]
  exact head_k ⟨N / 4096 % 16, Nat.mod_lt _ (by decide)⟩
noncomputable def triR (F : Int) : Str := if 3 < F then Str.ofString "r" else Str.ofString "-"
noncomputable def triW (F : Int) : Str := if (F.fdiv 2).fmod 2 = 1 then Str.ofString "w" else Str.ofString "-"
noncomputable def triX (i : Nat) (F A : Int) : Str := Txt.item (if i = 2 then Str.ofString "-xTt" else Str.ofString "-xSs") (F.fmod 2 + 2 * A)
theorem own_y : ∀ y : Fin 64, fmPick (tstY 6 y) (Str.ofString "-") (rowY 1) = triR ((y % 8 : Nat) : Int) ∧ fmPick (tstY 6 y) (Str.ofString "-") (rowY 2) = triW ((y % 8 : Nat) : Int) ∧ fmPick (tstY 6 y) (Str.ofString "-") (rowY 3) = triX 0 ((y % 8 : Nat) : Int) ((y / 32 : Nat) : Int) := by decide +kernel
theorem grp_y : ∀ y : Fin 256, fmPick (tstY 3 y) (Str.ofString "-") (rowY 4) = triR ((y % 8 : Nat) : Int) ∧ fmPick (tstY 3 y) (Str.ofString "-") (rowY 5) = triW ((y % 8 : Nat) : Int) ∧ fmPick (tstY 3 y) (Str.ofString "-") (rowY 6) = triX 1 ((y % 8 : Nat) : Int) ((y / 128 : Nat) : Int) := by decide +kernel
theorem oth_y : ∀ y : Fin 1024, fmPick (tstY 0 y) (Str.ofString "-") (rowY 7) = triR ((y % 8 : Nat) : Int) ∧ fmPick (tstY 0 y) (Str.ofString "-") (rowY 8) = triW ((y % 8 : Nat) : Int) ∧ fmPick (tstY 0 y) (Str.ofString "-") (rowY 9) = triX 2 ((y % 8 : Nat) : Int) ((y / 512 : Nat) : Int) := by decide +kernel
theorem seg_z (N s w i : Nat) (hi : i ≠ 0) (hall : ∀ e ∈ rowY i, e.b = ((2 ^ s * (e.b.toNat / 2 ^ s) : Nat) : Int) ∧ e.b.toNat / 2 ^ s < 2 ^ w) : fmSeg (N : Int) i = fmPick (tstY s (N / 2 ^ s % 2 ^ w)) (Str.ofString "-") (rowY i) :=
  seg_y N s w i hi fun e he => ⟨_, hall e he⟩
theorem seg_own (N : Nat) : fmSeg (N : Int) 1 = triR (lrFig (N : Int) 0) ∧ fmSeg (N : Int) 2 = triW (lrFig (N : Int) 0) ∧ fmSeg (N : Int) 3 = triX 0 (lrFig (N : Int) 0) (lrAbove (N : Int) 0) := by
  have e1 : lrFig (N : Int) 0 = ((N / 2 ^ 6 % 2 ^ 6 % 8 : Nat) : Int) := by
    have e : (8 ^ (2 - (0 + ((0 : Nat) : Int))).toNat : Int) = 64 := by decide
    show ((N : Int).fdiv (8 ^ (2 - (0 + ((0 : Nat) : Int))).toNat)).fmod 8 = _
    rw [e, Int.fdiv_eq_ediv_of_nonneg _ (by decide), Int.fmod_eq_emod_of_nonneg _ (by decide)]
    omega
  have e2 : lrAbove (N : Int) 0 = ((N / 2 ^ 6 % 2 ^ 6 / 32 : Nat) : Int) := by
    have e : (2 ^ (11 - (0 + ((0 : Nat) : Int))).toNat : Int) = 2048 := by decide
    show ((N : Int).fdiv (2 ^ (11 - (0 + ((0 : Nat) : Int))).toNat)).fmod 2 = _
    rw [e, Int.fdiv_eq_ediv_of_nonneg _ (by decide), Int.fmod_eq_emod_of_nonneg _ (by decide)]
    omega
  rw [seg_z N 6 6 1 (by decide) (by decide +kernel), seg_z N 6 6 2 (by decide) (by decide +kernel), seg_z N 6 6 3 (by decide) (by decide +kernel), e1, e2]
  exact own_y ⟨N / 2 ^ 6 % 2 ^ 6, Nat.mod_lt _ (by decide)⟩
theorem seg_grp (N : Nat) : fmSeg (N : Int) 4 = triR (lrFig (N : Int) 1) ∧ fmSeg (N : Int) 5 = triW (lrFig (N : Int) 1) ∧ fmSeg (N : Int) 6 = triX 1 (lrFig (N : Int) 1) (lrAbove (N : Int) 1) := by
  have e1 : lrFig (N : Int) 1 = ((N / 2 ^ 3 % 2 ^ 8 % 8 : Nat) : Int) := by
    have e : (8 ^ (2 - (0 + ((1 : Nat) : Int))).toNat : Int) = 8 := by decide
    show ((N : Int).fdiv (8 ^ (2 - (0 + ((1 : Nat) : Int))).toNat)).fmod 8 = _
    rw [e, Int.fdiv_eq_ediv_of_nonneg _ (by decide), Int.fmod_eq_emod_of_nonneg _ (by decide)]
    omega
  have e2 : lrAbove (N : Int) 1 = ((N / 2 ^ 3 % 2 ^ 8 / 128 : Nat) : Int) := by
    have e : (2 ^ (11 - (0 + ((1 : Nat) : Int))).toNat : Int) = 1024 := by decide
    show ((N : Int).fdiv (2 ^ (11 - (0 + ((1 : Nat) : Int))).toNat)).fmod 2 = _
    rw [e, Int.fdiv_eq_ediv_of_nonneg _ (by decide), Int.fmod_eq_emod_of_nonneg _ (by decide)]
    omega
  rw [seg_z N 3 8 4 (by decide) (by decide +kernel), seg_z N 3 8 5 (by decide) (by decide +kernel), seg_z N 3 8 6 (by decide) (by decide +kernel), e1, e2]
  exact grp_y ⟨N / 2 ^ 3 % 2 ^ 8, Nat.mod_lt _ (by decide)⟩
theorem seg_oth (N : Nat) : fmSeg (N : Int) 7 = triR (lrFig (N : Int) 2) ∧ fmSeg (N : Int) 8 = triW (lrFig (N : Int) 2) ∧ fmSeg (N : Int) 9 = triX 2 (lrFig (N : Int) 2) (lrAbove (N : Int) 2) := by
  have e1 : lrFig (N : Int) 2 = ((N / 2 ^ 0 % 2 ^ 10 % 8 : Nat) : Int) := by
    have e : (8 ^ (2 - (0 + ((2 : Nat) : Int))).toNat : Int) = 1 := by decide
    show ((N : Int).fdiv (8 ^ (2 - (0 + ((2 : Nat) : Int))).toNat)).fmod 8 = _
    rw [e, Int.fdiv_eq_ediv_of_nonneg _ (by decide), Int.fmod_eq_emod_of_nonneg _ (by decide)]
    omega
  have e2 : lrAbove (N : Int) 2 = ((N / 2 ^ 0 % 2 ^ 10 / 512 : Nat) : Int) := by
    have e : (2 ^ (11 - (0 + ((2 : Nat) : Int))).toNat : Int) = 512 := by decide
    show ((N : Int).fdiv (2 ^ (11 - (0 + ((2 : Nat) : Int))).toNat)).fmod 2 = _
    rw [e, Int.fdiv_eq_ediv_of_nonneg _ (by decide), Int.fmod_eq_emod_of_nonneg _ (by decide)]
    omega
  rw [seg_z N 0 10 7 (by decide) (by decide +kernel), seg_z N 0 10 8 (by decide) (by decide +kernel), seg_z N 0 10 9 (by decide) (by decide +kernel), e1, e2]
  exact oth_y ⟨N / 2 ^ 0 % 2 ^ 10, Nat.mod_lt _ (by decide)⟩
theorem app_list (a b : Str) : (a ++ b).cps.toList = a.cps.toList ++ b.cps.toList := by
  show (a.cps ++ b.cps).toList = _
  simp
theorem turn_list (n : Int) (i : Nat) (T : Str) : (lrTurn n i T).cps.toList = T.cps.toList ++ ((triR (lrFig n i)).cps.toList ++ ((triW (lrFig n i)).cps.toList ++ (triX i (lrFig n i) (lrAbove n i)).cps.toList)) := by
  unfold lrTurn
  rw [app_list, app_list, app_list, List.append_assoc, List.append_assoc]
  rfl
theorem pref_list (n : Int) : (lrPref n 3).cps.toList = (lrHead n).cps.toList ++ ((triR (lrFig n 0)).cps.toList ++ ((triW (lrFig n 0)).cps.toList ++ ((triX 0 (lrFig n 0) (lrAbove n 0)).cps.toList ++ ((triR (lrFig n 1)).cps.toList ++ ((triW (lrFig n 1)).cps.toList ++ ((triX 1 (lrFig n 1) (lrAbove n 1)).cps.toList ++
    ((triR (lrFig n 2)).cps.toList ++ ((triW (lrFig n 2)).cps.toList ++ (triX 2 (lrFig n 2) (lrAbove n 2)).cps.toList)))))))) := by
  show (lrTurn n 2 (lrTurn n 1 (lrTurn n 0 (lrHead n)))).cps.toList = _
  rw [turn_list, turn_list, turn_list]
  simp only [List.append_assoc]
theorem join_empty_list : ∀ (l : List Str), (Txt.join (Str.ofString "") l).cps.toList = (l.map fun z => z.cps.toList).flatten
  | [] => rfl
  | p :: r => by
    have e : Str.ofString "" = ⟨#[]⟩ := by decide +kernel
    have q : ∀ (r : List Str) (acc : Array Nat), (r.foldl (fun acc p => acc ++ (Str.ofString "").cps ++ p.cps) acc).toList = acc.toList ++ (r.map fun z => z.cps.toList).flatten := by
      intro r
      induction r with
      | nil => intro acc; simp
      | cons x r ih =>
        intro acc
        rw [List.foldl_cons, ih]
        rw [e]
        simp
    show (r.foldl (fun acc p => acc ++ (Str.ofString "").cps ++ p.cps) p.cps).toList = _
    rw [q]
    simp
theorem fm_lr (N : Nat) : Txt.join (Str.ofString "") (fmList (N : Int) 10) = lrPref (N : Int) 3 := by
  apply str_ext
  rw [join_empty_list, pref_list]
  have e : fmList (N : Int) 10 = [fmSeg N 0, fmSeg N 1, fmSeg N 2, fmSeg N 3, fmSeg N 4, fmSeg N 5, fmSeg N 6, fmSeg N 7, fmSeg N 8, fmSeg N 9] := rfl
  rw [e, seg_head, (seg_own N).1, (seg_own N).2.1, (seg_own N).2.2, (seg_grp N).1, (seg_grp N).2.1, (seg_grp N).2.2, (seg_oth N).1, (seg_oth N).2.1, (seg_oth N).2.2]
  simp
end
section
set_option maxRecDepth 100000
abbrev Sign (z : Str) : Prop := z.cps.toList.length = 1 ∧ 32 ∉ z.cps.toList ∧ 10 ∉ z.cps.toList
theorem sign_head : ∀ k : Fin 16, Sign (Txt.item (Str.ofString "?pc?d?b?-?l?s???") ((k : Nat) : Int)) ∧ ((Txt.item (Str.ofString "?pc?d?b?-?l?s???") ((k : Nat) : Int)).cps.toList = [100] ↔ (k : Nat) = 4) := by decide +kernel
theorem sign_r (F : Int) : Sign (triR F) := by unfold triR; split <;> decide +kernel
theorem sign_w (F : Int) : Sign (triW F) := by unfold triW; split <;> decide +kernel
theorem sign_x (i : Nat) (F : Int) (n d : Int) : Sign (triX i F (n.fmod 2)) := by
  unfold triX
  rw [Int.fmod_eq_emod_of_nonneg _ (by decide), Int.fmod_eq_emod_of_nonneg _ (by decide)]
  have h1 : F % 2 = 0 ∨ F % 2 = 1 := by omega
  have h2 : n % 2 = 0 ∨ n % 2 = 1 := by omega
  rcases h1 with h1 | h1 <;> rcases h2 with h2 | h2 <;> rw [h1, h2] <;> split <;> decide +kernel
theorem sign_one {z : Str} (h : Sign z) : ∃ c, z.cps.toList = [c] ∧ c ≠ 32 ∧ c ≠ 10 := by
  obtain ⟨h1, h2, h3⟩ := h
  cases hz : z.cps.toList with
  | nil => rw [hz] at h1; cases h1
  | cons c l =>
    rw [hz] at h1 h2 h3
    have : l = [] := List.eq_nil_of_length_eq_zero (by simpa using h1)
    subst this
    exact ⟨c, rfl, fun q => h2 (by rw [q]; exact .head _), fun q => h3 (by rw [q]; exact .head _)⟩
theorem label_ok (N : Nat) : LabelOk (N : Int) := by
  have hh : lrHead (N : Int) = Txt.item (Str.ofString "?pc?d?b?-?l?s???") ((N / 4096 % 16 : Nat) : Int) := by
    have e2 : ((N : Int).fdiv 4096).fmod 16 = ((N / 4096 % 16 : Nat) : Int) := by
      rw [Int.fdiv_eq_ediv_of_nonneg _ (by decide), Int.fmod_eq_emod_of_nonneg _ (by decide)]
      omega
    rw [lrHead, e2]
  obtain ⟨s0, hd⟩ := sign_head ⟨N / 4096 % 16, Nat.mod_lt _ (by decide)⟩
  simp only at s0 hd
  rw [← hh] at s0 hd
  obtain ⟨c0, q0, a0, b0⟩ := sign_one s0
  obtain ⟨c1, q1, a1, b1⟩ := sign_one (sign_r (lrFig (N : Int) 0))
  obtain ⟨c2, q2, a2, b2⟩ := sign_one (sign_w (lrFig (N : Int) 0))
  obtain ⟨c3, q3, a3, b3⟩ := sign_one (sign_x 0 (lrFig (N : Int) 0) ((N : Int).fdiv (2 ^ (11 - (0 + ((0 : Nat) : Int))).toNat)) 0)
  obtain ⟨c4, q4, a4, b4⟩ := sign_one (sign_r (lrFig (N : Int) 1))
  obtain ⟨c5, q5, a5, b5⟩ := sign_one (sign_w (lrFig (N : Int) 1))
  obtain ⟨c6, q6, a6, b6⟩ := sign_one (sign_x 1 (lrFig (N : Int) 1) ((N : Int).fdiv (2 ^ (11 - (0 + ((1 : Nat) : Int))).toNat)) 0)
  obtain ⟨c7, q7, a7, b7⟩ := sign_one (sign_r (lrFig (N : Int) 2))
  obtain ⟨c8, q8, a8, b8⟩ := sign_one (sign_w (lrFig (N : Int) 2))
  obtain ⟨c9, q9, a9, b9⟩ := sign_one (sign_x 2 (lrFig (N : Int) 2) ((N : Int).fdiv (2 ^ (11 - (0 + ((2 : Nat) : Int))).toNat)) 0)
  have hl : (lrPref (N : Int) 3).cps.toList = [c0, c1, c2, c3, c4, c5, c6, c7, c8, c9] := by
    rw [pref_list, q0, q1, q2, q3, q4, q5, q6, q7, q8, q9]
    rfl
  refine ⟨by rw [hl]; rfl, ?_, ?_, ?_⟩
  · rw [hl]
    simp only [List.mem_cons, List.not_mem_nil, or_false, not_or]
    exact ⟨Ne.symm a0, Ne.symm a1, Ne.symm a2, Ne.symm a3, Ne.symm a4, Ne.symm a5, Ne.symm a6, Ne.symm a7, Ne.symm a8, Ne.symm a9⟩
  · rw [hl]
    simp only [List.mem_cons, List.not_mem_nil, or_false, not_or]
    exact ⟨Ne.symm b0, Ne.symm b1, Ne.symm b2, Ne.symm b3, Ne.symm b4, Ne.symm b5, Ne.symm b6, Ne.symm b7, Ne.symm b8, Ne.symm b9⟩
  · have hi : Txt.item (lrPref (N : Int) 3) 0 = ⟨#[c0]⟩ := by
      refine item_meets (by decide) ?_
      rw [← Array.getElem?_toList, hl]
      rfl
    have hD : Str.ofString "d" = ⟨#[100]⟩ := by decide +kernel
    rw [hi, hD, isD_nat]
    rw [q0] at hd
    constructor
    · intro h
      have : c0 = 100 := by simpa using h
      rw [this] at hd
      simpa using hd.mp rfl
    · intro h
      have h2 : N / 4096 % 16 = 4 := by simpa using h
      have := hd.mpr h2
      simp only [List.cons.injEq, and_true] at this
      rw [this]
end
section
set_option maxRecDepth 100000
inductive All2 (El : Int → Value → Prop) : List Int → List Value → Prop
  | nil : All2 El [] []
  | cons {k : Int} {v : Value} {ks : List Int} {vs : List Value} : El k v → All2 El ks vs → All2 El (k :: ks) (v :: vs)
theorem All2.snoc {El : Int → Value → Prop} {k : Int} {v : Value} (h : El k v) : ∀ {ks : List Int} {vs : List Value}, All2 El ks vs → All2 El (ks ++ [k]) (vs ++ [v])
  | _, _, .nil => .cons h .nil
  | _, _, .cons a r => .cons a (All2.snoc h r)
section
open LCg
variable {prog : Program} {w : World} {A : Around} {h₀ : Heap} {L : Addr} {m : Str → Option Value} {env : Env} {elt : Expr} {x : Str} {scope : Scope} {cl : List (Str × Addr)} {s : Shared} {S : List (Addr × Obj) → Prop} {P : Nat → Value → Prop} {Fin : List Value → List (Addr × Obj) → Prop} {news : List (Addr × Obj)} {El : Int → Value → Prop}
/-- one turn at the number k: its element is made in whatever way, and El says what it is -/
noncomputable def ElTurn (prog : Program) (w : World) (A : Around) (h₀ : Heap) (L : Addr) (m : Str → Option Value) (env : Env) (elt : Expr) (x : Str) (scope : Scope) (cl : List (Str × Addr)) (s : Shared) (S : List (Addr × Obj) → Prop) (news : List (Addr × Obj)) (El : Int → Value → Prop) (k : Int) : Prop :=
  ∀ t I oI C oC D m₂ ys h tk (E' : Value → Shared → Prop), NsObj oC m₂ → m₂ x = some (.int k t) → Fr h₀ L h m → News h₀ L h ((I, oI) :: (C, oC) :: (D, lst ys) :: news) → Off3 I C D news → ((@Ne Nat I C) ∧ (@Ne Nat I D) ∧ (@Ne Nat C D)) →
    wpAny (model prog w) A (eval elt (compEnvC scope cl C env)) (CompEnd h₀ L m { s with heap := h, toks := tk } I oI C oC D (lst ys) S (fun y nx => nx = news ∧ El k y)) E' { s with heap := h, toks := tk }
theorem el_go {ks : List Int} (fin : ∀ ys, All2 El ks ys → Fin ys news) : ∀ (r done : List Int) (ys : List Value), done ++ r = ks → All2 El done ys → (∀ k ∈ r, ElTurn prog w A h₀ L m env elt x scope cl s S news El k) →
    (∀ (e : Nat) v, e < r.length → P (done.length + e) v → ∃ k t, r[e]? = some k ∧ v = .int k t) → CompRest prog w A h₀ L m env elt x scope cl s S P Fin r.length done.length ys news
  | [], done, ys, hd, hy, _, _ => CompRest.zero (fin ys (by rw [← hd, List.append_nil]; exact hy))
  | k :: r, done, ys, hd, hy, ht, hP => by
    refine CompRest.succ fun v I oI C oC D m₂ h tk E' hv hC hx F N off ne => ?_
    obtain ⟨k', t, e1, rfl⟩ := hP 0 v (Nat.zero_lt_succ _) hv
    obtain rfl := Option.some.inj e1
    refine wpAny_mono (ht k (.head _) t I oI C oC D m₂ ys h tk E' hC hx F N off ne) ?_ fun _ _ q => q
    rintro y s₂ ⟨h', tk', nx, rfl, F', N', off', hS, hn, hel⟩
    rw [hn] at N' off' hS
    have next := el_go fin r (done ++ [k]) (ys ++ [y]) (by rw [List.append_assoc]; exact hd) (All2.snoc hel hy) (fun q hq => ht q (.tail _ hq)) (fun e v he hq => by
      rw [List.length_append, Nat.add_assoc] at hq
      have e2 : [k].length + e = e + 1 := Nat.add_comm _ _
      rw [e2] at hq
      exact hP (e + 1) v (Nat.succ_lt_succ he) hq)
    rw [List.length_append] at next
    exact ⟨h', tk', news, rfl, F', N', off', hS, next⟩
theorem kcv_rest {n : Nat} {ks : List Int} (hks : ks.length = n) (hP : ∀ i v, i < n → P i v → ∃ k t, ks[i]? = some k ∧ v = .int k t)
    (turn : ∀ k ∈ ks, ElTurn prog w A h₀ L m env elt x scope cl s S news El k) (fin : ∀ ys, All2 El ks ys → Fin ys news) : CompRest prog w A h₀ L m env elt x scope cl s S P Fin n 0 [] news := by
  subst hks
  exact el_go fin ks [] [] rfl .nil turn fun e v he hq => hP e v he (by rwa [List.length_nil, Nat.zero_add] at hq)
end
end
section
open PySem.SeqAt
set_option maxRecDepth 100000
theorem reads_bools {h : Heap} {f : Int → Bool} : ∀ {ks : List Int} {ys : List Value}, All2 (fun k v => v = .bool (f k)) ks ys → ReadsAll h ys (ks.map fun k => PyData.bool (f k)) []
  | _, _, .nil => .nil
  | _, _, .cons (k := k) e r => by
    rw [e]
    have := ReadsAll.cons (Reads.bool (h := h) (f k)) (reads_bools (h := h) r)
    simpa using this
theorem reads_boolList {h : Heap} {a : Addr} {f : Int → Bool} {ks : List Int} {ys : List Value} (hl : h.IsList a ys.toArray) (hi : All2 (fun k v => v = .bool (f k)) ks ys) : Reads h (.ref a) (.list (ks.map fun k => PyData.bool (f k))) [a] := by
  obtain ⟨o, ho, hc, n, hd⟩ := hl
  exact Reads.list ho hc hd (by simpa using reads_bools hi)
theorem canLayAll0_bools (f : Int → Bool) : ∀ ns : List Int, PyData.canLayAll0 (ns.map fun k => PyData.bool (f k)) = true
  | [] => by simp [PyData.canLayAll0]
  | n :: r => by simp [PyData.canLayAll0, PyData.canLay0, canLayAll0_bools f r]
theorem depthAll_bools (f : Int → Bool) : ∀ ns : List Int, PyData.depthAll (ns.map fun k => PyData.bool (f k)) ≤ 1
  | [] => by simp [PyData.depthAll]
  | n :: r => by
    have := depthAll_bools f r
    simp only [List.map_cons, PyData.depthAll, PyData.depth]
    omega
theorem shaped_bools (f : Int → Bool) (ns : List Int) : shaped (.list (ns.map fun k => PyData.bool (f k))) = true := by
  have h1 := depthAll_bools f ns
  have h2 : PyData.depth (.list (ns.map fun k => PyData.bool (f k))) ≤ 64 := by simp only [PyData.depth]; omega
  show (PyData.canLay0 (.list (ns.map fun k => PyData.bool (f k))) && decide (PyData.depth (.list (ns.map fun k => PyData.bool (f k))) ≤ 64)) = true
  rw [Bool.and_eq_true]
  exact ⟨by simp only [PyData.canLay0]; exact canLayAll0_bools f ns, decide_eq_true h2⟩
theorem eqvAll_bools (f : Int → Bool) : ∀ ns : List Int, PyData.eqvAll (ns.map fun k => PyData.bool (f k)) (ns.map fun k => PyData.bool (f k)) = true
  | [] => by simp [PyData.eqvAll]
  | n :: r => by simp [PyData.eqvAll, PyData.eqv, eqvAll_bools f r]
theorem ne_bools {prog : Program} {w : World} {A : Around} {E : Value → Shared → Prop} {s : Shared} {a b : Addr} {f : Int → Bool} {ks : List Int} {ys us : List Value} {Q : Value → Shared → Prop}
    (hl : s.heap.IsList a ys.toArray) (hi : All2 (fun k v => v = .bool (f k)) ks ys) (hl' : s.heap.IsList b us.toArray) (hi' : All2 (fun k v => v = .bool (f k)) ks us) (hu : A.units + 64 < cLine)
    (h : Q (.bool false) s) : wpAny (model prog w) A (compareOp .NotEq (.ref a) (.ref b)) Q E s :=
  ne_dataH (reads_boolList hl hi) (reads_boolList hl' hi') (shaped_bools f ks) (shaped_bools f ks) hu (by
    have e : PyData.eqv (.list (ks.map fun k => PyData.bool (f k))) (.list (ks.map fun k => PyData.bool (f k))) = true := by
      rw [PyData.eqv]; exact eqvAll_bools f ks
    rw [e]; exact h)
end
section
set_option maxRecDepth 100000
theorem All2.len {El : Int → Value → Prop} : ∀ {ks : List Int} {ys : List Value}, All2 El ks ys → ks.length = ys.length
  | _, _, .nil => rfl
  | _, _, .cons _ r => by rw [List.length_cons, List.length_cons, All2.len r]
theorem All2.get {El : Int → Value → Prop} : ∀ {ks : List Int} {ys : List Value}, All2 El ks ys → ∀ (i : Nat) (k : Int), ks[i]? = some k → ∃ v, ys[i]? = some v ∧ El k v
  | _, _, .nil, _, _, h => by simp at h
  | _, _, .cons e r, 0, k, h => by
    obtain rfl := Option.some.inj h
    exact ⟨_, rfl, e⟩
  | _, _, .cons e r, i + 1, k, h => All2.get r i k (by simpa using h)
theorem strsAre_of : ∀ {ys : List Value} {zs : List Str}, ys.length = zs.length → (∀ (i : Nat) (z : Str), zs[i]? = some z → ∃ t, ys[i]? = some (.str z t)) → StrsAre ys zs
  | [], [], _, _ => .nil
  | y :: ys, z :: zs, hl, h => by
    obtain ⟨t, ht⟩ := h 0 z rfl
    have e : y = .str z t := by simpa using ht
    rw [e]
    exact .cons z t (strsAre_of (by simpa using hl) fun i x hx => h (i + 1) x (by simpa using hx))
  | [], _ :: _, hl, _ => by simp at hl
  | _ :: _, [], hl, _ => by simp at hl
theorem texts_are {ms gs : List Int} {ys : List Value} {n : Nat} (hm : ms.length = n) (hg : gs.length = n)
    (h : All2 (fun k v => ∃ t, v = .str (rowT (ms.getD k.toNat 0, gs.getD k.toNat 0)) t) (rangeKs 0 n) ys) : StrsAre ys ((ms.zip gs).map rowT) := by
  refine strsAre_of (by rw [← h.len, rangeKs_length, List.length_map, List.length_zip, hm, hg, Nat.min_self]) ?_
  intro i z hz
  have hz' := hz
  rw [List.getElem?_map] at hz'
  have hi : i < n := by
    have := (List.getElem?_eq_some_iff.mp hz).1
    simpa [hm, hg] using this
  have hk : (rangeKs 0 n)[i]? = some ((0 : Int) + (i : Int)) := by simp [rangeKs, hi]
  obtain ⟨v, hv, t, e⟩ := h.get i _ hk
  refine ⟨t, ?_⟩
  rw [hv, e]
  have e1 : ((0 : Int) + (i : Int)).toNat = i := by omega
  rw [e1]
  have hmi : i < ms.length := by omega
  have hgi : i < gs.length := by omega
  have : (ms.zip gs)[i]? = some (ms.getD i 0, gs.getD i 0) := by
    rw [List.getElem?_zip_eq_some]
    exact ⟨by simp [hmi], by simp [hgi]⟩
  rw [this] at hz'
  have hz2 : rowT (ms.getD i 0, gs.getD i 0) = z := by simpa using hz'
  rw [hz2]
theorem mul_sp (g : Int) : (Txt.mul (Str.ofString " ") g).cps.toList = List.replicate g.toNat 32 := by
  rw [SP_eq]
  unfold Txt.mul
  split
  · rename_i h
    have e : g.toNat = 0 := by omega
    rw [e]; rfl
  · split
    · rename_i h h2
      have e : g = 1 := by
        have l : Str.length ⟨#[32]⟩ = 1 := rfl
        rw [l] at h2
        simpa using h2
      rw [e]; rfl
    · show (List.foldl (fun x1 x2 => x1 ++ x2) #[] (List.replicate g.toNat #[32])).toList = _
      have key : ∀ (n : Nat) (acc : Array Nat), (List.foldl (fun x1 x2 => x1 ++ x2) acc (List.replicate n #[32])).toList = acc.toList ++ List.replicate n 32 := by
        intro n
        induction n with
        | zero => intro acc; simp
        | succ n ih =>
          intro acc
          rw [List.replicate_succ, List.foldl_cons, ih]
          simp [List.replicate_succ]
      rw [key]; rfl
theorem row_text {N g : Int} : Txt.mul (Str.ofString " ") g ++ lrPref N 3 = rowT (N, g) := by
  refine str_ext ?_
  rw [app_list, mul_sp, rowT_list]
end
section
set_option maxRecDepth 100000
abbrev Small (z : Str) : Prop := ∀ c ∈ z.cps.toList, c < 128
theorem small_head : ∀ k : Fin 16, Small (Txt.item (Str.ofString "?pc?d?b?-?l?s???") ((k : Nat) : Int)) := by decide +kernel
theorem small_r (F : Int) : Small (triR F) := by unfold triR; split <;> decide +kernel
theorem small_w (F : Int) : Small (triW F) := by unfold triW; split <;> decide +kernel
theorem small_x (i : Nat) (F : Int) (n : Int) : Small (triX i F (n.fmod 2)) := by
  unfold triX
  rw [Int.fmod_eq_emod_of_nonneg _ (by decide), Int.fmod_eq_emod_of_nonneg _ (by decide)]
  have h1 : F % 2 = 0 ∨ F % 2 = 1 := by omega
  have h2 : n % 2 = 0 ∨ n % 2 = 1 := by omega
  rcases h1 with h1 | h1 <;> rcases h2 with h2 | h2 <;> rw [h1, h2] <;> split <;> decide +kernel
theorem small_label (N : Nat) : Small (lrPref (N : Int) 3) := by
  have hh : lrHead (N : Int) = Txt.item (Str.ofString "?pc?d?b?-?l?s???") ((N / 4096 % 16 : Nat) : Int) := by
    have e2 : ((N : Int).fdiv 4096).fmod 16 = ((N / 4096 % 16 : Nat) : Int) := by
      rw [Int.fdiv_eq_ediv_of_nonneg _ (by decide), Int.fmod_eq_emod_of_nonneg _ (by decide)]
      omega
    rw [lrHead, e2]
  have s0 := small_head ⟨N / 4096 % 16, Nat.mod_lt _ (by decide)⟩
  simp only at s0
  rw [← hh] at s0
  intro c hc
  rw [pref_list] at hc
  simp only [List.mem_append] at hc
  rcases hc with h | h | h | h | h | h | h | h | h | h
  · exact s0 c h
  · exact small_r _ c h
  · exact small_w _ c h
  · exact small_x _ _ _ c h
  · exact small_r _ c h
  · exact small_w _ c h
  · exact small_x _ _ _ c h
  · exact small_r _ c h
  · exact small_w _ c h
  · exact small_x _ _ _ c h
theorem strOk_small {z : Str} (h : Small z) : PyData.strOk z = true := by
  unfold PyData.strOk
  rw [← Array.all_toList, List.all_eq_true]
  intro c hc
  have := h c hc
  exact decide_eq_true (by omega)
theorem due_strOk : ∀ (rows : List (Int × Int)) (st : List Int) (pd : Bool), (∀ p ∈ rows, 0 ≤ p.1) → ∀ q ∈ (dueL st pd rows).2, PyData.strOk q.2 = true
  | [], _, _, _, q, hq => by simp [dueL] at hq
  | p :: rest, st, pd, h, q, hq => by
    rw [dueL] at hq
    split at hq
    · simp at hq
    · rcases List.mem_cons.mp hq with e | e
      · rw [e]
        obtain ⟨K, hK⟩ := Int.eq_ofNat_of_zero_le (h p (.head _))
        show PyData.strOk (lrPref p.1 3) = true
        rw [hK]
        exact strOk_small (small_label K)
      · exact due_strOk rest _ _ (fun r hr => h r (.tail _ hr)) q e
theorem rows_ok {ms gs : List Int} (hm : ∀ n ∈ ms, 0 ≤ n ∧ n < 262144) {b : Int} (hg : ∀ g ∈ gs, 0 ≤ g ∧ g ≤ b) : ∀ p ∈ ms.zip gs, OkRow p := by
  rintro ⟨n, g⟩ hp
  have h1 := hm n (List.of_mem_zip hp).1
  have h2 := hg g (List.of_mem_zip hp).2
  obtain ⟨K, rfl⟩ := Int.eq_ofNat_of_zero_le h1.1
  exact ⟨label_ok K, h2.1⟩
theorem rows_row {ms gs : List Int} (hm : ∀ n ∈ ms, 0 ≤ n ∧ n < 262144) {b : Int} (hb : b ≤ 100) (hg : ∀ g ∈ gs, 0 ≤ g ∧ g ≤ b) : ∀ z ∈ (ms.zip gs).map rowT, IsRow z := by
  intro z hz
  obtain ⟨p, hp, rfl⟩ := List.mem_map.mp hz
  have h := rows_ok hm hg p hp
  have h2 := hg p.2 (List.of_mem_zip (a := p.1) (b := p.2) hp).2
  exact ⟨_, _, rowT_text h.1, by omega⟩
theorem row_val {n g : Int} (hn : 0 ≤ n) : Txt.mul (Str.ofString " ") g ++ Txt.join (Str.ofString "") (fmList n 10) = rowT (n, g) := by
  obtain ⟨K, rfl⟩ := Int.eq_ofNat_of_zero_le hn
  rw [fm_lr, row_text]
theorem row_size {n g : Int} (hn : 0 ≤ n) (hg : g ≤ 100) : (Txt.mul (Str.ofString " ") g).length + (Txt.join (Str.ofString "") (fmList n 10)).length ≤ 16777216 := by
  obtain ⟨K, rfl⟩ := Int.eq_ofNat_of_zero_le hn
  rw [fm_lr]
  have e1 : (Txt.mul (Str.ofString " ") g).length = g.toNat := by
    show (Txt.mul (Str.ofString " ") g).cps.size = _
    rw [← Array.length_toList, mul_sp, List.length_replicate]
  have e2 : (lrPref (K : Int) 3).length = 10 := by
    show (lrPref (K : Int) 3).cps.size = _
    rw [← Array.length_toList]; exact (label_ok K).1
  rw [e1, e2]; omega
/-- the two tellings agree -/
theorem both {ms gs : List Int} {g0 : Int} (hlen : ms.length = gs.length) (h0 : 0 < ms.length) (h13 : ms.length ≤ 13) (hg0 : gs[(0 : Int).toNat]? = some g0) (hok : ∀ p ∈ ms.zip gs, OkRow p) :
    readU 13 0 ((ms.zip gs).map rowT) = dueL [g0] false (ms.zip gs) := by
  cases ms with
  | nil => simp at h0
  | cons m ms =>
    cases gs with
    | nil => simp at hlen
    | cons g gs =>
      have e : g = g0 := by simpa using hg0
      subst e
      exact read_due 13 (m, g) (ms.zip gs) (by simp [List.length_zip] at hlen h13 ⊢; omega) hok
end
section
open PySem.SeqAt
set_option maxRecDepth 100000
noncomputable def ToldP (B : Bool) (TT : List (Int × Str)) : PyData := .tuple [.bool B, kqdP (.list (TT.map toDat))]
theorem told_ok {TT : List (Int × Str)} (h : ∀ p ∈ TT, PyData.strOk p.2 = true) : kqdOk 2 (.list (TT.map toDat)) = true := by
  rw [kqdOk, List.all_eq_true]
  intro d hd
  obtain ⟨p, hp, rfl⟩ := List.mem_map.mp hd
  have := h p hp
  simp [toDat, kqdOk, this]
theorem told_reads {h₀ h : Heap} {L : Addr} {news : List (Addr × Obj)} (N : News h₀ L h news) {B : Bool} {TT : List (Int × Str)} {T D : Addr} {e n : Nat} {v : Array Value}
    (m1 : (T, ({ cls := .type "tuple", data := .seq #[.bool B, .ref D] e } : Obj)) ∈ news) (l1 : (D, W.listOf v n) ∈ news) (d1 : DatAll news v.toList (TT.map toDat)) (hok : ∀ p ∈ TT, PyData.strOk p.2 = true) :
    ∃ as, Reads h (.ref T) (ToldP B TT) as := by
  obtain ⟨as, r⟩ := kqd_in (v := .ref D) (d := .list (TT.map toDat)) N 2 (.list l1 (by simpa using d1)) (told_ok hok)
  exact ⟨_, reads_tuple_at (N.get m1) rfl rfl (by simpa using ReadsAll.cons (Reads.bool B) (ReadsAll.cons r .nil))⟩
theorem told_shaped {B : Bool} {TT : List (Int × Str)} (hok : ∀ p ∈ TT, PyData.strOk p.2 = true) : shaped (ToldP B TT) = true := by
  have q := kqd_lay 2 _ (told_ok hok)
  have q1 := q.1
  have q2 := q.2
  have h2 : PyData.depth (ToldP B TT) ≤ 64 := by
    simp only [ToldP, PyData.depth, PyData.depthAll]; omega
  show (PyData.canLay0 (ToldP B TT) && decide (PyData.depth (ToldP B TT) ≤ 64)) = true
  rw [Bool.and_eq_true]
  exact ⟨by simp [ToldP, PyData.canLay0, PyData.canLayAll0, q1], decide_eq_true h2⟩
theorem told_eqv {B : Bool} {TT : List (Int × Str)} (hok : ∀ p ∈ TT, PyData.strOk p.2 = true) : PyData.eqv (ToldP B TT) (ToldP B TT) = true := by
  have q := (kqd_eqv 2 _ _ 2 (told_ok hok) (told_ok hok)).mpr rfl
  simp [ToldP, PyData.eqv, PyData.eqvAll, q]
theorem told_eq {prog : Program} {w : World} {A : Around} {E : Value → Shared → Prop} {s : Shared} {Q : Value → Shared → Prop} {h₀ : Heap} {L : Addr} {news : List (Addr × Obj)} (N : News h₀ L s.heap news) {B : Bool} {TT : List (Int × Str)} {T D T' D' : Addr} {e n e' n' : Nat} {v v' : Array Value}
    (m1 : (T, ({ cls := .type "tuple", data := .seq #[.bool B, .ref D] e } : Obj)) ∈ news) (l1 : (D, W.listOf v n) ∈ news) (d1 : DatAll news v.toList (TT.map toDat))
    (m2 : (T', ({ cls := .type "tuple", data := .seq #[.bool B, .ref D'] e' } : Obj)) ∈ news) (l2 : (D', W.listOf v' n') ∈ news) (d2 : DatAll news v'.toList (TT.map toDat)) (hok : ∀ p ∈ TT, PyData.strOk p.2 = true)
    (hu : A.units + 64 < cLine) (h : Q (.bool true) s) : wpAny (model prog w) A (compareOp .Eq (.ref T) (.ref T')) Q E s := by
  obtain ⟨as, ra⟩ := told_reads N m1 l1 d1 hok
  obtain ⟨bs, rb⟩ := told_reads N m2 l2 d2 hok
  exact eq_dataH ra rb (told_shaped hok) (told_shaped hok) hu (by rw [told_eqv hok]; exact h)
end
section
set_option maxRecDepth 100000
set_option maxHeartbeats 8000000
local macro_rules | `(tactic| walk_at "idle 0") => `(tactic| skip)
noncomputable def CutV (P : Value → Prop) (h₀ : Heap) (L : Addr) (m₀ : Str → Option Value) (ps : Value → List (Str × Value)) (fs : List Str) (news : List (Addr × Obj)) (s₀ : Shared) (f : Flow) (s' : Shared) : Prop :=
  ∃ v h' tk' m', f = .next ∧ s' = { s₀ with heap := h', toks := tk' } ∧ P v ∧ Agree (ps v) fs m₀ m' ∧ Fr h₀ L h' m' ∧ News h₀ L h' news
theorem CutV.intro {P : Value → Prop} {h₀ : Heap} {L : Addr} {m₀ : Str → Option Value} {ps : Value → List (Str × Value)} {fs : List Str} {news all : List (Addr × Obj)} {s₀ : Shared} {h' : Heap} {tk' : Nat} {m' : Str → Option Value}
    (F : Fr h₀ L h' m') (N : News h₀ L h' all) (sub : ∀ p ∈ news, p ∈ all) (v : Value) (hP : P v) (hA : Agree (ps v) fs m₀ m') : CutV P h₀ L m₀ ps fs news s₀ .next { s₀ with heap := h', toks := tk' } :=
  ⟨v, h', tk', m', rfl, rfl, hP, hA, F, fun p hp => N p (sub p hp)⟩
theorem cut_at {M : Model} {A : Around} {t : Sem Flow} {Q : Flow → Shared → Prop} {E : Value → Shared → Prop} {s : Shared} {P : Value → Prop} {h₀ : Heap} {L : Addr} {m m₀ : Str → Option Value} {ps : Value → List (Str × Value)} {fs : List Str} {news : List (Addr × Obj)}
    (F : Fr h₀ L s.heap m) (N : News h₀ L s.heap news) (walk : wpAny M A t (CutV P h₀ L m₀ ps fs news s) E s)
    (cont : ∀ (v : Value) (h' : Heap) (tk' : Nat) (u : Str → Option Value), P v → Fr h₀ L h' (kstB (fun z => if fs.contains z then u z else m₀ z) (ps v)) → News h₀ L h' news → Q .next { s with heap := h', toks := tk' }) : wpAny M A t Q E s :=
  wpAny_mono walk (fun f s' h => by
    obtain ⟨v, h', tk', m', rfl, rfl, hP, hA, F', N'⟩ := h
    obtain ⟨u, rfl⟩ := hA.ex
    exact cont v h' tk' u hP F' N') fun _ _ h => h
local macro_rules | `(tactic| walk_at "pyIter ref") => `(tactic| refine Stop.out ?_)
local macro_rules | `(tactic| walk_at "UnrEnd") => `(tactic| refine Stop.out ?_)
local macro_rules | `(tactic| walk_at "exec For Name BinOp cons nil") => `(tactic| ((rename Fr _ _ _ _ => lF'); (with_unfolding_all refine' For_invVF lF' ?k1 ?k2 ?_; (case k1 => exact rfl); (case k2 => exact rfl); k_whole)))
local macro_rules | `(tactic| walk_at "call ref") => `(tactic| refine Stop.out ?_)
local macro_rules | `(tactic| walk_at "CompSrc") => `(tactic| refine Stop.out ?_)
local macro_rules | `(tactic| walk_at "CompEnd") => `(tactic| refine Stop.out ?_)
local macro_rules | `(tactic| walk_at "compareOp NotEq ref ref") => `(tactic| refine Stop.out ?_)
local macro_rules | `(tactic| walk_at "exec If") => `(tactic| (
  (fail_if_success (with_reducible show wpAny _ _ _ (CutV _ _ _ _ _ _ _ _) _ _))
  first
  | (with_reducible show wpAny _ _ (exec (Stmt.If (Expr.Compare (Expr.BinOp _ _ _ _) _ _ _) _ [] _) _) _ _ _)
  | (with_reducible show wpAny _ _ (exec (Stmt.If (Expr.Compare (Expr.Name _ _) _ _ _) _ _ _) _) _ _ _)
  refine Stop.out ?_))
local macro_rules | `(tactic| walk_at "CutV") => `(tactic| refine Stop.out ?_)
theorem md_a (x : Int) : 0 ≤ (x.fdiv 16).fmod (2 ^ Int.toNat 18) ∧ (x.fdiv 16).fmod (2 ^ Int.toNat 18) < 262144 := by
  have e : (2 ^ Int.toNat 18 : Int) = 262144 := by decide
  rw [e, Int.fmod_eq_emod_of_nonneg _ (by decide)]
  omega
theorem md_b (m : Int) (h : 0 ≤ m ∧ m < 262144) : 0 ≤ m + (4 - (m.fdiv 4096).fmod 16) * 4096 ∧ m + (4 - (m.fdiv 4096).fmod 16) * 4096 < 262144 := by
  rw [Int.fmod_eq_emod_of_nonneg _ (by decide), Int.fdiv_eq_ediv_of_nonneg _ (by decide)]
  omega
theorem rng_push {ms : List Int} {x : Int} (h : ∀ n ∈ ms, 0 ≤ n ∧ n < 262144) (h2 : 0 ≤ x ∧ x < 262144) : ∀ n ∈ ms ++ [x], 0 ≤ n ∧ n < 262144 := by
  intro n hn
  rcases List.mem_append.mp hn with hn | hn
  · exact h n hn
  · rw [List.mem_singleton.mp hn]; exact h2
theorem mrg_push {gs : List Int} {j : Nat} {x : Int} (h : ∀ g ∈ gs, 0 ≤ g ∧ g ≤ 2 * (j : Int) + 1) (h2 : 0 ≤ x ∧ x ≤ 2 * (j : Int) + 3) : ∀ g ∈ gs ++ [x], 0 ≤ g ∧ g ≤ 2 * ((j + 1 : Nat) : Int) + 1 := by
  intro n hn
  rcases List.mem_append.mp hn with hn | hn
  · have := h n hn; omega
  · rw [List.mem_singleton.mp hn]; omega
theorem news_pick {h₀ h : Heap} {L : Addr} {a : Addr × Obj} {r : List (Addr × Obj)} (N : News h₀ L h r) (ha : a ∈ r) : News h₀ L h (a :: r) := fun p hp => N p (by
    rcases List.mem_cons.mp hp with rfl | hp
    · exact ha
    · exact hp)
theorem getD_mem {l : List Int} {k : Nat} (h : k < l.length) : l.getD k 0 ∈ l := by
  rw [List.getD_eq_getElem?_getD, List.getElem?_eq_getElem h]
  exact List.getElem_mem h
theorem holds_all : PySem.Challenge.rw_tx0011_01.Holds := hd (by
  k_go0
  (try k_fold)
  k_steps
  unfold Stop
  rename_i lM hx1 lt1 hx2 oM dM tk1 lG hx3 lt2 hx4 oG dG l1 hx5 lt3 D2 ws2 hx6 hI2 hC2 hL2 lt4 D1 ws1 hx7 hI1 lt5 l0 hx8 lt6 D ws hx9 F0 N0 hI lt7
  clear hI1 hI2 hL2 hC2
  clear lt4 lt5 lt6
  rename ¬ (_ : Int) < _ => h63
  rename List Int => wl
  rename Shared => s1
  rename Below _ _ _ _ => K0
  have K1 : Below callerA s1.heap [] s1.heap := K0
  clear K0
  generalize (bindL _ _ _) = m0 at F0
  have hlen : ([286416, 278288, 564376, 268821] ++ List.take 8 wl ++ [663550 - ((wl.length : Int)).fmod 2 * 2]).length ≤ 13 := by
    simp only [List.length_append, List.length_take, List.length_cons, List.length_nil]; omega
  have hlen1 : 0 < ([286416, 278288, 564376, 268821] ++ List.take 8 wl ++ [663550 - ((wl.length : Int)).fmod 2 * 2]).length := by
    simp
  generalize ([286416, 278288, 564376, 268821] ++ List.take 8 wl ++ [663550 - ((wl.length : Int)).fmod 2 * 2]) = xs at hI hlen hlen1
  have hwl := hI.length
  have n1 : lM ≠ lG := Nat.ne_of_lt lt2.1
  have n2 : lM ≠ D := Nat.ne_of_lt lt7.2.2.2.2.2.1
  have n3 : lG ≠ D := Nat.ne_of_lt lt7.2.2.2.2.1
  have n4 : s1.heap.objs.size + 1 ≠ lM := Nat.ne_of_lt lt1.2
  have n5 : s1.heap.objs.size + 1 + 1 ≠ lM := Nat.ne_of_lt lt1.1
  have n6 : s1.heap.objs.size + 1 ≠ lG := Nat.ne_of_lt lt2.2.2
  have n7 : s1.heap.objs.size + 1 + 1 ≠ lG := Nat.ne_of_lt lt2.2.1
  refine iter_listUnr (ax := D) (lo := W.listOf ws.toArray 0) (vs := ws) (n := 0) (by rfl) F0 (news := [(lM, W.listOf #[] 0), (lG, W.listOf #[] 0), (s1.heap.objs.size + 1, oM), (s1.heap.objs.size + 1 + 1, oG), (D, W.listOf ws.toArray 0)]) ?n1 ?n2 rfl rfl ?n3
  case n1 =>
    refine List.forall_mem_cons.mpr ⟨N0 _ ?_, List.forall_mem_cons.mpr ⟨N0 _ ?_, List.forall_mem_cons.mpr ⟨N0 _ ?_, List.forall_mem_cons.mpr ⟨N0 _ ?_, List.forall_mem_cons.mpr ⟨N0 _ ?_, List.forall_mem_nil _⟩⟩⟩⟩⟩
    all_goals walk_at "mem"
  case n2 => walk_at "mem"
  case n3 =>
    clear N0 F0
    intro I hltI
    refine listRest_ind (J := fun vs m nx => ∃ j ms gs vm em vg eg, vs = ws.drop j ∧ j ≤ xs.length ∧ nx = [(lM, W.listOf vm em), (lG, W.listOf vg eg), (s1.heap.objs.size + 1, oM), (s1.heap.objs.size + 1 + 1, oG), (D, W.listOf ws.toArray 0)] ∧ IntsAre vm.toList ms ∧ IntsAre vg.toList gs ∧ ms.length = j ∧ gs.length = j ∧
      (∀ n ∈ ms, 0 ≤ n ∧ n < 262144) ∧ (∀ g ∈ gs, 0 ≤ g ∧ g ≤ 2 * (j : Int) + 1) ∧ Agree [] [Str.ofString "x", Str.ofString "mode", Str.ofString "margin"] m0 m) ?_ ?_ _ _ _ ?_
    · rintro v r m nx it h tk ⟨j, ms, gs, vm, em, vg, eg, hv, hj, rfl, hM, hG, hml, hgl, hmr, hgr, hA⟩ hit F N
      obtain ⟨u, rfl⟩ := hA.ex
      clear hA
      have hj2 : j < xs.length := by
        have := congrArg List.length hv
        rw [List.length_drop, List.length_cons] at this
        omega
      obtain ⟨x, hx⟩ : ∃ x, xs[j]? = some x := ⟨_, List.getElem?_eq_getElem hj2⟩
      obtain ⟨t, ht⟩ := hI.get _ _ hx
      have hvx : v = .int x t ∧ r = ws.drop (j + 1) := by
        have hl := (List.getElem?_eq_some_iff.mp ht)
        obtain ⟨q1, q2⟩ := hl
        rw [List.drop_eq_getElem_cons q1, q2] at hv
        exact List.cons.inj hv
      obtain ⟨rfl, rfl⟩ := hvx
      clear hv
      have hszm : vm.size = j := by
        have := hM.length
        rw [Array.length_toList] at this
        omega
      have hszg : vg.size = j := by
        have := hG.length
        rw [Array.length_toList] at this
        omega
      have hfit : sizeLine = 16777216 := by decide
      have hz1 : vm.size ≤ sizeLine := by omega
      have hz2 : vg.size ≤ sizeLine := by omega
      have hm1 := Int.emod_nonneg (x.fdiv 16) (show (262144 : Int) ≠ 0 by decide)
      have n8 : lM ≠ I := Nat.ne_of_lt (hltI (lM, W.listOf #[] 0) memH)
      have n9 : lG ≠ I := Nat.ne_of_lt (hltI (lG, W.listOf #[] 0) (memT memH))
      have p1 := neN n1
      have p2 := neN n2
      have p3 := neN n3
      have p4 := neN n4
      have p5 := neN n5
      have p6 := neN n6
      have p7 := neN n7
      have p8 := neN n8
      have p9 := neN n9
      k_steps
      all_goals (try unfold Stop)
      refine' cut_at (m₀ := m0) (P := fun v => ∃ M t, v = .int M t ∧ 0 ≤ M ∧ M < 262144) (ps := fun v => [(Str.ofString "x", .int x t), (Str.ofString "mode", v)]) (fs := [Str.ofString "x", Str.ofString "mode", Str.ofString "margin"]) ?f ?n ?w ?c
      case f => k_asm
      case n => k_asm
      case w =>
        k_steps
        all_goals (try unfold Stop)
        all_goals (
          refine' CutV.intro (by assumption) (by assumption) (fun _ h => h) _ ⟨_, _, rfl, ?b1⟩ ⟨List.forall_mem_cons.mpr ⟨?m1, List.forall_mem_cons.mpr ⟨?m2, List.forall_mem_nil _⟩⟩, ?m3⟩
          (case m1 => with_unfolding_all rfl)
          (case m2 => with_unfolding_all rfl)
          (case b1 => first | exact md_a _ | exact md_b _ (md_a _))
          (case m3 =>
            intro z h2 h3
            simp only [List.forall_mem_cons, List.not_mem_nil, false_implies, implies_true, and_true, ne_eq] at h2
            simp only [List.contains_cons, List.contains_nil, Bool.or_false, Bool.or_eq_false_iff, beq_eq_false_iff_ne, ne_eq] at h3
            simp [h2, h3, kstB]))
      case c =>
        clear F N
        rintro v hc2 tkc2 uc2 ⟨M2, tM, rfl, hM0, hM1⟩ F N
        (try dsimp only)
        (try k_fold)
        k_steps
        unfold Stop
        refine' cut_at (m₀ := m0) (P := fun v => ∃ G t, v = .int G t ∧ (0 ≤ G ∧ G ≤ 2 * (j : Int) + 3)) (ps := fun v => [(Str.ofString "x", .int x t), (Str.ofString "mode", .int M2 tM), (Str.ofString "margin", v)]) (fs := [Str.ofString "x", Str.ofString "mode", Str.ofString "margin"]) ?f ?n ?w ?c
        case f => k_asm
        case n => k_asm
        case w =>
          by_cases hj0 : j = 0
          · subst hj0
            have hb : ms.isEmpty = true := by rw [List.eq_nil_of_length_eq_zero hml]; rfl
            k_steps
            all_goals (try unfold Stop)
            all_goals (
              refine' CutV.intro (by assumption) ?nn ?sb _ ⟨_, _, rfl, ?b1⟩ ⟨List.forall_mem_cons.mpr ⟨?m1, List.forall_mem_cons.mpr ⟨?m2, List.forall_mem_cons.mpr ⟨?m3, List.forall_mem_nil _⟩⟩⟩, ?m4⟩
              (case nn => assumption)
              (case sb => first | exact fun _ h => h | exact fun _ h => memT h)
              (case m1 => with_unfolding_all rfl)
              (case m2 => with_unfolding_all rfl)
              (case m3 => with_unfolding_all rfl)
              (case b1 => first | omega | (rw [List.getD_eq_getElem?_getD, hg0]; show 0 ≤ g0 ∧ g0 ≤ _; omega) | (rw [List.getD_eq_getElem?_getD, hgi]; show 0 ≤ gi ∧ gi ≤ _; omega))
              (case m4 =>
                intro z h2 h3
                simp only [List.forall_mem_cons, List.not_mem_nil, false_implies, implies_true, and_true, ne_eq] at h2
                simp only [List.contains_cons, List.contains_nil, Bool.or_false, Bool.or_eq_false_iff, beq_eq_false_iff_ne, ne_eq] at h3
                simp [h2, h3, kstB]))
          · obtain ⟨ms', pm, rfl⟩ : ∃ l a, ms = l ++ [a] := by
              rcases List.eq_nil_or_concat ms with h | ⟨l, a, h⟩
              · rw [h] at hml; exact absurd hml.symm hj0
              · exact ⟨l, a, by rw [h, List.concat_eq_append]⟩
            obtain ⟨gs', pg, rfl⟩ : ∃ l a, gs = l ++ [a] := by
              rcases List.eq_nil_or_concat gs with h | ⟨l, a, h⟩
              · rw [h] at hgl; exact absurd hgl.symm hj0
              · exact ⟨l, a, by rw [h, List.concat_eq_append]⟩
            have hb : (ms' ++ [pm]).isEmpty = false := by cases ms' <;> rfl
            have hpg := hgr pg (List.mem_append.mpr (.inr (.head _)))
            have hjI : (0 : Int) < (j : Int) := by omega
            have hjN : (j : Int) ≠ 0 := by omega
            obtain ⟨g0, hg0⟩ : ∃ g, (gs' ++ [pg])[(0 : Int).toNat]? = some g := ⟨_, List.getElem?_eq_getElem (by rw [hgl]; show 0 < j; omega)⟩
            have hg0r := hgr g0 (List.mem_of_getElem? hg0)
            have hq0 : 0 ≤ (x.fdiv 16).fmod (j : Int) := by
              rw [Int.fmod_eq_emod_of_nonneg _ (by omega)]; exact Int.emod_nonneg _ hjN
            have hq1 : (x.fdiv 16).fmod (j : Int) < (j : Int) := by
              rw [Int.fmod_eq_emod_of_nonneg _ (by omega)]; exact Int.emod_lt_of_pos _ hjI
            obtain ⟨gi, hgi⟩ : ∃ g, (gs' ++ [pg])[((x.fdiv 16).fmod (j : Int)).toNat]? = some g := ⟨_, List.getElem?_eq_getElem (by rw [hgl]; omega)⟩
            have hgir := hgr gi (List.mem_of_getElem? hgi)
            k_steps
            all_goals (try unfold Stop)
            all_goals (try (
              refine' Claim.useV (c_isdir _ _ _ _ _ _ _) ?k1 ?k2 ?k3 ?k4 ?k5 ?kK ?kd ?ku ?_
              (case k1 => exact K1)
              (case k2 => k_asm)
              (case k3 => k_asm)
              (case k4 => k_asm)
              (case k5 => k_asm)
              (case kK => first | exact rfl | assumption)
              (case kd => first | ktr_room | decide)
              (case ku => first | ktr_units | decide)
              intro t9 h9 tk9 F9 N9
              (try dsimp only)
              (try k_fold)
              k_steps
              all_goals (try unfold Stop)))
            all_goals (
              refine' CutV.intro (by assumption) ?nn ?sb _ ⟨_, _, rfl, ?b1⟩ ⟨List.forall_mem_cons.mpr ⟨?m1, List.forall_mem_cons.mpr ⟨?m2, List.forall_mem_cons.mpr ⟨?m3, List.forall_mem_nil _⟩⟩⟩, ?m4⟩
              (case nn => assumption)
              (case sb => first | exact fun _ h => h | exact fun _ h => memT h)
              (case m1 => with_unfolding_all rfl)
              (case m2 => with_unfolding_all rfl)
              (case m3 => with_unfolding_all rfl)
              (case b1 => first | omega | (rw [List.getD_eq_getElem?_getD, hg0]; show 0 ≤ g0 ∧ g0 ≤ _; omega) | (rw [List.getD_eq_getElem?_getD, hgi]; show 0 ≤ gi ∧ gi ≤ _; omega))
              (case m4 =>
                intro z h2 h3
                simp only [List.forall_mem_cons, List.not_mem_nil, false_implies, implies_true, and_true, ne_eq] at h2
                simp only [List.contains_cons, List.contains_nil, Bool.or_false, Bool.or_eq_false_iff, beq_eq_false_iff_ne, ne_eq] at h3
                simp [h2, h3, kstB]))
        case c =>
          clear F N
          rintro v hc3 tkc3 uc3 ⟨G3, tG, rfl, hG01⟩ F N
          (try dsimp only)
          (try k_fold)
          k_steps
          all_goals (try unfold Stop)
          all_goals (
            (refine' UnrEnd.intro (by assumption) (by assumption) _ (List.forall_mem_cons.mpr ⟨?s0, List.forall_mem_cons.mpr ⟨?s1, List.forall_mem_cons.mpr ⟨?s2, List.forall_mem_cons.mpr ⟨?s3, List.forall_mem_cons.mpr ⟨?s4, List.forall_mem_cons.mpr ⟨?s5, List.forall_mem_nil _⟩⟩⟩⟩⟩⟩) ?off ⟨?s6, j + 1, _, _, _, _, _, _, rfl, hj2, rfl, ints_push hM, ints_push hG, ?l1, ?l2, ?r1, ?r2, ?ag⟩)
            (case s0 => walk_at "mem")
            (case s1 => walk_at "mem")
            (case s2 => walk_at "mem")
            (case s3 => walk_at "mem")
            (case s4 => walk_at "mem")
            (case s5 => walk_at "mem")
            (case s6 => walk_at "mem")
            (case r1 => exact rng_push hmr ⟨hM0, hM1⟩)
            (case r2 => exact mrg_push hgr hG01)
            (case l1 => rw [List.length_append, hml]; rfl)
            (case l2 => rw [List.length_append, hgl]; rfl)
            (case ag =>
              refine ⟨List.forall_mem_nil _, ?m5⟩
              (case m5 =>
                intro z h2 h3
                simp only [List.contains_cons, List.contains_nil, Bool.or_false, Bool.or_eq_false_iff, beq_eq_false_iff_ne, ne_eq] at h3
                simp [h3, kstB]))
            (case off =>
              intro p hp
              simp only [List.mem_cons, List.not_mem_nil, or_false] at hp
              rcases hp with rfl | rfl | rfl | rfl | rfl
              · exact n8
              · exact n9
              · exact Nat.ne_of_lt (hltI (_, oM) (memT (memT memH)))
              · exact Nat.ne_of_lt (hltI (_, oG) (memT (memT (memT memH))))
              · exact Nat.ne_of_lt (hltI (D, W.listOf ws.toArray 0) (memT (memT (memT (memT memH))))))
            )
    · rintro m nx h tk ⟨j, ms, gs, vm, em, vg, eg, hv, hj, rfl, hM, hG, hml, hgl, hmr, hgr, hA⟩ F N
      obtain ⟨u, rfl⟩ := hA.ex
      clear hA
      have hjx : j = xs.length := by
        have := congrArg List.length hv
        rw [List.length_drop, List.length_nil] at this
        omega
      subst hjx
      clear hv hj
      k_steps
      all_goals (try unfold Stop)
      have hszm : vm.size = xs.length := by
        have := hM.length
        rw [Array.length_toList] at this
        omega
      have hfit : sizeLine = 16777216 := by decide
      have hz1 : vm.size ≤ sizeLine := by omega
      refine LCg.CompSrc.ledger (by rfl) (by k_asm) (by k_asm) (by walk_at "mem") (by with_reducible assumption) ?_
      intro g1
      refine kcv_rest (El := fun k v => v = .bool (isD k)) (ks := ms) (by rw [List.size_toArray, hM.length]) (fun i v _ hv => by
        obtain ⟨k, t, e, hk⟩ := IntsAre.at hM i v (by simpa using hv)
        exact ⟨k, t, hk, e⟩) ?turn ?fin
      case turn =>
        intro k hk
        unfold ElTurn
        intro t I oI C oC D5 m₂ ys h5 tk5 E' hC hx F5 N5 off ne
        k_steps
        unfold Stop
        refine' Claim.useV (c_isdir _ _ _ _ _ _ _) ?k1 ?k2 ?k3 ?k4 ?k5 ?kK ?kd ?ku ?_
        (case k1 => exact K1)
        (case k2 => k_asm)
        (case k3 => k_asm)
        (case k4 => k_asm)
        (case k5 => k_asm)
        (case kK => first | exact rfl | assumption)
        (case kd => first | ktr_room | decide)
        (case ku => first | ktr_units | decide)
        intro t9 h9 tk9 F9 N9
        refine LCg.CompEnd.intro F9 N9 _ (fun p hp => hp) off (Or.inr ⟨_, memH, rfl, _, rfl⟩) ⟨rfl, ?_⟩
        obtain ⟨K, rfl⟩ := Int.eq_ofNat_of_zero_le (hmr k hk).1
        exact congrArg Value.bool (isdir_nat K)
      case fin =>
        intro ys1 hys1
        k_steps
        unfold Stop
        rename_i A1 gA1 tkA1 FA1 NA1 oA1
        refine LCg.CompSrc.ledger (by rfl) (by k_asm) (by k_asm) (by walk_at "mem") (by with_reducible assumption) ?_
        intro g2
        refine kcv_rest (El := fun k v => v = .bool (isD k)) (ks := ms) (by rw [List.size_toArray, hM.length]) (fun i v _ hv => by
          obtain ⟨k, t, e, hk⟩ := IntsAre.at hM i v (by simpa using hv)
          exact ⟨k, t, hk, e⟩) ?turn2 ?fin2
        case turn2 =>
          intro k hk
          unfold ElTurn
          intro t I oI C oC D5 m₂ ys h5 tk5 E' hC hx F5 N5 off ne
          k_steps
          unfold Stop
          refine LCg.CompEnd.intro F5 N5 _ (fun p hp => hp) off (Or.inr ⟨_, memT memH, rfl, _, rfl⟩) ⟨rfl, ?_⟩
          (show Value.bool _ = Value.bool (isD k))
          unfold isD
          (with_reducible rfl)
        case fin2 =>
          intro ys2 hys2
          k_steps
          unfold Stop
          rename_i A2 gA2 tkA2 FA2 NA2 oA2
          refine ne_bools (f := isD) ⟨_, NA2.get (memT memH), rfl, _, rfl⟩ hys1 ⟨_, NA2.get memH, rfl, _, rfl⟩ hys2 (by units_room) ?_
          k_steps
          unfold Stop
          rename_i xT lT hT1 FT1 NT1 ltT hT2 FT2 NT2 gT3 tkT3 tr1 tr2 tr3 rR FR NR kR
          have hz2 : xs.length ≤ sizeLine := by omega
          refine LCg.CompSrc.range (by rfl) FR NR rR (small_one (by omega) (by omega) (by omega) (by omega)) (range_size xs.length) hz2 ?_
          intro g3
          refine kcv_rest (El := fun k v => ∃ t, v = .str (rowT (ms.getD k.toNat 0, gs.getD k.toNat 0)) t) (ks := rangeKs 0 xs.length) (rangeKs_length _ _) (fun i v hi hv => by
            obtain ⟨t, e⟩ := hv
            exact ⟨0 + (i : Int), t, by simp [rangeKs, hi], e⟩) ?turn3 ?fin3
          case turn3 =>
            intro k hk
            unfold ElTurn
            intro t I oI C oC D5 m₂ ys h5 tk5 E' hC hx F5 N5 off ne
            have hk0 := (mem_rangeKs hk).1
            have hk1 := (mem_rangeKs hk).2
            rw [Int.zero_add] at hk1
            have hgm : gs.getD k.toNat 0 ∈ gs := getD_mem (by omega)
            have hmm : ms.getD k.toNat 0 ∈ ms := getD_mem (by omega)
            have hg1 : 0 ≤ gs.getD k.toNat 0 := (hgr _ hgm).1
            have hg2 : gs.getD k.toNat 0 ≤ 27 := by
              have := (hgr _ hgm).2
              omega
            have hm1 : 0 ≤ ms.getD k.toNat 0 := (hmr _ hmm).1
            have hm2 : ms.getD k.toNat 0 < 262144 := (hmr _ hmm).2
            k_steps
            unfold Stop
            refine' Claim.useV (c_filemode _ _ _ _ _ _ _) ?k1 ?k2 ?k3 ?k4 ?k5 ?kK ?kd ?ku ?_
            (case k1 => exact K1)
            (case k2 => k_asm)
            (case k3 => k_asm)
            (case k4 => k_asm)
            (case k5 => k_asm)
            (case kK => first | exact rfl | assumption)
            (case kd => first | ktr_room | decide)
            (case ku => first | ktr_units | decide)
            intro t9 h9 tk9 F9 N9
            refine KOpn.add (row_size hm1 (by omega)) ?_
            intro t' k' _
            refine LCg.CompEnd.intro F9 N9 _ (fun p hp => hp) off True.intro ⟨rfl, t', ?_⟩
            rw [row_val hm1]
          case fin3 =>
            intro ys3 hys3
            k_steps
            unfold Stop
            have hS := texts_are hml hgl hys3
            rename_i A3 h3 tk3 F3 N3 o3
            have hzl : ((ms.zip gs).map rowT).length = xs.length := by rw [List.length_map, List.length_zip, hml, hgl, Nat.min_self]
            have hb27 : (2 : Int) * (xs.length : Int) + 1 ≤ 100 := by omega
            obtain ⟨g0, hg0⟩ : ∃ g, gs[(0 : Int).toNat]? = some g := ⟨_, List.getElem?_eq_getElem (by rw [hgl]; exact hlen1)⟩
            have hboth := both (hml.trans hgl.symm) (by rw [hml]; exact hlen1) (by rw [hml]; exact hlen) hg0 (rows_ok hmr hgr)
            have hstr := due_strOk (ms.zip gs) [g0] false (fun p hp => (hmr p.1 (List.of_mem_zip (b := p.2) hp).1).1)
            rw [← hboth] at hstr
            have hCD := fun w mean mg mb news am ag em eg h1 h2 => c_due w mean mg mb news am ag em eg vm vg ms gs h1 h2 hM hG (hgl.trans hml.symm) g0 hg0 (by omega)
            rw [← hboth] at hCD
            have hCR := fun w mean mg mb rest er et h1 h2 => c_read w mean mg mb 13 rest A3 lT er et ys3.toArray #[] ((ms.zip gs).map rowT) 0 tk3 [] (by omega) (fun q => by rw [q] at hzl; simp at hzl; omega) (rows_row hmr hb27 hgr) h1 (by simpa using hS) h2 .nil (by simp only [List.size_toArray, List.length_nil]; omega)
            generalize readU 13 0 ((ms.zip gs).map rowT) = RU at hstr hCD hCR
            obtain ⟨B, TT⟩ := RU
            simp only [List.nil_append] at hstr hCD hCR
            clear hboth
            refine' Claim.use (hCR _ _ _ _ _ _ 0 memH ?off) ?k1 ?k2 ?k3 (news_swap N3) ?k5 ?kK ?kd ?ku ?_
            (case k1 => exact K1)
            (case k2 => k_asm)
            (case k3 => k_asm)
            (case k5 => k_asm)
            (case kK => first | exact rfl | assumption)
            (case kd => first | ktr_room | decide)
            (case ku => first | ktr_units | decide)
            case off =>
              intro p hp
              simp only [List.mem_cons, List.not_mem_nil, or_false] at hp
              rcases hp with rfl | rfl | rfl | rfl | rfl | rfl | rfl | rfl
              · exact Ne.symm o3.1
              · exact Nat.ne_of_lt ltT.1
              · exact Nat.ne_of_lt ltT.2.1
              · exact Nat.ne_of_lt ltT.2.2.1
              · exact Nat.ne_of_lt ltT.2.2.2.1
              · exact Nat.ne_of_lt ltT.2.2.2.2.1
              · exact Nat.ne_of_lt ltT.2.2.2.2.2.1
              · exact Nat.ne_of_lt ltT.2.2.2.2.2.2
            rintro r4 news4 h4 tk4 ⟨vt4, et4, rest4, rfl, rfl, hs4, ho4, hD4⟩ F4 N4
            have N5 := news_pick N4 (memT (hs4 _ (memT (memT (memT (memT (memT (memT memH))))))))
            replace N5 := news_pick N5 (memT (memT (hs4 _ (memT (memT (memT (memT (memT memH))))))))
            replace N5 := news_pick N5 (memT (memT (memT (hs4 _ (memT (memT (memT (memT memH))))))))
            replace N5 := news_pick N5 (memT (memT (memT (memT (hs4 _ (memT (memT (memT memH))))))))
            clear N4
            (try dsimp only)
            (try k_fold)
            k_steps
            unfold Stop
            rename_i hq5 tk5 T5 h5 F5 N5 lt5
            refine' Claim.use (hCD _ _ _ _ _ lM lG em eg (memT memH) (memT (memT memH))) ?k1 ?k2 ?k3 N5 ?k5 ?kK ?kd ?ku ?_
            (case k1 => exact K1)
            (case k2 => k_asm)
            (case k3 => k_asm)
            (case k5 => k_asm)
            (case kK => first | exact rfl | assumption)
            (case kd => first | ktr_room | decide)
            (case ku => first | ktr_units | decide)
            rintro r6 news6 h6 tk6 ⟨T6, D6, tv6, eD6, eT6, rfl, hT6, hD6, hDat6, hsub6⟩ F6 N6
            (try dsimp only)
            (try k_fold)
            refine told_eq N6 (hsub6 _ memH) (hsub6 _ (memT (memT (memT (memT (memT memH)))))) (hD4.mono fun p hp => hsub6 p (memT (memT (memT (memT (memT (memT hp))))))) hT6 hD6 hDat6 hstr (by units_room) ?_
            k_steps
    · refine ⟨0, [], [], _, _, _, _, rfl, Nat.zero_le _, rfl, .nil, .nil, rfl, rfl, (fun _ h => (nomatch h)), (fun _ h => (nomatch h)), ⟨List.forall_mem_nil _, fun _ _ _ => rfl⟩⟩)
end
end
end Mine
theorem PySem.Challenge.cw_tx0011_01_holds : PySem.Challenge.rw_tx0011_01.Holds :=
  Mine.holds_all
