import PyProof.Rows.All
import Wide.All
import OpenK.AllK
import Wide.FinOn
import PySem.Challenge.RW_xg0025_01
open PySem PySem.W PyProof.Rows
set_option Elab.async false
set_option maxRecDepth 100000
set_option maxHeartbeats 8000000
set_option compiler.extract_closed false
namespace Mine
/-- the program without the rows that set the module's name -/
def view9 : Program := { PySem.Challenge.rw_xg0025_01.prog with main := { PySem.Challenge.rw_xg0025_01.prog.main with body := PySem.Challenge.rw_xg0025_01.prog.main.body.filter fun s => match s with | .Assign _ _ _ => false | _ => true } }
theorem well9 : PySem.Challenge.rw_xg0025_01.wellSaid = true := by
  unfold OpenLaw.wellSaid
  repeat' (with_reducible refine look_both ?_ ?_)
  · unfold OpenRow.wellSaid
    repeat' (with_reducible refine look_both ?_ ?_)
    all_goals decide +kernel
  all_goals decide +kernel
section
local macro_rules | `(tactic| o_law) => `(tactic| refine holds_law Mine.well9 fun said => ?_)
local macro_rules | `(tactic| o_head $H) => `(tactic| refine holds_open (q := Mine.view9) (loose := []) (Xt := fun s => xlAt Mine.view9 [] s && recOk (RowW.records PySem.Challenge.rw_xg0025_01.row.toRowW) s) (XP := XL Mine.view9 []) (Yf := Hook.obs $H) (Ya := Hook.val $H) (YP := Hook.says $H) (N := 2858) (fun w => by kernel_rfl) (Hook.of $H) (Hook.keeps $H) (fun s e => xl_of s (Bool.and_eq_true_iff.mp e).1) XL.keeps (by rfl) (by rfl) (by rfl) (fun s e => recFacts_of (Bool.and_eq_true_iff.mp e).2) (by rfl) (by first | assumption | decide +kernel) (by decide +kernel) ⟨rfl, rfl, rfl, rfl, rfl, by decide +kernel⟩ ?hw ?hc)
open_top hd for PySem.Challenge.rw_xg0025_01
end
end Mine
open PySem.Calls
set_option pp.deepTerms false
set_option pp.maxSteps 3000
namespace Mine
section
local macro_rules | `(tactic| omega) => `(tactic| grind)
section
/-- a goal that the walk leaves alone -/
def Hold (P : Prop) : Prop := P
theorem Hold.mk {P : Prop} (h : Hold P) : P := h
/-- what stands when a def has come back -/
def Ret (h₀ : Heap) (L : Addr) (m : Str → Option Value) (news : List (Addr × Obj)) (s : Shared) (Q : Value → Shared → Prop) (Out : List (Addr × Obj) → Value → Prop) : Prop :=
  ∀ r tl h' tk', Fr h₀ L h' m → News h₀ L h' (news ++ tl) → (∀ q ∈ news, ∀ p ∈ tl, q.1 ≠ p.1) → Out (news ++ tl) r → Q r { s with heap := h', toks := tk' }
/-- what a def gives back, whatever stands around the call -/
def Does (w : World) (f : Addr) (k : Nat) (Rel : List (Addr × Obj) → List Value → Prop) (Out : List (Addr × Obj) → Value → Prop) : Prop :=
  ∀ (loose : List Str) (mean : ExcName → Option Value) (mg mb : Str → Option Value) (dp un : Nat) (gd : Option (List Code)) (cn : Str) (cs : Scope) (a : Addr) (ccd : Value) (cl : List (Str × Addr)) (outer : List Env) (A₀ : Around) (base h₀ : Heap) (L : Addr) (m : Str → Option Value) (news : List (Addr × Obj)) (s : Shared) (vs : List Value)
    (Q E : Value → Shared → Prop),
    Below A₀ base outer h₀ → Fr h₀ L s.heap m → (hd.heap_1 w.params).In h₀ → News h₀ L s.heap news → Top view9 loose mean mg mb h₀ → cs.kind = .function → Rel news vs → dp + k < recursionLimit → un + 8 * k < cLine →
    Ret h₀ L m news s Q Out →
    wpAny (model PySem.Challenge.rw_xg0025_01.row.prog w) (ktrTop dp un gd cn cs L a ccd cl outer) (call (.ref f) vs) Q E s
end
section
section
variable {prog : Program} {w : World} {A : Around} {E : Value → Shared → Prop} {s : Shared} {env : Env} {h₀ : Heap} {x : Str} {body : List Stmt} {Q : Flow → Shared → Prop} {σ : Type}

/-- the names of a turn: some bound by the state, some forgotten, the others as they stood -/
abbrev names (sto : List Str) (u m₀ : Str → Option Value) (ps : List (Str × Value)) : Str → Option Value := kstB (fun z => if sto.contains z then u z else m₀ z) ps

/-- where a turn must end -/
def TEnd (h₀ : Heap) (L : Addr) (obj : σ → List (Addr × Obj)) (vars : σ → List (Str × Value)) (x : Str → Prop) (sto : List Str) (m₀ : Str → Option Value) (I : σ → List (Addr × Obj) → Prop) (c₀ : σ) (rest tail : List (Addr × Obj)) (s₁ s₂ : Shared) : Prop :=
  ∃ c add h' tk m' news', s₂ = { s₁ with heap := h', toks := tk } ∧ Fr h₀ L h' m' ∧ News h₀ L h' news' ∧ (∀ p ∈ obj c ++ add, p ∈ news') ∧ (∀ p ∈ tail, p ∈ news') ∧ (∀ p ∈ add, ∀ q ∈ obj c₀ ++ tail, q.1 ≠ p.1) ∧ I c (add ++ rest) ∧
    (∀ p ∈ vars c, m' p.1 = some p.2) ∧ ∀ z, ¬ x z → (∀ p ∈ vars c, z ≠ p.1) → sto.contains z = false → m' z = m₀ z
def TPost (h₀ : Heap) (L : Addr) (obj : σ → List (Addr × Obj)) (vars : σ → List (Str × Value)) (x : Str → Prop) (sto : List Str) (m₀ : Str → Option Value) (I : σ → List (Addr × Obj) → Prop) (c₀ : σ) (rest tail : List (Addr × Obj)) (s₁ : Shared) (Q : Flow → Shared → Prop) (f : Flow) (s₂ : Shared) : Prop :=
  match f with
  | .ret v => Q (.ret v) s₂
  | .brk => Q .next s₂
  | _ => TEnd h₀ L obj vars x sto m₀ I c₀ rest tail s₁ s₂

/-- what holds between the turns -/
def LSt (obj : σ → List (Addr × Obj)) (vars : σ → List (Str × Value)) (x : Str → Prop) (sto : List Str) (m₀ : Str → Option Value) (news₀ : List (Addr × Obj)) (c₀ : σ) (I : Nat → σ → List (Addr × Obj) → Prop) (i : Nat) (m : Str → Option Value) (nx : List (Addr × Obj)) : Prop :=
  ∃ c tl, nx = obj c ++ (tl ++ news₀) ∧ (∀ p ∈ tl, ∀ q ∈ obj c₀ ++ news₀, q.1 ≠ p.1) ∧ I i c (tl ++ news₀) ∧ (∀ p ∈ vars c, m p.1 = some p.2) ∧ ∀ z, ¬ x z → (∀ p ∈ vars c, z ≠ p.1) → sto.contains z = false → m z = m₀ z

variable {obj : σ → List (Addr × Obj)} {vars : σ → List (Str × Value)} {sto : List Str} {m₀ : Str → Option Value} {news₀ : List (Addr × Obj)} {c₀ : σ} {adr : List Addr} {I : Nat → σ → List (Addr × Obj) → Prop}

/-- a turn's end in the library's form -/
theorem tend_inv {xs : Str → Prop} {i : Nat} {c : σ} {tl own : List (Addr × Obj)} {s₁ s₂ : Shared} (hadr : ∀ c, (obj c).map (·.1) = adr)
    (ht : ∀ p ∈ tl, ∀ q ∈ obj c₀ ++ news₀, q.1 ≠ p.1) (hoff : OwnOff own ((obj c ++ (tl ++ news₀)).map (·.1)))
    (h : TEnd h₀ env.locals obj vars xs sto m₀ (I (i + 1)) c (tl ++ news₀) ((tl ++ news₀) ++ own) s₁ s₂) :
    InvEndG h₀ env.locals (LSt obj vars xs sto m₀ news₀ c₀ I (i + 1)) own s₁ s₂ := by
  obtain ⟨c', add, h', tk, m', news', e, F, N, hn, htl, ho, hI, hv, hr⟩ := h
  have hc : (obj c').map (·.1) = (obj c).map (·.1) := (hadr c').trans (hadr c).symm
  have hc0 : ∀ q ∈ obj c₀, ∃ q' ∈ obj c, q'.1 = q.1 := by
    intro q hq
    have : q.1 ∈ (obj c).map (·.1) := by rw [hadr c, ← hadr c₀]; exact List.mem_map_of_mem hq
    obtain ⟨q', h1, h2⟩ := List.mem_map.mp this
    exact ⟨q', h1, h2⟩
  refine ⟨h', tk, m', news', obj c' ++ ((add ++ tl) ++ news₀), e, F, N, ?_, fun p hp => htl p (List.mem_append.mpr (.inr hp)), ?_, c', add ++ tl, rfl, ?_, by rw [List.append_assoc]; exact hI, hv, hr⟩
  · intro p hp
    rcases List.mem_append.mp hp with hp | hp
    · exact hn p (List.mem_append.mpr (.inl hp))
    · rw [List.append_assoc] at hp
      rcases List.mem_append.mp hp with hp | hp
      · exact hn p (List.mem_append.mpr (.inr hp))
      · exact htl p (List.mem_append.mpr (.inl hp))
  · intro p hp b hb
    obtain ⟨q, hq, rfl⟩ := List.mem_map.mp hb
    rcases List.mem_append.mp hq with hq | hq
    · have h1 : q.1 ∈ (obj c').map (·.1) := List.mem_map_of_mem hq
      rw [hc] at h1
      exact hoff p hp _ (by rw [List.map_append]; exact List.mem_append.mpr (.inl h1))
    · rw [List.append_assoc] at hq
      rcases List.mem_append.mp hq with hq | hq
      · exact ho q hq p (List.mem_append.mpr (.inr (List.mem_append.mpr (.inr hp))))
      · exact hoff p hp _ (List.mem_map_of_mem (List.mem_append.mpr (.inr hq)))
  · intro p hp q hq
    rcases List.mem_append.mp hp with hp | hp
    · rcases List.mem_append.mp hq with hq | hq
      · obtain ⟨q', h1, h2⟩ := hc0 q hq
        rw [← h2]
        exact ho p hp q' (List.mem_append.mpr (.inl h1))
      · exact ho p hp q (List.mem_append.mpr (.inr (List.mem_append.mpr (.inl (List.mem_append.mpr (.inr hq))))))
    · exact ht p hp q hq

theorem off_adr {c : σ} {tl own : List (Addr × Obj)} (hadr : ∀ c, (obj c).map (·.1) = adr) (h0 : ∀ p ∈ news₀, ∀ b ∈ adr, p.1 ≠ b)
    (ht : ∀ p ∈ tl, ∀ q ∈ obj c₀ ++ news₀, q.1 ≠ p.1) (hoff : OwnOff own ((obj c ++ (tl ++ news₀)).map (·.1))) : ∀ p ∈ (tl ++ news₀) ++ own, ∀ b ∈ adr, p.1 ≠ b := by
  intro p hp b hb
  rcases List.mem_append.mp hp with hp | hp
  · rcases List.mem_append.mp hp with hp | hp
    · rw [← hadr c₀] at hb
      obtain ⟨q, hq, rfl⟩ := List.mem_map.mp hb
      exact Ne.symm (ht p hp q (List.mem_append.mpr (.inl hq)))
    · exact h0 p hp b hb
  · exact hoff p hp b (by rw [List.map_append, hadr c]; exact List.mem_append.mpr (.inl hb))

theorem names_fr {L : Addr} {h : Heap} {v : Value} {m₁ : Str → Option Value} {ps : List (Str × Value)} (h1 : ∀ p ∈ ps, m₁ p.1 = some p.2) (h2 : ∀ z, ¬ z = x → (∀ p ∈ ps, z ≠ p.1) → sto.contains z = false → m₁ z = m₀ z)
    (F : Fr h₀ L h (fun y => if y = x then some v else m₁ y)) : Fr h₀ L h (fun y => if y = x then some v else names sto m₁ m₀ ps y) := kst_fr h1 (fun z hz => h2 z hz) F
theorem names_out {L : Addr} {h : Heap} {m₁ : Str → Option Value} {ps : List (Str × Value)} (h1 : ∀ p ∈ ps, m₁ p.1 = some p.2) (h2 : ∀ z, ¬ z = x → (∀ p ∈ ps, z ≠ p.1) → sto.contains z = false → m₁ z = m₀ z)
    (F : Fr h₀ L h m₁) : Fr h₀ L h (fun y => if y = x then m₁ y else names sto m₁ m₀ ps y) := kst_frOut h1 (fun z hz => h2 z hz) F

/-- a for over a range by ones -/
theorem loop_range {r : Addr} {a₀ b₀ : Int} {t₀ u₀ v₀ : Tok} {n : Nat} (obj : σ → List (Addr × Obj)) (vars : σ → List (Str × Value)) (sto : List Str) (I : Nat → σ → List (Addr × Obj) → Prop) (adr : List Addr) (c₀ : σ) (news₀ : List (Addr × Obj)) {news : List (Addr × Obj)}
    (hh : A.handled = none) (hr : IsRange s.heap r a₀ b₀ 1 t₀ u₀ v₀) (hsmall : Builtin.Range.small a₀ b₀ 1 = true) (hsz : Builtin.Range.rangeSize a₀ b₀ 1 = (n : Int)) (F : Fr h₀ env.locals s.heap m₀) (N : News h₀ env.locals s.heap news)
    (hsub : ∀ p ∈ obj c₀ ++ news₀, p ∈ news) (hadr : ∀ c, (obj c).map (·.1) = adr) (hoff0 : ∀ p ∈ news₀, ∀ b ∈ adr, p.1 ≠ b) (hI : I 0 c₀ news₀) (hv : ∀ p ∈ vars c₀, m₀ p.1 = some p.2)
    (turn : ∀ i c rest tail h tk t (u : Str → Option Value), i < n → I i c rest → (∀ p ∈ rest, p ∈ tail) → (∀ p ∈ tail, ∀ b ∈ adr, p.1 ≠ b) → (∀ p ∈ news₀, p ∈ rest) →
      Fr h₀ env.locals h (fun y => if y = x then some (.int (a₀ + (i : Int)) t) else names sto u m₀ (vars c) y) → News h₀ env.locals h (obj c ++ tail) →
      wpAny (model prog w) A (execs body env) (TPost h₀ env.locals obj vars (· = x) sto m₀ (I (i + 1)) c rest tail { s with heap := h, toks := tk } Q) E { s with heap := h, toks := tk })
    (done : ∀ c tl h tk (u : Str → Option Value), (∀ p ∈ tl, ∀ q ∈ obj c₀ ++ news₀, q.1 ≠ p.1) → I n c (tl ++ news₀) → Fr h₀ env.locals h (fun y => if y = x then u y else names sto u m₀ (vars c) y) → News h₀ env.locals h (obj c ++ (tl ++ news₀)) → Q .next { s with heap := h, toks := tk }) :
    wpAny (model prog w) A (pyIter (.ref r)) (fun it s₂ => LoopAtV prog w A h₀ env x body Q E it s₂) E s := by
  refine wpAny_pyIter_range hr hsmall ?_
  have W : Walks prog w A s.heap.objs.size [s.heap.objs.size] [s.heap.objs.size] n (fun i v => i < n ∧ ∃ t, v = .int (a₀ + i * 1) t)
      (fun i h => IsRangeIter h s.heap.objs.size (a₀ + (i : Nat) * 1) ((n : Int) - (i : Nat)) 1) := (Walks.range hh _ a₀ 1 n).bound
  have N1 : News h₀ env.locals s.heap (obj c₀ ++ ([] ++ news₀)) := fun p hp => N p (hsub p (by simpa using hp))
  refine kdr_loop (news := obj c₀ ++ ([] ++ news₀)) (fun i m nx => LSt obj vars (· = x) sto m₀ news₀ c₀ I i m nx) W (fun _ h => h) (fun _ h => h) ?_ ?_ ?_ ?_ (by show IsRangeIter _ _ _ _ _; rw [hsz]; simpa using Heap.get?_push_size _ rfl) (F.push _) (fun p hp => ⟨Heap.get?_push_of_some _ (N1 p hp).1, (N1 p hp).2⟩)
    ⟨c₀, [], rfl, fun _ hp => (nomatch hp), by simpa using hI, hv, fun _ _ _ _ => rfl⟩ ?_ ?_
  · intro i h hi b hb
    rw [List.mem_singleton.mp hb]
    exact ⟨_, hi⟩
  · intro hm
    exact absurd F.ns.lt ((List.mem_singleton.mp hm) ▸ Nat.lt_irrefl _)
  · intro b hb
    rw [List.mem_singleton.mp hb]
    exact next_is_new F
  · intro p hp hI
    exact absurd (Heap.lt_size (N1 p hp).1) ((List.mem_singleton.mp hI) ▸ Nat.lt_irrefl _)
  · rintro i v m₁ nx h tk own hi ⟨_, t, rfl⟩ hoff ⟨c, tl, rfl, ht, hI', h1, h2⟩ F₁ N₁
    have e1 : a₀ + (i : Int) * 1 = a₀ + (i : Int) := by omega
    rw [e1] at F₁
    rw [List.append_assoc] at N₁
    refine wpAny_mono (turn i c (tl ++ news₀) ((tl ++ news₀) ++ own) h tk t m₁ hi hI' (fun p hp => List.mem_append.mpr (.inl hp)) (off_adr hadr hoff0 ht hoff) (fun p hp => List.mem_append.mpr (.inr hp)) (names_fr h1 h2 F₁) N₁) (fun f s₂ p => ?_) fun _ _ e => e
    cases f with
    | ret v => exact p
    | brk => exact p
    | next => exact tend_inv hadr ht hoff p
    | cont => exact tend_inv hadr ht hoff p
  · rintro m₁ nx h tk ⟨c, tl, rfl, ht, hI', h1, h2⟩ F₁ N₁
    exact done c tl h tk m₁ ht hI' (names_out h1 h2 F₁) N₁

/-- a for over a list of the ledger's, that no turn changes -/
theorem loop_list {l : Addr} {vs : List Value} {nn : Nat} (obj : σ → List (Addr × Obj)) (vars : σ → List (Str × Value)) (sto : List Str) (I : Nat → σ → List (Addr × Obj) → Prop) (adr : List Addr) (c₀ : σ) (news₀ : List (Addr × Obj)) {news : List (Addr × Obj)}
    (hh : A.handled = none) (hl : (l, listOf vs.toArray nn) ∈ news₀) (F : Fr h₀ env.locals s.heap m₀) (N : News h₀ env.locals s.heap news)
    (hsub : ∀ p ∈ obj c₀ ++ news₀, p ∈ news) (hadr : ∀ c, (obj c).map (·.1) = adr) (hoff0 : ∀ p ∈ news₀, ∀ b ∈ adr, p.1 ≠ b) (hI : I 0 c₀ news₀) (hv : ∀ p ∈ vars c₀, m₀ p.1 = some p.2)
    (turn : ∀ i c rest tail h tk v (u : Str → Option Value), vs[i]? = some v → I i c rest → (∀ p ∈ rest, p ∈ tail) → (∀ p ∈ tail, ∀ b ∈ adr, p.1 ≠ b) → (∀ p ∈ news₀, p ∈ rest) →
      Fr h₀ env.locals h (fun y => if y = x then some v else names sto u m₀ (vars c) y) → News h₀ env.locals h (obj c ++ tail) →
      wpAny (model prog w) A (execs body env) (TPost h₀ env.locals obj vars (· = x) sto m₀ (I (i + 1)) c rest tail { s with heap := h, toks := tk } Q) E { s with heap := h, toks := tk })
    (done : ∀ c tl h tk (u : Str → Option Value), (∀ p ∈ tl, ∀ q ∈ obj c₀ ++ news₀, q.1 ≠ p.1) → I vs.length c (tl ++ news₀) → Fr h₀ env.locals h (fun y => if y = x then u y else names sto u m₀ (vars c) y) → News h₀ env.locals h (obj c ++ (tl ++ news₀)) → Q .next { s with heap := h, toks := tk }) :
    wpAny (model prog w) A (pyIter (.ref l)) (fun it s₂ => LoopAtV prog w A h₀ env x body Q E it s₂) E s := by
  have N1 : News h₀ env.locals s.heap (obj c₀ ++ ([] ++ news₀)) := fun p hp => N p (hsub p (by simpa using hp))
  refine kdl_iter (news := obj c₀ ++ ([] ++ news₀)) (fun i m nx => LSt obj vars (· = x) sto m₀ news₀ c₀ I i m nx) hh (List.mem_append.mpr (.inr (by simpa using hl))) F N1 ⟨c₀, [], rfl, fun _ hp => (nomatch hp), by simpa using hI, hv, fun _ _ _ _ => rfl⟩ ?_ ?_
  · rintro i v m₁ nx h tk own hv' hoff hl' ⟨c, tl, rfl, ht, hI', h1, h2⟩ F₁ N₁
    rw [List.append_assoc] at N₁
    refine wpAny_mono (turn i c (tl ++ news₀) ((tl ++ news₀) ++ own) h tk v m₁ hv' hI' (fun p hp => List.mem_append.mpr (.inl hp)) (off_adr hadr hoff0 ht hoff) (fun p hp => List.mem_append.mpr (.inr hp)) (names_fr h1 h2 F₁) N₁) (fun f s₂ p => ?_) fun _ _ e => e
    have key : TEnd h₀ env.locals obj vars (· = x) sto m₀ (I (i + 1)) c (tl ++ news₀) ((tl ++ news₀) ++ own) { s with heap := h, toks := tk } s₂ →
        InvEndG h₀ env.locals (fun m' nx => (l, listOf vs.toArray nn) ∈ nx ∧ LSt obj vars (· = x) sto m₀ news₀ c₀ I (i + 1) m' nx) own { s with heap := h, toks := tk } s₂ := by
      intro p
      obtain ⟨h', tk', m', news', nx, e, F', N', hn, ho, ha, hJ⟩ := tend_inv (env := env) hadr ht hoff p
      refine ⟨h', tk', m', news', nx, e, F', N', hn, ho, ha, ?_, hJ⟩
      obtain ⟨c', tl', rfl, _⟩ := hJ
      exact List.mem_append.mpr (.inr (List.mem_append.mpr (.inr hl)))
    cases f with
    | ret v => exact p
    | brk => exact p
    | next => exact key p
    | cont => exact key p
  · rintro m₁ nx h tk ⟨c, tl, rfl, ht, hI', h1, h2⟩ F₁ N₁
    exact done c tl h tk m₁ ht hI' (names_out h1 h2 F₁) N₁

/-- a while by a measure -/
theorem loop_while {L : Addr} {test : Expr} {pos : Pos} (obj : σ → List (Addr × Obj)) (vars : σ → List (Str × Value)) (sto : List Str) (I : Nat → σ → List (Addr × Obj) → Prop) (adr : List Addr) (k₀ : Nat) (c₀ : σ) (news₀ : List (Addr × Obj)) {news : List (Addr × Obj)}
    (F : Fr h₀ L s.heap m₀) (N : News h₀ L s.heap news)
    (hsub : ∀ p ∈ obj c₀ ++ news₀, p ∈ news) (hadr : ∀ c, (obj c).map (·.1) = adr) (hoff0 : ∀ p ∈ news₀, ∀ b ∈ adr, p.1 ≠ b) (hI : I k₀ c₀ news₀) (hv : ∀ p ∈ vars c₀, m₀ p.1 = some p.2)
    (turn : ∀ k c tl h tk (u : Str → Option Value), I k c (tl ++ news₀) → (∀ p ∈ tl, ∀ q ∈ obj c₀ ++ news₀, q.1 ≠ p.1) → (∀ p ∈ tl ++ news₀, ∀ b ∈ adr, p.1 ≠ b) →
      Fr h₀ L h (names sto u m₀ (vars c)) → News h₀ L h (obj c ++ (tl ++ news₀)) →
      wpAny (model prog w) A (isTrue test env (eval test env)) (fun b s₂ =>
        if b = true then wpAny (model prog w) A (execs body env) (TPost h₀ L obj vars (fun _ => False) sto m₀ (fun c' r' => ∃ k', k' < k ∧ I k' c' r') c (tl ++ news₀) (tl ++ news₀) s Q) E s₂ else Q .next s₂) E { s with heap := h, toks := tk })
    (hE : PassesOwn (model prog w) A env E := by passes_own) :
    wpAny (model prog w) A (exec (.While test body [] pos) env) Q E s := by
  have N1 : News h₀ L s.heap (obj c₀ ++ ([] ++ news₀)) := fun p hp => N p (hsub p (by simpa using hp))
  refine While_inv2 (fun k m nx => LSt obj vars (fun _ => False) sto m₀ news₀ c₀ (fun _ => I k) 0 m nx) F N1 ⟨c₀, [], rfl, fun _ hp => (nomatch hp), by simpa using hI, hv, fun _ _ _ _ => rfl⟩ ?_ hE
  rintro k m₁ nx h tk F₁ N₁ ⟨c, tl, rfl, ht, hI', h1, h2⟩
  have ho : ∀ p ∈ tl ++ news₀, ∀ b ∈ adr, p.1 ≠ b := by
    have := off_adr (c := c) (tl := tl) (own := []) hadr hoff0 ht (fun _ hp => nomatch hp)
    simpa using this
  refine wpAny_mono (turn k c tl h tk m₁ hI' ht ho (ksw_fr h1 (fun z => h2 z (fun e => e)) F₁) N₁) (fun b s₂ p => ?_) fun _ _ x => x
  cases b with
  | false => simpa using p
  | true =>
    simp only [if_true] at p ⊢
    refine wpAny_mono p (fun f s₃ q => ?_) fun _ _ x => x
    have key : TEnd h₀ L obj vars (fun _ => False) sto m₀ (fun c' r' => ∃ k', k' < k ∧ I k' c' r') c (tl ++ news₀) (tl ++ news₀) s s₃ → WhileStep2 h₀ L s (fun k m nx => LSt obj vars (fun _ => False) sto m₀ news₀ c₀ (fun _ => I k) 0 m nx) Q k .next s₃ := by
      rintro ⟨c', add, h', tk', m', news', rfl, F', N', hn, htl, hlt, ⟨k', hk', hI''⟩, hv', hr'⟩
      have hc0 : ∀ q ∈ obj c₀, ∃ q' ∈ obj c, q'.1 = q.1 := by
        intro q hq
        have : q.1 ∈ (obj c).map (·.1) := by rw [hadr c, ← hadr c₀]; exact List.mem_map_of_mem hq
        obtain ⟨q', h1, h2⟩ := List.mem_map.mp this
        exact ⟨q', h1, h2⟩
      refine ⟨h', tk', m', obj c' ++ ((add ++ tl) ++ news₀), k', rfl, F', fun p hp => N' p ?_, hk', c', add ++ tl, rfl, ?_, by rw [List.append_assoc]; exact hI'', hv', hr'⟩
      · rcases List.mem_append.mp hp with hp | hp
        · exact hn p (List.mem_append.mpr (.inl hp))
        · rw [List.append_assoc] at hp
          rcases List.mem_append.mp hp with hp | hp
          · exact hn p (List.mem_append.mpr (.inr hp))
          · exact htl p hp
      · intro p hp q hq
        rcases List.mem_append.mp hp with hp | hp
        · rcases List.mem_append.mp hq with hq | hq
          · obtain ⟨q', h1, h2⟩ := hc0 q hq
            rw [← h2]
            exact hlt p hp q' (List.mem_append.mpr (.inl h1))
          · exact hlt p hp q (List.mem_append.mpr (.inr (List.mem_append.mpr (.inr hq))))
        · exact ht p hp q hq
    cases f with
    | ret v => exact q
    | brk => exact q
    | next => exact key q
    | cont => exact key q
end
end
section
section
variable {prog : Program} {w : World} {A : Around} {E : Value → Shared → Prop} {s : Shared} {h₀ : Heap} {L D : Addr} {m : Str → Option Value} {news news' : List (Addr × Obj)} {vs : List Value} {n : Nat} {v v' : Value} {t : Tok}
theorem get_last {Q : Value → Shared → Prop} (N : News h₀ L s.heap news) (hm : (D, listOf (vs ++ [v]).toArray n) ∈ news) (h : Q v s) :
    wpAny (model prog w) A (getItem (.ref D) (.int (-1) t)) Q E s := by
  have hl : s.heap.IsList D (vs ++ [v]).toArray := ⟨_, (N _ hm).1, rfl, n, rfl⟩
  have hs : (vs ++ [v]).toArray.size = vs.length + 1 := by simp
  refine wpAny_getItem_list_neg hl (by decide) (by rw [hs]; omega) (by decide) ?_ h
  rw [hs]
  have : (-1 + ((vs.length + 1 : Nat) : Int)).toNat = vs.length := by omega
  rw [this]
  simp
theorem set_last {Q : Unit → Shared → Prop} (F : Fr h₀ L s.heap m) (N : News h₀ L s.heap news) (U : Upd D (listOf (vs ++ [v]).toArray n) (listOf (vs ++ [v']).toArray n) news news')
    (h : ∀ h', Fr h₀ L h' m → News h₀ L h' news' → Q () { s with heap := h' }) : wpAny (model prog w) A (setItem (.ref D) (.int (-1) t) v') Q E s := by
  obtain ⟨pre, post, rfl, rfl, a, b⟩ := U.split
  have z := N (D, listOf (vs ++ [v]).toArray n) (List.mem_append.mpr (.inr (.head _)))
  have hs : (vs ++ [v]).toArray.size = vs.length + 1 := by simp
  refine ki_setBack z.1 (by decide) (by rw [hs]; omega) (by decide) (h _ (F.change (Heap.SameBut.update ..) z.2.1 z.2.2) (ki_turn _ N a b ?_ ?_))
  · show (vs ++ [v]).toArray.setIfInBounds (-1 + ((vs ++ [v]).toArray.size : Int)).toNat v' = (vs ++ [v']).toArray
    rw [hs]
    have : (-1 + ((vs.length + 1 : Nat) : Int)).toNat = vs.length := by omega
    rw [this]
    apply Array.toList_inj.mp
    simp
  · simp
end

section
variable {σ : Type} {h₀ : Heap} {L : Addr} {obj : σ → List (Addr × Obj)} {vars : σ → List (Str × Value)} {x : Str → Prop} {sto : List Str} {m₀ : Str → Option Value} {I : σ → List (Addr × Obj) → Prop} {c₀ : σ} {rest tail : List (Addr × Obj)} {s₁ : Shared} {Q : Flow → Shared → Prop}
theorem turn_next (c : σ) (add : List (Addr × Obj)) {h' : Heap} {tk : Nat} {m' : Str → Option Value} {news' : List (Addr × Obj)} (F : Fr h₀ L h' m') (N : News h₀ L h' news') (hn : ∀ p ∈ obj c ++ add, p ∈ news') (ht : ∀ p ∈ tail, p ∈ news')
    (hlt : ∀ p ∈ add, ∀ q ∈ obj c₀ ++ tail, q.1 ≠ p.1) (hI : I c (add ++ rest)) (hv : ∀ p ∈ vars c, m' p.1 = some p.2) (hr : ∀ z, ¬ x z → (∀ p ∈ vars c, z ≠ p.1) → sto.contains z = false → m' z = m₀ z) :
    TPost h₀ L obj vars x sto m₀ I c₀ rest tail s₁ Q .next { s₁ with heap := h', toks := tk } := ⟨c, add, h', tk, m', news', rfl, F, N, hn, ht, hlt, hI, hv, hr⟩
end

section
variable {h₀ : Heap} {L : Addr} {vars : List Value × Nat → List (Str × Value)} {x : Str → Prop} {sto : List Str} {m₀ : Str → Option Value} {I : List Value × Nat → List (Addr × Obj) → Prop} {c₀ : List Value × Nat} {rest tail : List (Addr × Obj)} {s₁ : Shared} {Q : Flow → Shared → Prop}
/-- a turn that changes one list -/
theorem turn_one {l : Addr} {vs : List Value} {nn : Nat} {h' : Heap} {tk : Nat} {m' : Str → Option Value} (F : Fr h₀ L h' m') (N : News h₀ L h' ((l, listOf vs.toArray nn) :: tail))
    (hI : I (vs, nn) rest) (hv : ∀ p ∈ vars (vs, nn), m' p.1 = some p.2) (hr : ∀ z, ¬ x z → (∀ p ∈ vars (vs, nn), z ≠ p.1) → sto.contains z = false → m' z = m₀ z) :
    TPost h₀ L (fun c : List Value × Nat => [(l, listOf c.1.toArray c.2)]) vars x sto m₀ I c₀ rest tail s₁ Q .next { s₁ with heap := h', toks := tk } :=
  turn_next (vs, nn) [] F N (List.forall_mem_singleton.mpr (.head _)) (fun p hp => .tail _ hp) (fun _ h => nomatch h) hI hv hr
end

theorem does_ret {h₀ h' : Heap} {L : Addr} {m : Str → Option Value} {news : List (Addr × Obj)} {s : Shared} {Q : Value → Shared → Prop} {Out : List (Addr × Obj) → Value → Prop} {r : Value} {tk' : Nat}
    (hret : Ret h₀ L m news s Q Out)
    (add : List (Addr × Obj)) (F : Fr h₀ L h' m) (N : News h₀ L h' (add ++ news)) (o : ∀ p ∈ add, ∀ q ∈ news, q.1 ≠ p.1) (out : Out (news ++ add) r) : Q r { s with heap := h', toks := tk' } :=
  hret r add h' tk' F (fun p hp => N p ((List.mem_append.mp hp).elim (fun h => List.mem_append.mpr (.inr h)) fun h => List.mem_append.mpr (.inl h))) (fun q hq p hp => o p hp q hq) out
/-- a list of ints that the ledger bears -/
def IntsIn (news : List (Addr × Obj)) (v : Value) (ns : List Int) : Prop := ∃ a xs n, v = .ref a ∧ (a, listOf xs.toArray n) ∈ news ∧ IntsAre xs ns
abbrev pairObj (a b : Int) (t u : Tok) (n : Nat) : Obj := { cls := .type "tuple", data := .seq #[.int a t, .int b u] n }
/-- values that are pairs of ints, each a tuple of the ledger's -/
inductive PairsAre (news : List (Addr × Obj)) : List Value → List (Int × Int) → Prop
  | nil : PairsAre news [] []
  | cons {p : Addr} {t u : Tok} {n : Nat} {a b : Int} {vs : List Value} {ps : List (Int × Int)} : (p, pairObj a b t u n) ∈ news → PairsAre news vs ps → PairsAre news (.ref p :: vs) ((a, b) :: ps)
theorem PairsAre.mono {news news' : List (Addr × Obj)} (hs : ∀ p ∈ news, p ∈ news') {vs : List Value} {ps : List (Int × Int)} (h : PairsAre news vs ps) : PairsAre news' vs ps := by
  induction h with
  | nil => exact .nil
  | cons hm _ ih => exact .cons (hs _ hm) ih
theorem PairsAre.length {news : List (Addr × Obj)} {vs : List Value} {ps : List (Int × Int)} (h : PairsAre news vs ps) : vs.length = ps.length := by
  induction h with
  | nil => rfl
  | cons _ _ ih => rw [List.length_cons, List.length_cons, ih]
theorem PairsAre.append {news : List (Addr × Obj)} {vs ws : List Value} {ps qs : List (Int × Int)} (h : PairsAre news vs ps) (k : PairsAre news ws qs) : PairsAre news (vs ++ ws) (ps ++ qs) := by
  induction h with
  | nil => exact k
  | cons hm _ ih => exact .cons hm ih
def PairsIn (news : List (Addr × Obj)) (v : Value) (ps : List (Int × Int)) : Prop := ∃ a xs n, v = .ref a ∧ (a, listOf xs.toArray n) ∈ news ∧ PairsAre news xs ps
theorem ints_app {vs ws : List Value} {r q : List Int} (h : IntsAre vs r) (k : IntsAre ws q) : IntsAre (vs ++ ws) (r ++ q) := by
  induction h with
  | nil => exact k
  | cons i t _ ih => exact .cons i t ih
theorem ints_snoc {vs : List Value} : ∀ {r : List Int} {b : Int}, IntsAre vs (r ++ [b]) → ∃ vs' t, vs = vs' ++ [.int b t] ∧ IntsAre vs' r := by
  induction vs with
  | nil => intro r b h; cases r <;> cases h
  | cons v vs ih =>
    intro r b h
    cases r with
    | nil =>
      cases h with
      | cons i t h => cases h; exact ⟨[], t, rfl, .nil⟩
    | cons c r =>
      cases h with
      | cons i t h =>
        obtain ⟨vs', t', rfl, h'⟩ := ih h
        exact ⟨.int c t :: vs', t', rfl, .cons c t h'⟩
theorem ints_rev {vs : List Value} {r : List Int} (h : IntsAre vs r) : IntsAre vs.reverse r.reverse := by
  induction h with
  | nil => exact .nil
  | cons i t _ ih => rw [List.reverse_cons, List.reverse_cons]; exact ints_app ih (.cons i t .nil)
theorem listIn {h₀ h : Heap} {L l : Addr} {news : List (Addr × Obj)} {its : Array Value} {n : Nat} (N : News h₀ L h news) (hm : (l, listOf its n) ∈ news) : h.IsList l its := ⟨_, (N _ hm).1, rfl, n, rfl⟩
section
variable {prog : Program} {w : World} {A : Around} {E : Value → Shared → Prop} {s : Shared} {h₀ : Heap} {L l : Addr} {m : Str → Option Value} {news : List (Addr × Obj)} {value slice : PySem.Expr} {vs : List Value} {n : Nat} {vk : Value} {ops : List Value} {Q : Value → Shared → Prop}
theorem rev_list (F : Fr h₀ L s.heap m) (N : News h₀ L s.heap news) (hm : (l, listOf vs.toArray n) ∈ news) (pk : IsPart vk (some (-1))) (hz : vs.length ≤ sizeLine)
    (h : ∀ D h', Fr h₀ L h' m → News h₀ L h' ((D, listOf vs.reverse.toArray 0) :: news) → (∀ p ∈ news, p.1 < D) → Q (.ref D) { s with heap := h' })
    (hs : subscripted slice false (.ref l) (.ref s.heap.objs.size) = operate ops (getItem (.ref l) (.ref s.heap.objs.size))) (ht : ∀ r, letTemporaryGo value (.ref l) r = pure ()) :
    wpAny (model prog w) A (subscriptTail value slice (.ref l) (.ref s.heap.objs.size)) Q E { s with heap := s.heap.push { cls := .type "slice", data := .fields #[.none, .none, vk] } } :=
  krv_lit F N (listIn N hm) pk rfl h hs ht (by simpa using hz)
end
theorem my_For {prog : Program} {w : World} {A : Around} {s : Shared} {env : Env} {h₀ : Heap} {E : Value → Shared → Prop} {Q : Flow → Shared → Prop} {x : Str} {px pos : Pos} {iter : Expr} {body : List Stmt} {m : Str → Option Value} (_F : Fr h₀ env.locals s.heap m) (hx : env.kindOf x = some .local)
    (hp : (env.scope.kind == .class || (env.scope.kind == .module && env.locals != env.globals)) = false)
    (h : wpAny (model prog w) A (eval iter env) (fun xv s₁ => wpAny (model prog w) A (pyIter xv) (fun it s₂ => LoopAtV prog w A h₀ env x body Q E it s₂) E s₁) E s)
    (hs : ∀ x, foldedSetIterable iter env x = pure x := by intro _; rfl)
    (hE : PassesOwn (model prog w) A env E := by passes_own) :
    wpAny (model prog w) A (exec (.For (.Name x px) iter body [] pos) env) Q E s := For_invV h₀ hx hp h hs hE
theorem ints_at {vs : List Value} {ns : List Int} (h : IntsAre vs ns) : ∀ {i : Nat} {v : Value}, vs[i]? = some v → ∃ n t, v = .int n t ∧ ns[i]? = some n := by
  induction h with
  | nil => intro i v e; cases e
  | cons n t _ ih =>
    intro i v e
    cases i with
    | zero => cases e; exact ⟨n, t, rfl, rfl⟩
    | succ i => exact ih e
section
variable {σ τ : Type} {h₀ : Heap} {L : Addr} {obj : σ → List (Addr × Obj)} {vars : σ → List (Str × Value)} {x : Str → Prop} {sto : List Str} {m₀ : Str → Option Value} {I : σ → List (Addr × Obj) → Prop} {c₀ : σ} {rest tail : List (Addr × Obj)} {s₁ : Shared} {Q : Flow → Shared → Prop}
theorem turn_tok (c : τ → σ) (add : List (Addr × Obj)) {h' : Heap} {tk : Nat} {m' : Str → Option Value} {news' : List (Addr × Obj)} (F : Fr h₀ L h' m') (N : News h₀ L h' news') (ht : ∀ p ∈ tail, p ∈ news')
    (hlt : ∀ p ∈ add, ∀ q ∈ obj c₀ ++ tail, q.1 ≠ p.1) (hr : ∀ t z, ¬ x z → (∀ p ∈ vars (c t), z ≠ p.1) → sto.contains z = false → m' z = m₀ z)
    (h : ∃ t, (∀ p ∈ vars (c t), m' p.1 = some p.2) ∧ (∀ p ∈ obj (c t) ++ add, p ∈ news') ∧ I (c t) (add ++ rest)) :
    TPost h₀ L obj vars x sto m₀ I c₀ rest tail s₁ Q .next { s₁ with heap := h', toks := tk } := by
  obtain ⟨t, hv, hn, hI⟩ := h
  exact turn_next (c t) add F N hn ht hlt hI hv (hr t)
end
theorem does_ret2 {h₀ h' : Heap} {L : Addr} {m : Str → Option Value} {news led : List (Addr × Obj)} {s : Shared} {Q : Value → Shared → Prop} {Out : List (Addr × Obj) → Value → Prop} {r : Value} {tk' : Nat}
    (hret : Ret h₀ L m news s Q Out) (add : List (Addr × Obj)) (F : Fr h₀ L h' m) (N : News h₀ L h' led) (hn : ∀ p ∈ news, p ∈ led) (ha : ∀ p ∈ add, p ∈ led) (o : ∀ p ∈ add, ∀ q ∈ news, q.1 ≠ p.1) (out : Out (news ++ add) r) : Q r { s with heap := h', toks := tk' } :=
  hret r add h' tk' F (fun p hp => N p ((List.mem_append.mp hp).elim (hn p) (ha p))) (fun q hq p hp => o p hp q hq) out
theorem use_does {w : World} {f : Addr} {k : Nat} {Rel : List (Addr × Obj) → List Value → Prop} {Out : List (Addr × Obj) → Value → Prop} (D : Does w f k Rel Out)
    {loose : List Str} {mean : ExcName → Option Value} {mg mb : Str → Option Value} {dp un : Nat} {gd : Option (List Code)} {cn : Str} {cs : Scope} {a : Addr} {ccd : Value} {cl : List (Str × Addr)} {outer : List Env} {A₀ : Around} {base h₀ : Heap} {L : Addr} {m : Str → Option Value} {news : List (Addr × Obj)} {s : Shared} {vs : List Value} {Q E : Value → Shared → Prop}
    (B : Below A₀ base outer h₀) (F : Fr h₀ L s.heap m) (X : (hd.heap_1 w.params).In h₀) (N : News h₀ L s.heap news) (T : Top view9 loose mean mg mb h₀) (hk : cs.kind = .function) (R : Rel news vs) (hd : dp + k < recursionLimit) (hu : un + 8 * k < cLine)
    (ret : ∀ r tl h' tk', Fr h₀ L h' m → News h₀ L h' (news ++ tl) → (∀ q ∈ news, ∀ p ∈ tl, q.1 ≠ p.1) → Out (news ++ tl) r → Q r { s with heap := h', toks := tk' }) :
    wpAny (model PySem.Challenge.rw_xg0025_01.row.prog w) (ktrTop dp un gd cn cs L a ccd cl outer) (call (.ref f) vs) Q E s :=
  D loose mean mg mb dp un gd cn cs a ccd cl outer A₀ base h₀ L m news s vs Q E B F X N T hk R hd hu ret
/-- the post of a turn, out of sight -/
theorem hideQ {α : Type} {M : Model} {A : Around} {Q : α → Shared → Prop} {E : Value → Shared → Prop} {c : Sem α} {s : Shared} (h : ∀ Q' : α → Shared → Prop, (∀ f s, Q f s → Q' f s) → wpAny M A c Q' E s) : wpAny M A c Q E s := h Q fun _ _ x => x
theorem hideT {α β : Type} {M : Model} {A : Around} {Q : β → Shared → Prop} {E : Value → Shared → Prop} {a : Sem α} {c : Sem β} {s : Shared} (h : ∀ Q' : β → Shared → Prop, (∀ f s, Q f s → Q' f s) → wpAny M A a (fun _ s₂ => wpAny M A c Q' E s₂) E s) : wpAny M A a (fun _ s₂ => wpAny M A c Q E s₂) E s := h Q fun _ _ x => x
end
section
section
variable {prog : Program} {w : World} {A : Around} {h₀ : Heap} {L : Addr} {m : Str → Option Value} {env : Env} {s : Shared}
open LCg LCt LCp
def CEnd (P : Unit → Value → Shared → Prop) (y : Value) (s₂ : Shared) : Prop := P () y s₂
/-- the end of a turn that makes nothing new -/
theorem cend_same {h₀ : Heap} {L I C D : Addr} {m : Str → Option Value} {s₁ : Shared} {oI oC oD : Obj} {S : List (Addr × Obj) → Prop} {rest : Value → List (Addr × Obj) → Prop} {y : Value} {h' : Heap} {tk : Nat} {news : List (Addr × Obj)}
    (F : Fr h₀ L h' m) (N : News h₀ L h' ((I, oI) :: (C, oC) :: (D, oD) :: news)) (off : Off3 I C D news) (hS : S news) (r : rest y news) : CEnd (fun _ => CompEnd h₀ L m s₁ I oI C oC D oD S rest) y { s₁ with heap := h', toks := tk } :=
  CompEnd.intro F N news (fun _ h => h) off hS r
/-- the end of a turn that makes things new -/
theorem cend_new {h₀ : Heap} {L I C D : Addr} {m : Str → Option Value} {s₁ : Shared} {oI oC oD : Obj} {S : List (Addr × Obj) → Prop} {rest : Value → List (Addr × Obj) → Prop} {y : Value} {h' : Heap} {tk : Nat} {all news : List (Addr × Obj)} (add : List (Addr × Obj))
    (F : Fr h₀ L h' m) (N : News h₀ L h' all) (h1 : ∀ p ∈ (I, oI) :: (C, oC) :: (D, oD) :: news, p ∈ all) (h2 : ∀ p ∈ add, p ∈ all) (off : Off3 I C D news) (h3 : ∀ p ∈ add, ∀ q ∈ (I, oI) :: (C, oC) :: (D, oD) :: news, q.1 ≠ p.1) (hS : S (add ++ news)) (r : rest y (add ++ news)) : CEnd (fun _ => CompEnd h₀ L m s₁ I oI C oC D oD S rest) y { s₁ with heap := h', toks := tk } := by
  refine CompEnd.intro F N (add ++ news) (fun p hp => ?_) (Off3.of fun p hp => ?_) hS r
  · rcases List.mem_cons.mp hp with rfl | hp
    · exact h1 _ (.head _)
    · rcases List.mem_cons.mp hp with rfl | hp
      · exact h1 _ (.tail _ (.head _))
      · rcases List.mem_cons.mp hp with rfl | hp
        · exact h1 _ (.tail _ (.tail _ (.head _)))
        · rcases List.mem_append.mp hp with hp | hp
          · exact h2 _ hp
          · exact h1 _ (.tail _ (.tail _ (.tail _ hp)))
  · rcases List.mem_append.mp hp with hp | hp
    · exact ⟨Ne.symm (h3 p hp _ (.head _)), Ne.symm (h3 p hp _ (.tail _ (.head _))), Ne.symm (h3 p hp _ (.tail _ (.tail _ (.head _))))⟩
    · exact off.mem p hp
/-- the turns of a comprehension, by an invariant -/
theorem rest_U {elt : Expr} {x : Str} {scope : Scope} {cl : List (Str × Addr)} {S : List (Addr × Obj) → Prop} {P : Nat → Value → Prop} {Fin : List Value → List (Addr × Obj) → Prop} {n : Nat} (J : Nat → List Value → List (Addr × Obj) → Prop)
    (turn : ∀ i ys news v I oI C oC D m₂ h tk (E' : Value → Shared → Prop), i < n → J i ys news → P i v → NsObj oC m₂ → m₂ x = some v → Fr h₀ L h m → News h₀ L h ((I, oI) :: (C, oC) :: (D, lst ys) :: news) → Off3 I C D news → ((@Ne Nat I C) ∧ (@Ne Nat I D) ∧ (@Ne Nat C D)) →
      wpAny (model prog w) A (eval elt (compEnvC scope cl C env)) (CEnd (fun _ => CompEnd h₀ L m { s with heap := h, toks := tk } I oI C oC D (lst ys) S (fun y news' => J (i + 1) (ys ++ [y]) news'))) E' { s with heap := h, toks := tk })
    (done : ∀ ys news, J n ys news → Fin ys news) :
    ∀ k i ys news, i + k = n → J i ys news → CompRest prog w A h₀ L m env elt x scope cl s S P Fin k i ys news
  | 0, i, ys, news, e, j => by
    have : i = n := e
    exact CompRest.zero (done _ _ (this ▸ j))
  | k + 1, i, ys, news, e, j => by
    refine CompRest.succ ?_
    intro v I oI C oC D m₂ h tk E' hP hC hx F N off ne
    refine wpAny_mono (turn i ys news v I oI C oC D m₂ h tk E' (by omega) j hP hC hx F N off ne) (fun y s₂ c => ?_) fun _ _ e => e
    obtain ⟨h', tk', news', e1, F', N', off', hS, r⟩ := c
    exact ⟨h', tk', news', e1, F', N', off', hS, rest_U J turn done k (i + 1) _ _ (by omega) r⟩
theorem rest_T {ct elt : Expr} {x : Str} {scope : Scope} {cl : List (Str × Addr)} {S : List (Addr × Obj) → Prop} {P : Nat → Value → Prop} {Fin : List Value → List (Addr × Obj) → Prop} {n : Nat} (J : Nat → List Value → List (Addr × Obj) → Prop)
    (turn : ∀ i ys news v I oI C oC D m₂ h tk (E' : Value → Shared → Prop), i < n → J i ys news → P i v → NsObj oC m₂ → m₂ x = some v → Fr h₀ L h m → News h₀ L h ((I, oI) :: (C, oC) :: (D, lst ys) :: news) → Off3 I C D news → ((@Ne Nat I C) ∧ (@Ne Nat I D) ∧ (@Ne Nat C D)) →
      wpAny (model prog w) A (isTrue ct (compEnvC scope cl C env) (eval ct (compEnvC scope cl C env))) (fun ok s' => if ok = true then
        wpAny (model prog w) A (eval elt (compEnvC scope cl C env)) (CEnd (fun _ => CompEnd h₀ L m { s with heap := h, toks := tk } I oI C oC D (lst ys) S (fun y news' => J (i + 1) (ys ++ [y]) news'))) E' s'
        else CEnd (fun _ => CompEnd h₀ L m { s with heap := h, toks := tk } I oI C oC D (lst ys) S (fun _ news' => J (i + 1) ys news')) Value.none s') E' { s with heap := h, toks := tk })
    (done : ∀ ys news, J n ys news → Fin ys news) :
    ∀ k i ys news, i + k = n → J i ys news → CompRestT prog w A h₀ L m env ct elt x scope cl s S P Fin k i ys news
  | 0, i, ys, news, e, j => by
    have : i = n := e
    exact CompRestT.zero (done _ _ (this ▸ j))
  | k + 1, i, ys, news, e, j => by
    refine CompRestT.succ ?_
    intro v I oI C oC D m₂ h tk E' hP hC hx F N off ne
    refine wpAny_mono (turn i ys news v I oI C oC D m₂ h tk E' (by omega) j hP hC hx F N off ne) (fun ok s₂ c => ?_) fun _ _ e => e
    cases ok with
    | true =>
      simp only [if_true] at c ⊢
      refine wpAny_mono c (fun y s₃ c => ?_) fun _ _ e => e
      obtain ⟨h', tk', news', e1, F', N', off', hS, r⟩ := c
      exact ⟨h', tk', news', e1, F', N', off', hS, rest_T J turn done k (i + 1) _ _ (by omega) r⟩
    | false =>
      simp only [Bool.false_eq_true, if_false] at c ⊢
      obtain ⟨h', tk', news', e1, F', N', off', hS, r⟩ := c
      exact ⟨h', tk', news', e1, F', N', off', hS, rest_T J turn done k (i + 1) _ _ (by omega) r⟩
theorem rest_P {elt : Expr} {x x₂ : Str} {scope : Scope} {cl : List (Str × Addr)} {S : List (Addr × Obj) → Prop} {P : Nat → Value → Prop} {Fin : List Value → List (Addr × Obj) → Prop} {n : Nat} (J : Nat → List Value → List (Addr × Obj) → Prop)
    (turn : ∀ i ys news, i < n → J i ys news → ∀ v, P i v → ∃ (t : Addr) (ot : Obj) (v₁ v₂ : Value) (nt : Nat), v = .ref t ∧ (t, ot) ∈ news ∧ ot.cls = .type "tuple" ∧ ot.data = .seq #[v₁, v₂] nt ∧
      ∀ I oI C oC D m₂ h tk (E' : Value → Shared → Prop), NsObj oC m₂ → m₂ x = some v₁ → m₂ x₂ = some v₂ → Fr h₀ L h m → News h₀ L h ((I, oI) :: (C, oC) :: (D, lst ys) :: news) → Off3 I C D news → ((@Ne Nat I C) ∧ (@Ne Nat I D) ∧ (@Ne Nat C D)) →
      wpAny (model prog w) A (eval elt (compEnvC scope cl C env)) (CEnd (fun _ => CompEnd h₀ L m { s with heap := h, toks := tk } I oI C oC D (lst ys) S (fun y news' => J (i + 1) (ys ++ [y]) news'))) E' { s with heap := h, toks := tk })
    (done : ∀ ys news, J n ys news → Fin ys news) :
    ∀ k i ys news, i + k = n → J i ys news → CompRestP prog w A h₀ L m env elt x x₂ scope cl s S P Fin k i ys news
  | 0, i, ys, news, e, j => by
    have : i = n := e
    exact CompRestP.zero (done _ _ (this ▸ j))
  | k + 1, i, ys, news, e, j => by
    refine CompRestP.succ ?_
    intro v hP
    obtain ⟨t, ot, v₁, v₂, nt, e1, e2, e3, e4, go⟩ := turn i ys news (by omega) j v hP
    refine ⟨t, ot, v₁, v₂, nt, e1, e2, e3, e4, ?_⟩
    intro I oI C oC D m₂ h tk E' hC hx hx2 F N off ne
    refine wpAny_mono (go I oI C oC D m₂ h tk E' hC hx hx2 F N off ne) (fun y s₂ c => ?_) fun _ _ e => e
    obtain ⟨h', tk', news', e1, F', N', off', hS, r⟩ := c
    exact ⟨h', tk', news', e1, F', N', off', hS, rest_P J turn done k (i + 1) _ _ (by omega) r⟩
theorem Off1.mem {D : Addr} : ∀ {l : List (Addr × Obj)}, Off1 D l → ∀ p ∈ l, p.1 ≠ D
  | [], _, _, h => nomatch h
  | _ :: _, x, p, h => by
    rcases List.mem_cons.mp h with rfl | h
    · exact x.1
    · exact Off1.mem x.2 p h
end
theorem AllLt.mem' {D : Addr} : ∀ {l : List (Addr × Obj)}, AllLt D l → ∀ p ∈ l, p.1 < D
  | [], _, _, h => nomatch h
  | _ :: _, x, p, h => by
    rcases List.mem_cons.mp h with rfl | h
    · exact x.1
    · exact AllLt.mem' x.2 p h
end
section
section
variable {prog : Program} {w : World} {A : Around} {E : Value → Shared → Prop} {s : Shared} {env : Env} {h₀ : Heap} {x : Str} {body : List Stmt} {Q : Flow → Shared → Prop} {σ : Type} {m₀ : Str → Option Value}
/-- a for over a range by ones, downwards -/
theorem loop_down {r : Addr} {a₀ b₀ : Int} {t₀ u₀ v₀ : Tok} {n : Nat} (obj : σ → List (Addr × Obj)) (vars : σ → List (Str × Value)) (sto : List Str) (I : Nat → σ → List (Addr × Obj) → Prop) (adr : List Addr) (c₀ : σ) (news₀ : List (Addr × Obj)) {news : List (Addr × Obj)}
    (hh : A.handled = none) (hr : IsRange s.heap r a₀ b₀ (-1) t₀ u₀ v₀) (hsmall : Builtin.Range.small a₀ b₀ (-1) = true) (hsz : Builtin.Range.rangeSize a₀ b₀ (-1) = (n : Int)) (F : Fr h₀ env.locals s.heap m₀) (N : News h₀ env.locals s.heap news)
    (hsub : ∀ p ∈ obj c₀ ++ news₀, p ∈ news) (hadr : ∀ c, (obj c).map (·.1) = adr) (hoff0 : ∀ p ∈ news₀, ∀ b ∈ adr, p.1 ≠ b) (hI : I 0 c₀ news₀) (hv : ∀ p ∈ vars c₀, m₀ p.1 = some p.2)
    (turn : ∀ i c rest tail h tk t (u : Str → Option Value), i < n → I i c rest → (∀ p ∈ rest, p ∈ tail) → (∀ p ∈ tail, ∀ b ∈ adr, p.1 ≠ b) → (∀ p ∈ news₀, p ∈ rest) →
      Fr h₀ env.locals h (fun y => if y = x then some (.int (a₀ - (i : Int)) t) else names sto u m₀ (vars c) y) → News h₀ env.locals h (obj c ++ tail) →
      wpAny (model prog w) A (execs body env) (TPost h₀ env.locals obj vars (· = x) sto m₀ (I (i + 1)) c rest tail { s with heap := h, toks := tk } Q) E { s with heap := h, toks := tk })
    (done : ∀ c tl h tk (u : Str → Option Value), (∀ p ∈ tl, ∀ q ∈ obj c₀ ++ news₀, q.1 ≠ p.1) → I n c (tl ++ news₀) → Fr h₀ env.locals h (fun y => if y = x then u y else names sto u m₀ (vars c) y) → News h₀ env.locals h (obj c ++ (tl ++ news₀)) → Q .next { s with heap := h, toks := tk }) :
    wpAny (model prog w) A (pyIter (.ref r)) (fun it s₂ => LoopAtV prog w A h₀ env x body Q E it s₂) E s := by
  refine wpAny_pyIter_range hr hsmall ?_
  have W : Walks prog w A s.heap.objs.size [s.heap.objs.size] [s.heap.objs.size] n (fun i v => i < n ∧ ∃ t, v = .int (a₀ + i * (-1)) t)
      (fun i h => IsRangeIter h s.heap.objs.size (a₀ + (i : Nat) * (-1)) ((n : Int) - (i : Nat)) (-1)) := (Walks.range hh _ a₀ (-1) n).bound
  have N1 : News h₀ env.locals s.heap (obj c₀ ++ ([] ++ news₀)) := fun p hp => N p (hsub p (by simpa using hp))
  refine kdr_loop (news := obj c₀ ++ ([] ++ news₀)) (fun i m nx => LSt obj vars (· = x) sto m₀ news₀ c₀ I i m nx) W (fun _ h => h) (fun _ h => h) ?_ ?_ ?_ ?_ (by show IsRangeIter _ _ _ _ _; rw [hsz]; simpa using Heap.get?_push_size _ rfl) (F.push _) (fun p hp => ⟨Heap.get?_push_of_some _ (N1 p hp).1, (N1 p hp).2⟩)
    ⟨c₀, [], rfl, fun _ hp => (nomatch hp), by simpa using hI, hv, fun _ _ _ _ => rfl⟩ ?_ ?_
  · intro i h hi b hb
    rw [List.mem_singleton.mp hb]
    exact ⟨_, hi⟩
  · intro hm
    exact absurd F.ns.lt ((List.mem_singleton.mp hm) ▸ Nat.lt_irrefl _)
  · intro b hb
    rw [List.mem_singleton.mp hb]
    exact next_is_new F
  · intro p hp hI
    exact absurd (Heap.lt_size (N1 p hp).1) ((List.mem_singleton.mp hI) ▸ Nat.lt_irrefl _)
  · rintro i v m₁ nx h tk own hi ⟨_, t, rfl⟩ hoff ⟨c, tl, rfl, ht, hI', h1, h2⟩ F₁ N₁
    have e1 : a₀ + (i : Int) * (-1) = a₀ - (i : Int) := by omega
    rw [e1] at F₁
    rw [List.append_assoc] at N₁
    refine wpAny_mono (turn i c (tl ++ news₀) ((tl ++ news₀) ++ own) h tk t m₁ hi hI' (fun p hp => List.mem_append.mpr (.inl hp)) (off_adr hadr hoff0 ht hoff) (fun p hp => List.mem_append.mpr (.inr hp)) (names_fr h1 h2 F₁) N₁) (fun f s₂ p => ?_) fun _ _ e => e
    cases f with
    | ret v => exact p
    | brk => exact p
    | next => exact tend_inv hadr ht hoff p
    | cont => exact tend_inv hadr ht hoff p
  · rintro m₁ nx h tk ⟨c, tl, rfl, ht, hI', h1, h2⟩ F₁ N₁
    exact done c tl h tk m₁ ht hI' (names_out h1 h2 F₁) N₁

end
theorem allObj_of : ∀ {ws : List (Addr × String)} {k : List (Addr × Obj) → Prop}, (∀ its, Objs ws its → k its) → AllObj ws k
  | [], k, h => AllObj.nil (h [] trivial)
  | w :: ws, k, h => AllObj.cons fun o ho => allObj_of fun its hi => h ((w.1, o) :: its) ⟨⟨rfl, ho⟩, hi⟩
section
variable {prog : Program} {w : World} {A : Around} {E : Value → Shared → Prop} {s : Shared} {env : Env} {h₀ : Heap} {target : Expr} {body : List Stmt} {Q : Flow → Shared → Prop} {σ : Type}
variable {obj : σ → List (Addr × Obj)} {vars : σ → List (Str × Value)} {sto : List Str} {m₀ : Str → Option Value} {news₀ : List (Addr × Obj)} {c₀ : σ} {adr : List Addr} {I : Nat → σ → List (Addr × Obj) → Prop}
/-- turns over written items, by an invariant -/
theorem items_loop {ws : List (Addr × String)} {keep : List (Addr × Obj)} {xs : List Itm} (obj : σ → List (Addr × Obj)) (vars : σ → List (Str × Value)) (sto : List Str) (I : Nat → σ → List (Addr × Obj) → Prop) (adr : List Addr) (c₀ : σ) (news₀ : List (Addr × Obj))
    (hkeep : ∀ nx : List (Addr × Obj), (∀ p ∈ news₀, p ∈ nx) → SubL keep nx) (hws : ∀ p ∈ obj c₀ ++ news₀, ∀ w ∈ ws, p.1 ≠ w.1) (hadr : ∀ c, (obj c).map (·.1) = adr) (hoff0 : ∀ p ∈ news₀, ∀ b ∈ adr, p.1 ≠ b) (hI : I 0 c₀ news₀) (hv : ∀ p ∈ vars c₀, m₀ p.1 = some p.2)
    (turn : ∀ i a v c rest tail h tk (u : Str → Option Value), xs[i]? = some a → a.Is v h → I i c rest → (∀ p ∈ rest, p ∈ tail) → (∀ p ∈ tail, ∀ b ∈ adr, p.1 ≠ b) → (∀ p ∈ news₀, p ∈ rest) →
      Fr h₀ env.locals h (names sto u m₀ (vars c)) → News h₀ env.locals h (obj c ++ tail) →
      wpAny (model prog w) A (assign target env v) (fun _ s₂ => wpAny (model prog w) A (execs body env) (TPost h₀ env.locals obj vars (fun _ => False) sto m₀ (I (i + 1)) c rest tail { s with heap := h, toks := tk } Q) E s₂) E { s with heap := h, toks := tk })
    (done : ∀ c tl h tk (u : Str → Option Value), (∀ p ∈ tl, ∀ q ∈ obj c₀ ++ news₀, q.1 ≠ p.1) → I xs.length c (tl ++ news₀) → Fr h₀ env.locals h (names sto u m₀ (vars c)) → News h₀ env.locals h (obj c ++ (tl ++ news₀)) → Q .next { s with heap := h, toks := tk }) :
    ItemsRest prog w A E h₀ env target body Q s ws keep xs m₀ (obj c₀ ++ news₀) := by
  have key : ∀ (r : List Itm) (i : Nat) (m₁ : Str → Option Value) (nx : List (Addr × Obj)), i + r.length = xs.length → (∀ j, r[j]? = xs[i + j]?) → LSt obj vars (fun _ => False) sto m₀ news₀ c₀ I i m₁ nx → (∀ p ∈ nx, ∀ w ∈ ws, p.1 ≠ w.1) →
      ItemsRest prog w A E h₀ env target body Q s ws keep r m₁ nx := by
    intro r
    induction r with
    | nil =>
      rintro i m₁ nx hi _ ⟨c, tl, rfl, ht, hI', h1, h2⟩ _ h tk F N
      have : i = xs.length := hi
      subst this
      exact done c tl h tk m₁ ht hI' (ksw_fr h1 (fun z => h2 z (fun e => e)) F) N
    | cons a r ih =>
      rintro i m₁ nx hi hx ⟨c, tl, rfl, ht, hI', h1, h2⟩ hw v h tk ha F
      refine allObj_of fun its hits N => ?_
      have e0 : xs[i]? = some a := by
        have := hx 0
        simpa using this.symm
      have hoff : OwnOff its ((obj c ++ (tl ++ news₀)).map (·.1)) := by
        intro p hp b hb e
        obtain ⟨q, hq, rfl⟩ := List.mem_map.mp hb
        have h3 : p.1 ∈ its.map (·.1) := List.mem_map_of_mem hp
        rw [Objs.map hits] at h3
        obtain ⟨w', hw', e'⟩ := List.mem_map.mp h3
        exact hw q hq w' hw' (by rw [e', e])
      have N' : News h₀ env.locals h (obj c ++ ((tl ++ news₀) ++ its)) := fun p hp => N p (by
        rcases List.mem_append.mp hp with hp | hp
        · exact List.mem_append.mpr (.inr (List.mem_append.mpr (.inl hp)))
        · rcases List.mem_append.mp hp with hp | hp
          · exact List.mem_append.mpr (.inr (List.mem_append.mpr (.inr hp)))
          · exact List.mem_append.mpr (.inl hp))
      refine wpAny_mono (turn i a v c (tl ++ news₀) ((tl ++ news₀) ++ its) h tk m₁ e0 ha hI' (fun p hp => List.mem_append.mpr (.inl hp)) (off_adr hadr hoff0 ht hoff) (fun p hp => List.mem_append.mpr (.inr hp)) (ksw_fr h1 (fun z => h2 z (fun e => e)) F) N') (fun _ s₂ p => ?_) fun _ _ e => e
      refine wpAny_mono p (fun f s₃ p => ?_) fun _ _ e => e
      have fin : TEnd h₀ env.locals obj vars (fun _ => False) sto m₀ (I (i + 1)) c (tl ++ news₀) ((tl ++ news₀) ++ its) { s with heap := h, toks := tk } s₃ →
          UnrEndW h₀ env.locals { s with heap := h, toks := tk } its (fun m' n' => SubL keep n' ∧ ItemsRest prog w A E h₀ env target body Q s ws keep r m' n') s₃ := by
        intro p
        obtain ⟨h', tk', m', news', nx, e, F', N1, hn, ho, ha', hJ⟩ := tend_inv (env := env) hadr ht hoff p
        refine ⟨h', tk', m', nx, e, F', fun p hp => N1 p ((List.mem_append.mp hp).elim (ho p) (hn p)), fun p hp q hq => Ne.symm (ha' q hq p.1 (List.mem_map_of_mem hp)), hkeep nx ?_, ih (i + 1) m' nx (by simp only [List.length_cons] at hi; omega) (fun j => ?_) hJ ?_⟩
        · obtain ⟨c', tl', rfl, _⟩ := hJ
          exact fun p hp => List.mem_append.mpr (.inr (List.mem_append.mpr (.inr hp)))
        · have := hx (j + 1)
          rw [List.getElem?_cons_succ] at this
          rw [this]
          congr 1
          omega
        · intro p hp w' hw' e'
          have h3 : w'.1 ∈ its.map (·.1) := by rw [Objs.map hits]; exact List.mem_map_of_mem hw'
          obtain ⟨q, hq, e3⟩ := List.mem_map.mp h3
          exact ha' q hq p.1 (List.mem_map_of_mem hp) (e3.trans e'.symm)
      cases f with
      | ret v => exact p
      | brk => exact p
      | next => exact fin p
      | cont => exact fin p
  exact key xs 0 m₀ _ (by omega) (fun j => by rw [Nat.zero_add]) ⟨c₀, [], rfl, fun _ hp => (nomatch hp), by simpa using hI, hv, fun _ _ _ _ => rfl⟩ hws
/-- a for with a pattern over a list of the ledger's -/
theorem loop_pat {l : Addr} {vs : List Value} {nn : Nat} (obj : σ → List (Addr × Obj)) (vars : σ → List (Str × Value)) (sto : List Str) (I : Nat → σ → List (Addr × Obj) → Prop) (adr : List Addr) (c₀ : σ) (news₀ : List (Addr × Obj)) {news : List (Addr × Obj)}
    (hh : A.handled = none) (hl : (l, listOf vs.toArray nn) ∈ news₀) (F : Fr h₀ env.locals s.heap m₀) (N : News h₀ env.locals s.heap news) (hsub : ∀ p ∈ obj c₀ ++ news₀, p ∈ news)
    (hadr : ∀ c, (obj c).map (·.1) = adr) (hoff0 : ∀ p ∈ news₀, ∀ b ∈ adr, p.1 ≠ b) (hI : I 0 c₀ news₀) (hv : ∀ p ∈ vars c₀, m₀ p.1 = some p.2)
    (turn : ∀ i v c rest tail h tk (u : Str → Option Value), vs[i]? = some v → I i c rest → (∀ p ∈ rest, p ∈ tail) → (∀ p ∈ tail, ∀ b ∈ adr, p.1 ≠ b) → (∀ p ∈ news₀, p ∈ rest) →
      Fr h₀ env.locals h (names sto u m₀ (vars c)) → News h₀ env.locals h (obj c ++ tail) →
      wpAny (model prog w) A (assign target env v) (fun _ s₂ => wpAny (model prog w) A (execs body env) (TPost h₀ env.locals obj vars (fun _ => False) sto m₀ (I (i + 1)) c rest tail { s with heap := h, toks := tk } Q) E s₂) E { s with heap := h, toks := tk })
    (done : ∀ c tl h tk (u : Str → Option Value), (∀ p ∈ tl, ∀ q ∈ obj c₀ ++ news₀, q.1 ≠ p.1) → I vs.length c (tl ++ news₀) → Fr h₀ env.locals h (names sto u m₀ (vars c)) → News h₀ env.locals h (obj c ++ (tl ++ news₀)) → Q .next { s with heap := h, toks := tk }) :
    wpAny (model prog w) A (pyIter (.ref l)) (fun it s₂ => TurnsAt prog w A h₀ env target body Q E it s₂) E s := by
  have N1 : News h₀ env.locals s.heap (obj c₀ ++ news₀) := fun p hp => N p (hsub p hp)
  refine iter_listTurns (lo := listOf vs.toArray nn) (vs := vs) (n := nn) hh F N1 (List.mem_append.mpr (.inr hl)) rfl rfl fun Ia hlt => ?_
  refine items_loop obj vars sto I adr c₀ news₀ (fun nx h => And.intro (h _ hl) trivial) (fun p hp w' hw' => ?_) hadr hoff0 hI hv ?_ ?_
  · rw [List.mem_singleton.mp hw']
    exact Nat.ne_of_lt (hlt p hp)
  · intro i a v c rest tail h tk u ha hv' hI' h1 h2 h3 F' N'
    rw [List.getElem?_map] at ha
    obtain ⟨v', e1, rfl⟩ := Option.map_eq_some_iff.mp ha
    have : v = v' := hv'
    subst this
    exact turn i v c rest tail h tk u e1 hI' h1 h2 h3 F' N'
  · intro c tl h tk u ht hI' F' N'
    rw [List.length_map] at hI'
    exact done c tl h tk u ht hI' F' N'
end
theorem PairsAre.get {news : List (Addr × Obj)} {vs : List Value} {ps : List (Int × Int)} (h : PairsAre news vs ps) : ∀ {i : Nat} {v : Value}, vs[i]? = some v → ∃ p a b t u n, v = .ref p ∧ (p, pairObj a b t u n) ∈ news ∧ ps[i]? = some (a, b) := by
  induction h with
  | nil => intro i v e; cases e
  | cons hm _ ih =>
    intro i v e
    cases i with
    | zero => cases e; exact ⟨_, _, _, _, _, _, rfl, hm, rfl⟩
    | succ i => exact ih e
theorem drop_get {α : Type} {l : List α} {i : Nat} {a : α} (h : l[i]? = some a) : l.drop i = a :: l.drop (i + 1) := by
  obtain ⟨hi, e⟩ := List.getElem?_eq_some_iff.mp h
  rw [← e]
  exact List.drop_eq_getElem_cons hi
section
variable {prog : Program} {w : World} {A : Around} {E : Value → Shared → Prop} {s : Shared} {h₀ : Heap} {L l : Addr} {m : Str → Option Value} {news : List (Addr × Obj)} {value slice : PySem.Expr} {vs : List Value} {n : Nat} {vk vn : Value} {Q : Value → Shared → Prop}
/-- xs[k:] -/
theorem drop_list {x : Int} {h₁ : Heap} (e : s.heap = h₁.push { cls := .type "slice", data := .fields #[vk, vn, .none] }) (F : Fr h₀ L h₁ m) (N : News h₀ L h₁ news) (hm : (l, listOf vs.toArray n) ∈ news) (pk : IsPart vk (some x)) (pn : IsPart vn none) (h0 : 0 ≤ x) (hz : vs.length ≤ sizeLine)
    (h : ∀ D h', Fr h₀ L h' m → News h₀ L h' ((D, listOf (vs.drop x.toNat).toArray 0) :: news) → (∀ p ∈ news, p.1 < D) → Q (.ref D) { s with heap := h' })
    (hs : subscripted slice false (.ref l) (.ref h₁.objs.size) = operate [.ref h₁.objs.size, .ref l] (getItem (.ref l) (.ref h₁.objs.size))) (ht : ∀ r, letTemporaryGo value (.ref l) r = pure ()) :
    wpAny (model prog w) A (subscriptTail value slice (.ref l) (.ref h₁.objs.size)) Q E s := by
  obtain ⟨hp, gens, drawn, toks, os⟩ := s
  dsimp only at e
  subst e
  refine kms_slice_lit (s := ⟨h₁, gens, drawn, toks, os⟩) F N (listIn N hm) pk pn ?_ h hs ht (by simpa using hz)
  show (vs.drop (kms_lo (some x) vs.length)).take (kms_hi none vs.length - kms_lo (some x) vs.length) = _
  have e1 : kms_lo (some x) vs.length = min x.toNat vs.length := if_neg (by omega)
  have e2 : kms_hi none vs.length = vs.length := rfl
  rw [e1, e2]
  by_cases hx : x.toNat ≤ vs.length
  · rw [Nat.min_eq_left hx]
    exact List.take_of_length_le (by rw [List.length_drop]; exact Nat.le_refl _)
  · rw [Nat.min_eq_right (by omega), List.drop_of_length_le (Nat.le_refl _), List.drop_of_length_le (by omega), List.take_nil]
/-- xs[:-1] -/
theorem init_list {h₁ : Heap} (e : s.heap = h₁.push { cls := .type "slice", data := .fields #[vn, vk, .none] }) (F : Fr h₀ L h₁ m) (N : News h₀ L h₁ news) (hm : (l, listOf vs.toArray n) ∈ news) (pn : IsPart vn none) (pk : IsPart vk (some (-1))) (hz : vs.length ≤ sizeLine)
    (h : ∀ D h', Fr h₀ L h' m → News h₀ L h' ((D, listOf vs.dropLast.toArray 0) :: news) → (∀ p ∈ news, p.1 < D) → Q (.ref D) { s with heap := h' })
    (hs : subscripted slice false (.ref l) (.ref h₁.objs.size) = operate [.ref h₁.objs.size, .ref l] (getItem (.ref l) (.ref h₁.objs.size))) (ht : ∀ r, letTemporaryGo value (.ref l) r = pure ()) :
    wpAny (model prog w) A (subscriptTail value slice (.ref l) (.ref h₁.objs.size)) Q E s := by
  obtain ⟨hp, gens, drawn, toks, os⟩ := s
  dsimp only at e
  subst e
  refine kms_slice_lit (s := ⟨h₁, gens, drawn, toks, os⟩) F N (listIn N hm) pn pk ?_ h hs ht (by simpa using hz)
  show (vs.drop 0).take (vs.length - 1 - 0) = _
  rw [List.drop_zero, List.dropLast_eq_take]
  rfl
/-- xs[::-1] -/
theorem revv_list {h₁ : Heap} {vz : Value} {ops : List Value} (e : s.heap = h₁.push { cls := .type "slice", data := .fields #[.none, .none, vk] }) (F : Fr h₀ L h₁ m) (N : News h₀ L h₁ news) (hm : (l, listOf vs.toArray n) ∈ news) (pk : IsPart vk (some (-1))) (hz : vs.length ≤ sizeLine)
    (h : ∀ D h', Fr h₀ L h' m → News h₀ L h' ((D, listOf vs.reverse.toArray 0) :: news) → (∀ p ∈ news, p.1 < D) → Q (.ref D) { s with heap := h' })
    (hs : subscripted slice false (.ref l) (.ref h₁.objs.size) = operate ops (getItem (.ref l) (.ref h₁.objs.size))) (ht : ∀ r, letTemporaryGo value (.ref l) r = pure ()) :
    wpAny (model prog w) A (subscriptTail value slice (.ref l) (.ref h₁.objs.size)) Q E s := by
  obtain ⟨hp, gens, drawn, toks, os⟩ := s
  dsimp only at e
  subst e
  exact rev_list (s := ⟨h₁, gens, drawn, toks, os⟩) F N hm pk hz h hs ht
/-- xs + ys -/
theorem add_l {a b : Addr} {us ws : List Value} {n k : Nat} (F : Fr h₀ L s.heap m) (N : News h₀ L s.heap news) (ha : (a, listOf us.toArray n) ∈ news) (hb : (b, listOf ws.toArray k) ∈ news) (hz : us.length + ws.length ≤ sizeLine)
    (h : ∀ D h', Fr h₀ L h' m → News h₀ L h' ((D, listOf (us ++ ws).toArray 0) :: news) → (∀ p ∈ news, p.1 < D) → Q (.ref D) { s with heap := h' }) :
    wpAny (model prog w) A (binaryOp .Add (.ref a) (.ref b)) Q E s :=
  kmk_add_lit F N (listIn N ha) (listIn N hb) rfl h hz
/-- [v] * x -/
theorem mul_l {v : Value} {x : Int} {u : Tok} (F : Fr h₀ L s.heap m) (N : News h₀ L s.heap news) (hl : (l, listOf [v].toArray n) ∈ news) (h0 : 0 ≤ x) (h1 : x ≤ 256)
    (h : ∀ D h', Fr h₀ L h' m → News h₀ L h' ((D, listOf (List.replicate x.toNat v).toArray 0) :: news) → (∀ p ∈ news, p.1 < D) → Q (.ref D) { s with heap := h' }) :
    wpAny (model prog w) A (binaryOp .Mult (.ref l) (.int x u)) Q E s := by
  refine KMa.mul F N (listIn N hl) (by omega) (by omega) (by rw [List.length_singleton]; omega) ?_ h
  generalize x.toNat = k
  induction k with
  | zero => rfl
  | succ k ih => rw [List.replicate_succ, List.flatten_cons, ih, List.replicate_succ]; rfl
end
theorem ints_repl (v : Int) (t : Tok) : ∀ k : Nat, IntsAre (List.replicate k (.int v t)) (List.replicate k v)
  | 0 => .nil
  | k + 1 => .cons _ _ (ints_repl v t k)
theorem ints_drop {vs : List Value} {ns : List Int} (h : IntsAre vs ns) : ∀ k : Nat, IntsAre (vs.drop k) (ns.drop k) := by
  induction h with
  | nil => intro k; rw [List.drop_nil, List.drop_nil]; exact .nil
  | cons i t h ih =>
    intro k
    cases k with
    | zero => exact .cons i t h
    | succ k => exact ih k
end
section
/-- a dict's entries as pairs of ints -/
inductive EntriesAre : List (Int × Value) → List (Int × Int) → Prop
  | nil : EntriesAre [] []
  | cons (k n : Int) (t : Tok) {kvs : List (Int × Value)} {ps : List (Int × Int)} : EntriesAre kvs ps → EntriesAre ((k, .int n t) :: kvs) ((k, n) :: ps)
theorem EntriesAre.length {kvs : List (Int × Value)} {ps : List (Int × Int)} (h : EntriesAre kvs ps) : kvs.length = ps.length := by
  induction h with
  | nil => rfl
  | cons _ _ _ _ ih => rw [List.length_cons, List.length_cons, ih]
theorem EntriesAre.get {kvs : List (Int × Value)} {ps : List (Int × Int)} (h : EntriesAre kvs ps) : ∀ {i : Nat} {p : Int × Value}, kvs[i]? = some p → ∃ n t, p = (p.1, .int n t) ∧ ps[i]? = some (p.1, n) := by
  induction h with
  | nil => intro i p e; cases e
  | cons k n t _ ih =>
    intro i p e
    cases i with
    | zero => cases e; exact ⟨n, t, rfl, rfl⟩
    | succ i => exact ih e
def DictIn (w : World) (news : List (Addr × Obj)) (v : Value) (ps : List (Int × Int)) : Prop :=
  ∃ (d : Addr) (o : Obj) (kvs : List (Int × Value)), v = .ref d ∧ (d, o) ∈ news ∧ o.IsDictOf (PySem.intKind PySem.Challenge.rw_xg0025_01.row.prog w) kvs ∧ EntriesAre kvs ps ∧ (d == sysModules) = false
def findE (ps : List (Int × Int)) (k : Int) : Option Int := (ps.find? fun p => p.1 = k).map (·.2)
def putE (ps : List (Int × Int)) (k n : Int) : List (Int × Int) := if ps.any (fun p => p.1 = k) then ps.map (fun p => if p.1 = k then (p.1, n) else p) else ps ++ [(k, n)]
theorem EntriesAre.value {kvs : List (Int × Value)} {ps : List (Int × Int)} (h : EntriesAre kvs ps) (k : Int) :
    (findE ps k = none → valueAt kvs k = none) ∧ ∀ n, findE ps k = some n → ∃ t, valueAt kvs k = some (.int n t) := by
  unfold findE valueAt
  induction h with
  | nil => exact ⟨fun _ => rfl, fun _ e => by cases e⟩
  | cons a n t _ ih =>
    by_cases e : a = k
    · simp only [List.find?_cons, e, decide_true, Option.map_some]
      exact ⟨(fun h => by cases h), fun n' h => by cases h; exact ⟨t, rfl⟩⟩
    · simp only [List.find?_cons, e, decide_false]
      exact ih
theorem EntriesAre.any {kvs : List (Int × Value)} {ps : List (Int × Int)} (h : EntriesAre kvs ps) (k : Int) : kvs.any (fun p => p.1 = k) = ps.any (fun p => p.1 = k) := by
  induction h with
  | nil => rfl
  | cons a n t _ ih => rw [List.any_cons, List.any_cons, ih]
theorem EntriesAre.setAll {kvs : List (Int × Value)} {ps : List (Int × Int)} (h : EntriesAre kvs ps) (k n : Int) (t : Tok) :
    EntriesAre (kvs.map (fun kv => if kv.1 = k then (kv.1, .int n t) else kv)) (ps.map (fun p => if p.1 = k then (p.1, n) else p)) := by
  induction h with
  | nil => exact .nil
  | cons a b u _ ih =>
    rw [List.map_cons, List.map_cons]
    by_cases e : a = k
    · simp only [e, if_true]
      exact .cons k n t ih
    · simp only [e, if_false]
      exact .cons a b u ih
theorem EntriesAre.snoc {kvs : List (Int × Value)} {ps : List (Int × Int)} (h : EntriesAre kvs ps) (k n : Int) (t : Tok) : EntriesAre (kvs ++ [(k, .int n t)]) (ps ++ [(k, n)]) := by
  induction h with
  | nil => exact .cons k n t .nil
  | cons a b u _ ih => exact .cons a b u ih
theorem EntriesAre.put {kvs : List (Int × Value)} {ps : List (Int × Int)} (h : EntriesAre kvs ps) (k n : Int) (t : Tok) : EntriesAre (stored kvs k (.int n t)) (putE ps k n) := by
  unfold stored putE
  rw [h.any k]
  split
  · exact h.setAll k n t
  · exact h.snoc k n t
theorem stored_len (kvs : List (Int × Value)) (k : Int) (v : Value) : (stored kvs k v).length ≤ kvs.length + 1 := by
  unfold stored
  split
  · rw [List.length_map]; omega
  · rw [List.length_append]; exact Nat.le_refl _
theorem getD_of {ps : List (Int × Int)} {i : Nat} {p : Int × Int} (h : ps[i]? = some p) : ps.getD i (0, 0) = p := by rw [List.getD_eq_getElem?_getD, h]; rfl
end
section
section
variable {prog : Program} {w : World} {A : Around} {E : Value → Shared → Prop} {s : Shared} {h₀ : Heap} {L l : Addr} {m : Str → Option Value} {news : List (Addr × Obj)} {value slice : PySem.Expr} {vs : List Value} {n : Nat} {vk : Value} {Q : Value → Shared → Prop}
/-- xs[::-1] of any base -/
theorem revt_list {h₁ : Heap} {ops : List Value} (e : s.heap = h₁.push { cls := .type "slice", data := .fields #[.none, .none, vk] }) (F : Fr h₀ L h₁ m) (N : News h₀ L h₁ news) (hm : (l, listOf vs.toArray n) ∈ news) (pk : IsPart vk (some (-1))) (hz : vs.length ≤ sizeLine)
    (h : ∀ D h', Fr h₀ L h' m → News h₀ L h' ((D, listOf vs.reverse.toArray 0) :: news) → (∀ p ∈ news, p.1 < D) → Q (.ref D) { s with heap := h' })
    (hs : subscripted slice false (.ref l) (.ref h₁.objs.size) = operate ops (getItem (.ref l) (.ref h₁.objs.size))) :
    wpAny (model prog w) A (subscriptTail value slice (.ref l) (.ref h₁.objs.size)) Q E s := by
  obtain ⟨hp, gens, drawn, toks, os⟩ := s
  dsimp only at e
  subst e
  have hl := listIn N hm
  refine tail_any (Heap.IsList.typeIs (s := ⟨h₁.push { cls := .type "slice", data := .fields #[.none, .none, vk] }, gens, drawn, toks, os⟩) (hl.push _)) list_getitem_lookup
    (wpAny_getItem_list_slice (hl.push _) (Heap.IsSliceOf.new ..) .none .none pk (by decide) ?_ (by simpa using hz)) hs
  have N1 := News.push (F.push { cls := .type "slice", data := .fields #[.none, .none, vk] }) (N.grown fun _ _ e => Heap.get?_push_of_some _ e) { cls := .type "list", data := .seq (slicePick vs.toArray none none (some (-1))) }
  rw [Heap.size_push] at N1
  show Q (.ref (h₁.push _).objs.size) _
  rw [Heap.size_push]
  rw [krv_pick] at N1 ⊢
  exact h _ _ ((F.push _).push _) N1 fun p hp => Nat.lt_succ_of_lt (Heap.lt_size (N p hp).1)
end
end
section
section
variable {w : World} {A : Around} {E : Value → Shared → Prop} {s : Shared} {h₀ : Heap} {L : Addr} {m : Str → Option Value} {env : Env}
open LCg
abbrev iK (w : World) := PySem.intKind PySem.Challenge.rw_xg0025_01.row.prog w
/-- where an element of a dict comprehension ends -/
def KEnd (s₃ : Shared) (n : Int) (v : Value) (s₄ : Shared) : Prop := (∃ t, v = .int n t) ∧ Keeps s₃ s₄
theorem KEnd.mk' {s₃ : Shared} {n : Int} {t : Tok} {tk : Nat} : KEnd s₃ n (.int n t) { s₃ with toks := tk } := ⟨⟨t, rfl⟩, s₃.heap, tk, rfl, fun _ _ e => e⟩
/-- the entries that a dict comprehension makes -/
def compE (ps : List (Int × Int)) (kf vf : Int → Int) : List (Int × Int) := ps.foldl (fun acc p => putE acc (kf p.1) (vf p.1)) []
/-- the source of a dict comprehension over a dict's keys -/
def DSrc (w : World) (A : Around) (h₀ : Heap) (L : Addr) (m : Str → Option Value) (env : Env) (kx vx : PySem.Expr) (x : Str) (scope : Scope) (cl : List (Str × Addr)) (ps : List (Int × Int)) (kf vf : Int → Int) (Q : Value → Shared → Prop) (xv : Value) (s₁ : Shared) : Prop :=
  ∃ (d : Addr) (od : Obj) (kvs : List (Int × Value)) (news : List (Addr × Obj)), xv = .ref d ∧ A.handled = none ∧ Fr h₀ L s₁.heap m ∧ News h₀ L s₁.heap news ∧ (d, od) ∈ news ∧ od.IsDictOf (iK w) kvs ∧ EntriesAre kvs ps ∧ (d == sysModules) = false ∧ kvs.length ≤ sizeLine ∧ sysModules < h₀.objs.size ∧
    (∀ (C : Addr) (oC : Obj) (i : Nat) (k n : Int) (t : Tok) (m₃ : Str → Option Value) (s₃ : Shared) (E' : Value → Shared → Prop), ps[i]? = some (k, n) → NsObj oC m₃ → m₃ x = some (.int k t) → Fr h₀ L s₃.heap m → News h₀ L s₃.heap ((C, oC) :: news) → (∀ p ∈ news, p.1 < C) →
      wpAny (model PySem.Challenge.rw_xg0025_01.row.prog w) A (eval kx (compEnvC scope cl C env)) (KEnd s₃ (kf k)) E' s₃) ∧
    (∀ (C : Addr) (oC : Obj) (i : Nat) (k n : Int) (t : Tok) (m₃ : Str → Option Value) (s₃ : Shared) (E' : Value → Shared → Prop), ps[i]? = some (k, n) → NsObj oC m₃ → m₃ x = some (.int k t) → Fr h₀ L s₃.heap m → News h₀ L s₃.heap ((C, oC) :: news) → (∀ p ∈ news, p.1 < C) →
      wpAny (model PySem.Challenge.rw_xg0025_01.row.prog w) A (eval vx (compEnvC scope cl C env)) (KEnd s₃ (vf k)) E' s₃) ∧
    (∀ (D : Addr) (oD : Obj) (kvs' : List (Int × Value)) (h : Heap) (tk : Nat), Fr h₀ L h m → News h₀ L h ((D, oD) :: news) → oD.IsDictOf (iK w) kvs' → EntriesAre kvs' (compE ps kf vf) → (D == sysModules) = false → (∀ p ∈ news, p.1 < D) → Q (.ref D) { s₁ with heap := h, toks := tk })
theorem storedAll_entries {kf vf : Int → Int} {l : List Value} {kvs : List (Int × Value)} (x : StoredAll (fun v k => ∃ a t, v = .int a t ∧ k = kf a) (fun v y => ∃ a t u, v = .int a t ∧ y = .int (vf a) u) l kvs) :
    ∀ as : List Int, IntsAre l as → EntriesAre kvs (as.foldl (fun acc a => putE acc (kf a) (vf a)) []) := by
  induction x with
  | nil => intro as h; cases h; exact .nil
  | snoc _ hk hy ih =>
    intro as h
    obtain ⟨a, t, rfl, rfl⟩ := hk
    obtain ⟨a', t', u, e, rfl⟩ := hy
    cases e
    rcases List.eq_nil_or_concat as with rfl | ⟨as', b, rfl⟩
    · have := h.length
      simp at this
    · rw [List.concat_eq_append] at h ⊢
      obtain ⟨vs', t'', e, h'⟩ := ints_snoc h
      obtain ⟨e1, e2⟩ := List.append_inj' e rfl
      cases e2
      subst e1
      rw [List.foldl_append]
      exact (ih as' h').put _ _ _
theorem ekeys {kvs : List (Int × Value)} {ps : List (Int × Int)} (h : EntriesAre kvs ps) : kvs.map (·.1) = ps.map (·.1) := by
  induction h with
  | nil => rfl
  | cons k n t _ ih => rw [List.map_cons, List.map_cons, ih]
theorem ints_of_keys : ∀ {ks : List Int} {vs : List Value}, vs.length = ks.length → (∀ (j : Nat) (v : Value), vs[j]? = some v → ∃ k t, ks[j]? = some k ∧ v = .int k t) → IntsAre vs ks
  | [], [], _, _ => .nil
  | k :: ks, v :: vs, e, h => by
    obtain ⟨k', t, h1, rfl⟩ := h 0 v rfl
    cases h1
    exact .cons _ _ (ints_of_keys (by simpa using e) fun j v hv => h (j + 1) v hv)
  | [], _ :: _, e, _ => by cases e
  | _ :: _, [], e, _ => by cases e
theorem findE_mem {ps : List (Int × Int)} {j : Nat} {k n : Int} (h : ps[j]? = some (k, n)) : ∃ n', findE ps k = some n' := by
  unfold findE
  cases e : ps.find? (fun p => p.1 = k) with
  | some p => exact ⟨p.2, rfl⟩
  | none =>
    have := List.find?_eq_none.mp e _ (List.mem_of_getElem? h)
    simp at this
theorem DictComp_I {kx vx iter : PySem.Expr} {x : Str} {px : Pos} {scope : Scope} {cl : List (Str × Addr)} {pos : Pos} {Q : Value → Shared → Prop} (F₀ : Fr h₀ L s.heap m) (ps : List (Int × Int)) (kf vf : Int → Int)
    (hclos : closureFor scope env = pure cl) (hcell : ∀ y ∈ scope.names, y.2 ≠ .cell) (hkind : scope.kind = .function)
    (hnames : ∀ y ∈ scope.names, y.2 = .local → scope.names.lookup y.1 = some .local) (hx : scope.names.lookup x = some .local)
    (h : wpAny (model PySem.Challenge.rw_xg0025_01.row.prog w) A (eval iter env) (DSrc w A h₀ L m env kx vx x scope cl ps kf vf Q) E s)
    (hs : ∀ x, foldedSetIterable iter env x = pure x := by intro _; rfl) :
    wpAny (model PySem.Challenge.rw_xg0025_01.row.prog w) A (eval (.DictComp kx vx [⟨.Name x px, iter, [], 0⟩] scope pos) env) Q E s := by
  rw [arm_eval_DictComp]
  refine wpAny_comprehension_free (use := none) rfl hs hclos hkind hnames (wpAny_mono h (fun xv s₁ h₁ => ?_) fun _ _ e => e)
  obtain ⟨d, od, kvs, news, rfl, hh, F, N, hm, hd, he, hsm, hsz, hlow, hkx, hvx, hQ⟩ := h₁
  obtain ⟨ep, hat⟩ := (kda_dict N hm hd).dictAt
  have hI : d ≠ s₁.heap.objs.size := Nat.ne_of_lt hat.lt_size
  refine wpAny_pyIter_dict hsm hat ?_
  refine wpAny_newObj_type (wpAny_newFunctionEnv hcell (by intro y hy; simp at hy) (fun h₁ hns₁ hsb₁ => ?_) hkind)
  dsimp only at hns₁ hsb₁ ⊢
  generalize hit : ({ cls := .type "dict_keyiterator", data := .fields #[.ref d, .int 0 0, .int kvs.length 0, .int ep 0] } : Obj) = oit at hns₁ hsb₁ ⊢
  generalize hH1 : s₁.heap.push oit = H1 at hns₁ hsb₁ ⊢
  have hz1 : H1.objs.size = s₁.heap.objs.size + 1 := by rw [← hH1, Heap.size_push]
  generalize hH2 : H1.push { cls := .type "dict", dict := none, data := .dict #[] } = H2 at hns₁ hsb₁ ⊢
  have hz2 : H2.objs.size = s₁.heap.objs.size + 2 := by rw [← hH2, Heap.size_push, hz1]
  have nI : ∀ {a b : Nat}, a + 1 = b → a ≠ b := fun h => by omega
  have hDC : H1.objs.size ≠ H2.objs.size := Nat.ne_of_lt (by rw [hz1, hz2]; exact Nat.lt_succ_self _)
  have hCI : s₁.heap.objs.size ≠ H2.objs.size := Nat.ne_of_lt (by rw [hz2]; exact Nat.lt_succ_of_lt (Nat.lt_succ_self _))
  have hDI : s₁.heap.objs.size ≠ H1.objs.size := Nat.ne_of_lt (by rw [hz1]; exact Nat.lt_succ_self _)
  have below : ∀ b, b < s₁.heap.objs.size → b ≠ H2.objs.size ∧ b ≠ H1.objs.size ∧ b ∉ [s₁.heap.objs.size] := fun b hb => ⟨Nat.ne_of_lt (by rw [hz2]; exact Nat.lt_succ_of_lt (Nat.lt_succ_of_lt hb)), Nat.ne_of_lt (by rw [hz1]; exact Nat.lt_succ_of_lt hb), fun hm => by rw [List.mem_singleton.mp hm] at hb; exact Nat.lt_irrefl _ hb⟩
  have old1 : ∀ b o, s₁.heap.get? b = some o → H1.get? b = some o := fun b o e => by rw [← hH1]; exact Heap.get?_push_of_some _ e
  have old2 : ∀ b o, H1.get? b = some o → h₁.get? b = some o := fun b o e => hsb₁.extBut b o (Nat.ne_of_lt (by have := Heap.lt_size e; rw [hz2]; rw [hz1] at this; exact Nat.lt_succ_of_lt this)) (Heap.get?_push_of_some _ (hH2 ▸ Heap.get?_push_of_some _ e))
  have hacc : h₁.DictOf (iK w) H1.objs.size [] := (Heap.DictOf.new (knd := iK w) H1).at fun o e => hsb₁.extBut _ _ hDC (Heap.get?_push_of_some _ (hH2 ▸ e))
  have hitI : h₁.IsKeyIter s₁.heap.objs.size d 0 kvs.length ep := by
    refine ⟨oit, old2 _ _ (by rw [← hH1]; exact Heap.get?_push_size _ (by rw [← hit]; rfl)), ?_⟩
    rw [← hit]
    exact ⟨rfl, rfl⟩
  have hatI : h₁.DictAt (iK w) d kvs ep := hat.at' fun o e => old2 _ _ (old1 _ _ e)
  have hL1 : L ≠ H1.objs.size := (below L F.ns.lt).2.1
  have fresh₀ : ∀ a, s₁.heap.objs.size ≤ a → h₀.get? a = none := fun a ha => by
    cases e : h₀.get? a with
    | none => rfl
    | some o' => exact absurd (Heap.lt_size (F.keep a o' e)) (Nat.not_lt.mpr ha)
  have facts : ∀ (C : Addr) (h : Heap), (∀ b o, s₁.heap.get? b = some o → h.get? b = some o) → Fr h₀ L h m ∧ News h₀ L h news := fun C h k => ⟨F.keeps k, N.grown k⟩
  have W := Walks.dictKeys (prog := PySem.Challenge.rw_xg0025_01.row.prog) (w := w) (A := A) (knd := iK w) hh s₁.heap.objs.size d hI kvs ep
  have hkeep : ∀ (h' : Heap), (∀ b o, b ≠ H2.objs.size → b ∉ [s₁.heap.objs.size] → b ≠ H1.objs.size → h₁.get? b = some o → h'.get? b = some o) → ∀ b o, s₁.heap.get? b = some o → h'.get? b = some o :=
    fun h' hk b o e => let z := below b (Heap.lt_size e); hk b o z.1 z.2.2 z.2.1 (old2 _ _ (old1 _ _ e))
  have hnC : ∀ (s₃ : Shared) (m₃ : Str → Option Value), s₃.heap.Ns H2.objs.size m₃ → (∀ b o, b ≠ H2.objs.size → b ∉ [s₁.heap.objs.size] → b ≠ H1.objs.size → h₁.get? b = some o → s₃.heap.get? b = some o) →
      ∃ oC, NsObj oC m₃ ∧ Fr h₀ L s₃.heap m ∧ News h₀ L s₃.heap ((H2.objs.size, oC) :: news) ∧ ∀ p ∈ news, p.1 < H2.objs.size := by
    intro s₃ m₃ hn hk
    obtain ⟨oC, heC, hoC⟩ := ns_obj hn
    have k' := hkeep s₃.heap hk
    refine ⟨oC, hoC, F.keeps k', fun p hp => ?_, fun p hp => by rw [hz2]; exact Nat.lt_succ_of_lt (Nat.lt_succ_of_lt (Heap.lt_size (N p hp).1))⟩
    rcases List.mem_cons.mp hp with rfl | hp
    · exact ⟨heC, Ne.symm (below L F.ns.lt).1, fresh₀ _ (by rw [hz2]; exact Nat.le_succ_of_le (Nat.le_succ _))⟩
    · exact N.grown k' p hp
  have loop : ∀ s₃ : Shared, s₃ = { s₁ with heap := h₁, toks := s₁.toks + ([] : List (Str × Value)).length } →
      codeAny (model PySem.Challenge.rw_xg0025_01.row.prog w) A (.compLoop (.DictComp kx vx [⟨.Name x px, iter, [], 0⟩] scope pos) 0 (.ref s₁.heap.objs.size) (.ref H1.objs.size) (compEnvC scope cl H2.objs.size env))
        (compPost (model PySem.Challenge.rw_xg0025_01.row.prog w) A E none Q (.ref H1.objs.size) H2.objs.size) s₃ := by
    rintro s₃ rfl
    refine codeAny_compLoop_walkD (knd := iK w) (cenv := compEnvC scope cl H2.objs.size env) W (fun _ => true) (fun v k => ∃ a t, v = .int a t ∧ k = kf a) (fun v y => ∃ a t u, v = .int a t ∧ y = .int (vf a) u) (lookup_relabel_local hx) (by simp [compEnvC, relabel, hkind]) hDC
      (fun h => ?_) (fun h => ?_) ⟨hitI, hatI⟩ hacc hns₁ ?_ ?_ ?_ ?_ hsz
    · rcases List.mem_cons.mp h with h | h
      · exact hDI h.symm
      · exact (below d hat.lt_size).2.1 (List.mem_singleton.mp h).symm
    · rcases List.mem_cons.mp h with h | h
      · exact hCI h.symm
      · exact (below d hat.lt_size).1 (List.mem_singleton.mp h).symm
    · intro i v s₃ m₃ _ _ _ _
      exact wpAny_pure ⟨rfl, s₃.heap, s₃.toks, rfl, fun _ _ e => e⟩
    · intro i v s₃ m₃ ⟨k, y, hP1, hP2⟩ _ hn hx3 hk
      obtain ⟨t, rfl⟩ := Value.isInt_shape hP2
      obtain ⟨n, tn, _, hpi⟩ := he.get hP1
      obtain ⟨oC, hoC, F3, N3, hlt⟩ := hnC s₃ m₃ hn hk
      refine wpAny_mono (hkx _ oC i k n t m₃ s₃ _ hpi hoC hx3 F3 N3 hlt) ?_ fun _ _ e => e
      rintro v s₄ ⟨⟨t', rfl⟩, hks⟩
      exact ⟨⟨kf k, intKind_is _ _ _ _, k, t, rfl, rfl⟩, hks⟩
    · intro i v s₃ m₃ ⟨k, y, hP1, hP2⟩ _ hn hx3 hk
      obtain ⟨t, rfl⟩ := Value.isInt_shape hP2
      obtain ⟨n, tn, _, hpi⟩ := he.get hP1
      obtain ⟨oC, hoC, F3, N3, hlt⟩ := hnC s₃ m₃ hn hk
      refine wpAny_mono (hvx _ oC i k n t m₃ s₃ _ hpi hoC hx3 F3 N3 hlt) ?_ fun _ _ e => e
      rintro v s₄ ⟨⟨t', rfl⟩, hks⟩
      exact ⟨⟨k, t, t', rfl, rfl⟩, hks⟩
    · intro h' tk m' kvs' vs hn hdo hlen hP hF hk
      have k' := hkeep h' hk
      refine ⟨m', hn, fun h'' hs'' => ?_⟩
      have k'' : ∀ b o, s₁.heap.get? b = some o → h''.get? b = some o := fun b o e => hs''.extBut b o (below b (Heap.lt_size e)).1 (k' b o e)
      obtain ⟨oD, hoD, hdD⟩ := Heap.dictOf_iff.mp (hdo.extBut hs''.extBut hDC)
      have hDlow : (H1.objs.size == sysModules) = false := by
        refine beq_eq_false_iff_ne.mpr (Nat.ne_of_gt ?_)
        rw [hz1]
        exact Nat.lt_succ_of_lt (Nat.lt_trans hlow (Nat.lt_of_le_of_lt F.above F.ns.lt))
      have hints : IntsAre vs (kvs.map (·.1)) := ints_of_keys (by rw [List.length_map]; exact hlen) fun j v hv => by
        obtain ⟨k, y, h1, h2⟩ := hP j v hv
        obtain ⟨t, rfl⟩ := Value.isInt_shape h2
        exact ⟨k, t, by rw [List.getElem?_map, h1]; rfl, rfl⟩
      rw [List.filter_eq_self.mpr (fun _ _ => rfl)] at hF
      have hE := storedAll_entries hF _ hints
      rw [ekeys he, List.foldl_map] at hE
      refine hQ H1.objs.size oD kvs' h'' tk (F.keeps k'') (fun p hp => ?_) hdD hE hDlow (fun p hp => by rw [hz1]; exact Nat.lt_succ_of_lt (Heap.lt_size (N p hp).1))
      rcases List.mem_cons.mp hp with rfl | hp
      · exact ⟨hoD, Ne.symm hL1, fresh₀ _ (by rw [hz1]; exact Nat.le_succ _)⟩
      · exact N.grown k'' p hp
  exact codeAny_compStart_dict (loop _ rfl) (W.self 0 _ _ _ ⟨hitI, hatI⟩ (loop _ rfl))
end
end
section
section
variable {prog : Program} {w : World} {A : Around} {E : Value → Shared → Prop} {s : Shared} {env : Env} {h₀ : Heap} {target : PySem.Expr} {body : List Stmt} {Q : Flow → Shared → Prop} {σ : Type}
theorem letGo_range {I : Addr} {x left st : Int} {v : Value} {Q' : Unit → Shared → Prop} {s' : Shared} (hit : IsRangeIter s'.heap I x left st) (h : Q' () s') :
    wpAny (model prog w) A (letOwnedTupleGo target (.ref I) v) Q' E s' := by
  unfold letOwnedTupleGo
  cases target <;> first
    | exact wpAny_pure h
    | (cases v <;> first
        | exact wpAny_pure h
        | (refine wpAny_bind (wpAny_load hit ?_)
           exact wpAny_pure h))
/-- turns over a range, whatever the target -/
theorem iter_rangeTurns {r : Addr} {a₀ b₀ st : Int} {t₀ u₀ v₀ : Tok} {n : Nat} {m₀ : Str → Option Value} {news : List (Addr × Obj)}
    (hh : A.handled = none) (hr : IsRange s.heap r a₀ b₀ st t₀ u₀ v₀) (hsmall : Builtin.Range.small a₀ b₀ st = true) (hsz : Builtin.Range.rangeSize a₀ b₀ st = (n : Int)) (F : Fr h₀ env.locals s.heap m₀) (N : News h₀ env.locals s.heap news)
    (rest₀ : ∀ I : Addr, (∀ p ∈ news, p.1 < I) → ItemsRest prog w A E h₀ env target body Q s [(I, "range_iterator")] [] ((List.range n).map fun (i : Nat) => Itm.tok (fun t => .int (a₀ + (i : Int) * st) t)) m₀ news) :
    wpAny (model prog w) A (pyIter (.ref r)) (fun it s₂ => TurnsAt prog w A h₀ env target body Q E it s₂) E s := by
  refine wpAny_pyIter_range hr hsmall ?_
  have W : Walks prog w A s.heap.objs.size [s.heap.objs.size] [s.heap.objs.size] n (fun i v => i < n ∧ ∃ t, v = .int (a₀ + i * st) t)
      (fun i h => IsRangeIter h s.heap.objs.size (a₀ + (i : Nat) * st) ((n : Int) - (i : Nat)) st) := (Walks.range hh _ a₀ st n).bound
  refine ktu_core (tk0 := s.toks) (keep := []) (KTurns.ofWalks W fun i v s Q E st q => letGo_range st q) (by simp) (fun i v h hp => ?_) (fun i h st => ?_) (fun b hb => ?_) (fun b hb => by simpa using hb) (fun b hb => ?_) ?_ (fun p hp hI => ?_) ?_ (F.push _) (fun p hp => ⟨Heap.get?_push_of_some _ (N p hp).1, (N p hp).2⟩) trivial (rest₀ _ fun p hp => Heap.lt_size (N p hp).1)
  · obtain ⟨hi, t, rfl⟩ := hp
    exact ⟨Itm.tok (fun t => .int (a₀ + (i : Int) * st) t), by rw [List.getElem?_map, List.getElem?_range hi]; rfl, t, rfl⟩
  · exact ⟨[(s.heap.objs.size, _)], ⟨⟨rfl, rfl⟩, trivial⟩, fun p hp => by rw [List.mem_singleton.mp hp]; exact st⟩
  · have hb' : b = s.heap.objs.size := by simpa using hb
    rw [hb']
    exact ⟨List.mem_cons_self .., next_is_new F⟩
  · have hb' : b = s.heap.objs.size := by simpa using hb
    exact .inl (by simp [hb'])
  · intro hI
    rw [List.mem_singleton] at hI
    exact absurd F.ns.lt (hI ▸ Nat.lt_irrefl _)
  · exact absurd (Heap.lt_size (N p hp).1) ((List.mem_singleton.mp hI) ▸ Nat.lt_irrefl _)
  · show IsRangeIter _ _ _ _ _
    rw [hsz]
    simpa using Heap.get?_push_size _ rfl
variable {obj : σ → List (Addr × Obj)} {vars : σ → List (Str × Value)} {sto : List Str} {m₀ : Str → Option Value} {news₀ : List (Addr × Obj)} {c₀ : σ} {adr : List Addr} {I : Nat → σ → List (Addr × Obj) → Prop}
/-- a for over a range, whatever the target -/
theorem loop_rangeT {r : Addr} {a₀ b₀ st : Int} {t₀ u₀ v₀ : Tok} {n : Nat} (obj : σ → List (Addr × Obj)) (vars : σ → List (Str × Value)) (sto : List Str) (I : Nat → σ → List (Addr × Obj) → Prop) (adr : List Addr) (c₀ : σ) (news₀ : List (Addr × Obj)) {news : List (Addr × Obj)}
    (hh : A.handled = none) (hr : IsRange s.heap r a₀ b₀ st t₀ u₀ v₀) (hsmall : Builtin.Range.small a₀ b₀ st = true) (hsz : Builtin.Range.rangeSize a₀ b₀ st = (n : Int)) (F : Fr h₀ env.locals s.heap m₀) (N : News h₀ env.locals s.heap news)
    (hsub : ∀ p ∈ obj c₀ ++ news₀, p ∈ news) (hadr : ∀ c, (obj c).map (·.1) = adr) (hoff0 : ∀ p ∈ news₀, ∀ b ∈ adr, p.1 ≠ b) (hI : I 0 c₀ news₀) (hv : ∀ p ∈ vars c₀, m₀ p.1 = some p.2)
    (turn : ∀ i c rest tail h tk t (u : Str → Option Value), i < n → I i c rest → (∀ p ∈ rest, p ∈ tail) → (∀ p ∈ tail, ∀ b ∈ adr, p.1 ≠ b) → (∀ p ∈ news₀, p ∈ rest) →
      Fr h₀ env.locals h (names sto u m₀ (vars c)) → News h₀ env.locals h (obj c ++ tail) →
      wpAny (model prog w) A (assign target env (.int (a₀ + (i : Int) * st) t)) (fun _ s₂ => wpAny (model prog w) A (execs body env) (TPost h₀ env.locals obj vars (fun _ => False) sto m₀ (I (i + 1)) c rest tail { s with heap := h, toks := tk } Q) E s₂) E { s with heap := h, toks := tk })
    (done : ∀ c tl h tk (u : Str → Option Value), (∀ p ∈ tl, ∀ q ∈ obj c₀ ++ news₀, q.1 ≠ p.1) → I n c (tl ++ news₀) → Fr h₀ env.locals h (names sto u m₀ (vars c)) → News h₀ env.locals h (obj c ++ (tl ++ news₀)) → Q .next { s with heap := h, toks := tk }) :
    wpAny (model prog w) A (pyIter (.ref r)) (fun it s₂ => TurnsAt prog w A h₀ env target body Q E it s₂) E s := by
  have N1 : News h₀ env.locals s.heap (obj c₀ ++ news₀) := fun p hp => N p (hsub p hp)
  refine iter_rangeTurns hh hr hsmall hsz F N1 fun Ia hlt => ?_
  refine items_loop obj vars sto I adr c₀ news₀ (fun nx _ => trivial) (fun p hp w' hw' => ?_) hadr hoff0 hI hv ?_ ?_
  · rw [List.mem_singleton.mp hw']
    exact Nat.ne_of_lt (hlt p hp)
  · intro i a v c rest tail h tk u ha hv' hI' h1 h2 h3 F' N'
    rw [List.getElem?_map] at ha
    obtain ⟨j, e1, rfl⟩ := Option.map_eq_some_iff.mp ha
    obtain ⟨hj, e2⟩ := List.getElem?_eq_some_iff.mp e1
    rw [List.getElem_range] at e2
    subst e2
    rw [List.length_range] at hj
    obtain ⟨t, rfl⟩ := hv'
    exact turn i c rest tail h tk t u hj hI' h1 h2 h3 F' N'
  · intro c tl h tk u ht hI' F' N'
    rw [List.length_map, List.length_range] at hI'
    exact done c tl h tk u ht hI' F' N'
end
end
section
section
variable {prog : Program} {w : World} {A : Around} {E : Value → Shared → Prop} {s : Shared} {h₀ : Heap} {L a b : Addr} {m : Str → Option Value} {news news' : List (Addr × Obj)} {us ws : List Value} {n k : Nat} {Q : Value → Shared → Prop}
/-- xs += ys of two lists -/
theorem iadd_list (F : Fr h₀ L s.heap m) (N : News h₀ L s.heap news) (hb : (b, W.listOf ws.toArray k) ∈ news) (U : Upd a (W.listOf us.toArray n) (W.listOf (us ++ ws).toArray (if (us ++ ws).toArray.size == us.toArray.size then n else n + 1)) news news') (hz : us.length + ws.length ≤ 1000)
    (h : ∀ h', Fr h₀ L h' m → News h₀ L h' news' → Q (.ref a) { s with heap := h' }) : wpAny (model prog w) A (inplaceOp .Add (.ref a) (.ref b)) Q E s := by
  obtain ⟨pre, post, rfl, rfl, o1, o2⟩ := U.split
  have z := N (a, W.listOf us.toArray n) (List.mem_append.mpr (.inr (.head _)))
  have hla : s.heap.IsList a us.toArray := listIn N (List.mem_append.mpr (.inr (.head _)))
  have hlb : s.heap.IsList b ws.toArray := listIn N hb
  have ha := hla.typeIs
  have hb' := hlb.typeIs
  unfold inplaceOp
  refine wpAny_holding ?_
  have hsl : typeLookup (.type "list") (dunderI "add") = pure (some (.builtin "list.__iadd__")) := PySem.F.slot_list_iadd.lookup
  have hfi : fillsInplaceSlot (.type "list") "add" (Operator.Add == .Add) = pure false := by
    unfold fillsInplaceSlot
    show (typeLookup (.type "list") (dunderI "add") >>= fun fi => pure (fi.isSome && !isSeqSlot fi)) = pure false
    rw [hsl]
    have : isSeqSlot (some (.builtin "list.__iadd__")) = true := by decide +kernel
    rw [pure_bind, this]
    rfl
  refine wpAny_bind (wpAny_typeOf ha (wpAny_bind (wpAny_of_eq hfi ?_)))
  show wpAny _ A (if false = true then _ else _) Q E s
  rw [if_neg Bool.false_ne_true]
  refine wpAny_bind (binaryOp1_none (nm := "add") ha hb' noFill_list_add ?_)
  refine wpAny_bind (wpAny_of_eq (PyProof.Rows.seqSlot_of PySem.F.slot_list_iadd.lookup (by decide +kernel)) ?_)
  refine wpAny_bind (wpAny_rule ?_)
  have hs1 : us.toArray.size = us.length := by simp
  have hs2 : ws.toArray.size = ws.length := by simp
  refine wpAny_mono (call_meets PySem.F.slot_list_iadd ha PySem.F.entry_list_iadd (PySem.F.args_list_iadd_2 _ _) (PySem.AutoSeq1.list___iadd___list_list_0 a us.toArray n b ws.toArray k ?_ ?_ ?_) ⟨z.1, (N _ hb).1, ?_⟩) (fun _ _ x => x) fun _ _ x => x
  · intro hc
    have : Builtin.List.listTooLong (us.toArray.size + ws.toArray.size) = true := (Bool.and_eq_true _ _ ▸ hc).2
    rw [hs1, hs2] at this
    have h2 : us.length + ws.length > sizeLine := of_decide_eq_true this
    rw [sizeLine_eq] at h2
    omega
  · rw [hs1, sizeLine_eq]; omega
  · rw [hs1, hs2, sizeLine_eq]; omega
  · exact h _ (F.change (Heap.SameBut.update ..) z.2.1 z.2.2) (ki_turn _ N o1 o2 (by simp) rfl)
end
end
section
section
open PySem.Flt
variable {prog : Program} {w : World} {A : Around} {E : Value → Shared → Prop} {s : Shared} {Q : Value → Shared → Prop} {a b c : Value} {h₀ : Heap} {L : Addr} {m : Str → Option Value} {news : List (Addr × Obj)}
theorem max_three_num (hh : A.handled = none) (ha : NumV a) (hb : NumV b) (hc : NumV c)
    (h : ∀ h' tk, (∀ c o, s.heap.get? c = some o → h'.get? c = some o) → Q (if ltV a b then (if ltV b c then c else b) else (if ltV a c then c else a)) { s with heap := h', toks := tk }) :
    wpAny (model prog w) A (call (.builtin "max") [a, b, c]) Q E s := by
  have hT : (s.heap.push { cls := .type "tuple", data := .seq #[a, b, c] }).IsTuple s.heap.objs.size #[a, b, c] := ⟨_, Heap.get?_push_size _ rfl, rfl, 0, rfl⟩
  refine call_max_three (wpAny_pyIter_tuple hT ?_)
  have hsz : (s.heap.push { cls := .type "tuple", data := .seq #[a, b, c] }).objs.size = s.heap.objs.size + 1 := Heap.size_push ..
  refine ⟨_, [_, s.heap.objs.size], [_], _, _, _, _, rfl, Walks.tuple (A := A.in1) hh _ s.heap.objs.size (by rw [hsz]; exact Nat.ne_of_lt (Nat.lt_succ_self _)) #[a, b, c],
    ⟨⟨_, Heap.get?_push_size _ rfl, rfl, rfl⟩, hT.push _⟩, fun d hd => ?_, by simp, cmpOf_gt #[a, b, c] (by simp [ha, hb, hc]), fun v h' tk hP hk => ?_⟩
  · show d < ((s.heap.push _).push _).objs.size
    rw [Heap.size_push, hsz]
    rcases List.mem_cons.mp hd with rfl | hd
    · rw [hsz]; exact Nat.lt_succ_self _
    · rw [List.mem_singleton.mp hd]
      exact Nat.lt_succ_of_lt (Nat.lt_succ_self _)
  · have hold : ∀ c o, s.heap.get? c = some o → h'.get? c = some o := fun c o e => by
      refine hk c o (fun hm => ?_) (Heap.get?_push_of_some _ (Heap.get?_push_of_some _ e))
      have := Heap.lt_size e; rw [List.mem_singleton.mp hm, hsz] at this; exact Nat.lt_irrefl _ (Nat.lt_of_succ_lt this)
    have := h h' tk hold
    have hv : v = if ltV a b then (if ltV b c then c else b) else (if ltV a c then c else a) := by
      cases h1 : ltV a b <;> cases h2 : ltV b c <;> cases h3 : ltV a c <;> simp [argBest, h1, h2, h3] at hP <;> simp [hP]
    rw [hv]; exact this
theorem min_three_num (hh : A.handled = none) (ha : NumV a) (hb : NumV b) (hc : NumV c)
    (h : ∀ h' tk, (∀ c o, s.heap.get? c = some o → h'.get? c = some o) → Q (if ltV b a then (if ltV c b then c else b) else (if ltV c a then c else a)) { s with heap := h', toks := tk }) :
    wpAny (model prog w) A (call (.builtin "min") [a, b, c]) Q E s := by
  have hT : (s.heap.push { cls := .type "tuple", data := .seq #[a, b, c] }).IsTuple s.heap.objs.size #[a, b, c] := ⟨_, Heap.get?_push_size _ rfl, rfl, 0, rfl⟩
  refine call_min_three (wpAny_pyIter_tuple hT ?_)
  have hsz : (s.heap.push { cls := .type "tuple", data := .seq #[a, b, c] }).objs.size = s.heap.objs.size + 1 := Heap.size_push ..
  refine ⟨_, [_, s.heap.objs.size], [_], _, _, _, _, rfl, Walks.tuple (A := A.in1) hh _ s.heap.objs.size (by rw [hsz]; exact Nat.ne_of_lt (Nat.lt_succ_self _)) #[a, b, c],
    ⟨⟨_, Heap.get?_push_size _ rfl, rfl, rfl⟩, hT.push _⟩, fun d hd => ?_, by simp, cmpOf_lt #[a, b, c] (by simp [ha, hb, hc]), fun v h' tk hP hk => ?_⟩
  · show d < ((s.heap.push _).push _).objs.size
    rw [Heap.size_push, hsz]
    rcases List.mem_cons.mp hd with rfl | hd
    · rw [hsz]; exact Nat.lt_succ_self _
    · rw [List.mem_singleton.mp hd]
      exact Nat.lt_succ_of_lt (Nat.lt_succ_self _)
  · have hold : ∀ c o, s.heap.get? c = some o → h'.get? c = some o := fun c o e => by
      refine hk c o (fun hm => ?_) (Heap.get?_push_of_some _ (Heap.get?_push_of_some _ e))
      have := Heap.lt_size e; rw [List.mem_singleton.mp hm, hsz] at this; exact Nat.lt_irrefl _ (Nat.lt_of_succ_lt this)
    have := h h' tk hold
    have hv : v = if ltV b a then (if ltV c b then c else b) else (if ltV c a then c else a) := by
      cases h1 : ltV b a <;> cases h2 : ltV c b <;> cases h3 : ltV c a <;> simp [argBest, h1, h2, h3] at hP <;> simp [hP]
    rw [hv]; exact this
def fLt (x y : UInt64) : Bool := Float64.cmp x y == some .lt
def fmax3 (x y z : UInt64) : UInt64 := if fLt x y then (if fLt y z then z else y) else (if fLt x z then z else x)
def fmin3 (x y z : UInt64) : UInt64 := if fLt y x then (if fLt z y then z else y) else (if fLt z x then z else x)
theorem max_three_ff {x y z : UInt64} {t u v : Tok} (hh : A.handled = none) (F : Fr h₀ L s.heap m) (N : News h₀ L s.heap news)
    (h : ∀ h' tk t', Fr h₀ L h' m → News h₀ L h' news → Q (.float (fmax3 x y z) t') { s with heap := h', toks := tk }) : wpAny (model prog w) A (call (.builtin "max") [.float x t, .float y u, .float z v]) Q E s := by
  refine max_three_num hh (.float _ _) (.float _ _) (.float _ _) fun h' tk kp => ?_
  have key := fun t' => h h' tk t' (F.grownK kp) (N.grown kp)
  unfold fmax3 fLt at key
  show Q (if Float64.cmp x y == some .lt then (if Float64.cmp y z == some .lt then .float z v else .float y u) else (if Float64.cmp x z == some .lt then .float z v else .float x t)) _
  cases h1 : (Float64.cmp x y == some .lt) <;> cases h2 : (Float64.cmp y z == some .lt) <;> cases h3 : (Float64.cmp x z == some .lt) <;> simp only [h1, h2, h3, if_true, if_false, Bool.false_eq_true] at key ⊢ <;> exact key _
theorem min_three_ff {x y z : UInt64} {t u v : Tok} (hh : A.handled = none) (F : Fr h₀ L s.heap m) (N : News h₀ L s.heap news)
    (h : ∀ h' tk t', Fr h₀ L h' m → News h₀ L h' news → Q (.float (fmin3 x y z) t') { s with heap := h', toks := tk }) : wpAny (model prog w) A (call (.builtin "min") [.float x t, .float y u, .float z v]) Q E s := by
  refine min_three_num hh (.float _ _) (.float _ _) (.float _ _) fun h' tk kp => ?_
  have key := fun t' => h h' tk t' (F.grownK kp) (N.grown kp)
  unfold fmin3 fLt at key
  show Q (if Float64.cmp y x == some .lt then (if Float64.cmp z y == some .lt then .float z v else .float y u) else (if Float64.cmp z x == some .lt then .float z v else .float x t)) _
  cases h1 : (Float64.cmp y x == some .lt) <;> cases h2 : (Float64.cmp z y == some .lt) <;> cases h3 : (Float64.cmp z x == some .lt) <;> simp only [h1, h2, h3, if_true, if_false, Bool.false_eq_true] at key ⊢ <;> exact key _
end
end
section
section
variable {w : World} {A : Around} {E : Value → Shared → Prop} {s : Shared} {h₀ : Heap} {L : Addr} {m : Str → Option Value} {env : Env}
open LCg
/-- where a zip of two lists stands -/
abbrev ZSt (n0 l1 l2 : Nat) (xs ys : List Value) (i : Nat) (h : Heap) : Prop :=
  IsZip h (n0 + 4) (n0 + 2) (n0 + 3) .none ∧ IsPair h (n0 + 2) (.ref n0) (.ref (n0 + 1)) ∧ (∃ a b, IsPair h (n0 + 3) a b) ∧ h.IsListIter n0 l1 i ∧ h.IsListIter (n0 + 1) l2 i ∧ h.IsList l1 xs.toArray ∧ h.IsList l2 ys.toArray
def ZSrc (w : World) (A : Around) (h₀ : Heap) (L : Addr) (m : Str → Option Value) (env : Env) (elt : PySem.Expr) (x x₂ : Str) (scope : Scope) (cl : List (Str × Addr)) (as bs : List Int) (f : Int → Int → Int) (y : Str) (Q : Flow → Shared → Prop) (xv : Value) (s₁ : Shared) : Prop :=
  ∃ (n0 l1 l2 : Nat) (xs ys : List Value) (news : List (Addr × Obj)), xv = .ref (n0 + 4) ∧ A.handled = none ∧ Fr h₀ L s₁.heap m ∧ News h₀ L s₁.heap news ∧ (∀ p ∈ news, p.1 < n0) ∧ L < n0 ∧ h₀.objs.size ≤ n0 ∧ s₁.heap.objs.size = n0 + 5 ∧ l1 < n0 ∧ l2 < n0 ∧
    ZSt n0 l1 l2 xs ys 0 s₁.heap ∧ IntsAre xs as ∧ IntsAre ys bs ∧ as.length ≤ 1000 ∧
    (∀ (C : Addr) (oC : Obj) (i : Nat) (a b : Int) (ta tb : Tok) (m₃ : Str → Option Value) (s₃ : Shared) (E' : Value → Shared → Prop), as[i]? = some a → bs[i]? = some b → NsObj oC m₃ → m₃ x = some (.int a ta) → m₃ x₂ = some (.int b tb) → Fr h₀ L s₃.heap m → News h₀ L s₃.heap ((C, oC) :: news) → (∀ p ∈ news, p.1 < C) →
      wpAny (model PySem.Challenge.rw_xg0025_01.row.prog w) A (eval elt (compEnvC scope cl C env)) (KEnd s₃ (f a b)) E' s₃) ∧
    (∀ (D : Addr) (zs : List Value) (h : Heap) (tk : Nat), Fr h₀ L h (fun z => if z = y then some (.ref D) else m z) → News h₀ L h ((D, lst zs) :: news) → (∀ p ∈ news, p.1 < D) → IntsAre zs (List.zipWith f as bs) → Q .next { s₁ with heap := h, toks := tk })
theorem zip_src {elt : PySem.Expr} {x x₂ y : Str} {scope : Scope} {cl : List (Str × Addr)} {as bs : List Int} {f : Int → Int → Int} {Q : Flow → Shared → Prop} {l1 l2 : Addr} {xs ys : List Value} {n1 n2 : Nat} {news : List (Addr × Obj)}
    (hh : A.handled = none) (F : Fr h₀ L s.heap m) (N : News h₀ L s.heap news) (m1 : (l1, W.listOf xs.toArray n1) ∈ news) (m2 : (l2, W.listOf ys.toArray n2) ∈ news) (hx : IntsAre xs as) (hy : IntsAre ys bs) (hz : as.length ≤ 1000)
    (he : ∀ (C : Addr) (oC : Obj) (i : Nat) (a b : Int) (ta tb : Tok) (m₃ : Str → Option Value) (s₃ : Shared) (E' : Value → Shared → Prop), as[i]? = some a → bs[i]? = some b → NsObj oC m₃ → m₃ x = some (.int a ta) → m₃ x₂ = some (.int b tb) → Fr h₀ L s₃.heap m → News h₀ L s₃.heap ((C, oC) :: news) → (∀ p ∈ news, p.1 < C) →
      wpAny (model PySem.Challenge.rw_xg0025_01.row.prog w) A (eval elt (compEnvC scope cl C env)) (KEnd s₃ (f a b)) E' s₃)
    (hq : ∀ (D : Addr) (zs : List Value) (h : Heap) (tk : Nat), Fr h₀ L h (fun z => if z = y then some (.ref D) else m z) → News h₀ L h ((D, lst zs) :: news) → (∀ p ∈ news, p.1 < D) → IntsAre zs (List.zipWith f as bs) → Q .next { s with heap := h, toks := tk }) :
    wpAny (model PySem.Challenge.rw_xg0025_01.row.prog w) A (call (.type "zip") [.ref l1, .ref l2]) (ZSrc w A h₀ L m env elt x x₂ scope cl as bs f y Q) E s := by
  have hl1 := listIn N m1
  have hl2 := listIn N m2
  refine call_zip_2 hl1 hl2 fun h' hz' hTI hTO hi1 hi2 hsz hk => ?_
  exact ⟨s.heap.objs.size, l1, l2, xs, ys, news, rfl, hh, F.keeps hk, N.grown hk, fun p hp => Heap.lt_size (N p hp).1, F.ns.lt, Nat.le_of_lt (Nat.lt_of_le_of_lt F.above F.ns.lt), hsz, Heap.lt_size (N _ m1).1, Heap.lt_size (N _ m2).1,
    ⟨hz', hTI, ⟨_, _, hTO⟩, hi1, hi2, hl1.at fun o e => hk _ o e, hl2.at fun o e => hk _ o e⟩, hx, hy, hz, he, hq⟩
/-- the kit's loop of a comprehension with a pair for its target, the ends of a turn out of sight -/
theorem loop_pair9 {prog : Program} {w : World} {A : Around} {elt iter : PySem.Expr} {elts : List PySem.Expr} {x1 : Nat} {tp : Pos} {scope : Scope} {pos : Pos} {it acc : Value} {env : Env} {R : Result → Shared → Prop} {s : Shared} (I : Nat → Shared → Prop)
    (turn : ∀ n s (J : Shared → Prop) (E' : Value → Shared → Prop), I n s → (∀ m s', m < n → I m s' → J s') → wpAny (model prog w) A (pyNext it) (fun r s₁ => match r with
      | none => R (.ok .next) s₁
      | some v => wpAny (model prog w) A (letOwnedTupleGo (.Tuple elts x1 tp) it v) (fun _ s₁' => wpAny (model prog w) A (assign (.Tuple elts x1 tp) env v) (fun _ s₂ =>
          wpAny (model prog w) A (eval elt env) (fun x s₄ => wpAny (model prog w) A (call (.builtin "list.append") [acc, x]) (fun _ s₅ => J s₅) E' s₄) E' s₂) E' s₁') E' s₁) E' s)
    (n : Nat) (h : I n s) : codeAny (model prog w) A (.compLoop (.ListComp elt [⟨.Tuple elts x1 tp, iter, [], 0⟩] scope pos) 0 it acc env) R s :=
  LCp.codeAny_compLoop_pair I (fun n s hI => turn n s (fun s₅ => ∃ m, m < n ∧ I m s₅) _ hI fun m _ h1 h2 => ⟨m, h1, h2⟩) n h
theorem Assign_ListComp_Z {elt iter : PySem.Expr} {x x₂ y : Str} {px px₂ tp py : Pos} {tk : Nat} {scope : Scope} {cl : List (Str × Addr)} {pos spos : Pos} {Q : Flow → Shared → Prop} (as bs : List Int) (f : Int → Int → Int) (F₀ : Fr h₀ L s.heap m) (hLe : env.locals = L)
    (hsw : swapsWith (.ListComp elt [⟨.Tuple [.Name x px, .Name x₂ px₂] tk tp, iter, [], 0⟩] scope pos) (some (.Name y py)) spos.line env = pure true)
    (hclos : closureFor scope env = pure cl) (hcell : ∀ z ∈ scope.names, z.2 ≠ .cell) (hkind : scope.kind = .function)
    (hnames : ∀ z ∈ scope.names, z.2 = .local → scope.names.lookup z.1 = some .local) (hx : scope.names.lookup x = some .local) (hx₂ : scope.names.lookup x₂ = some .local) (hxx : x ≠ x₂)
    (hy : env.kindOf y = some .local) (hp : (env.scope.kind == .class || (env.scope.kind == .module && env.locals != env.globals)) = false)
    (h : wpAny (model PySem.Challenge.rw_xg0025_01.row.prog w) A (eval iter env) (ZSrc w A h₀ L m env elt x x₂ scope cl as bs f y Q) E s)
    (hs : ∀ x, foldedSetIterable iter env x = pure x := by intro _; rfl) :
    wpAny (model PySem.Challenge.rw_xg0025_01.row.prog w) A (exec (.Assign [.Name y py] (.ListComp elt [⟨.Tuple [.Name x px, .Name x₂ px₂] tk tp, iter, [], 0⟩] scope pos) spos) env) Q E s := by
  subst hLe
  rw [exec_Assign_Name_used _ _ _ _ hsw]
  refine wpAny_bind (wpAny_standAt (wpAny_bind ?_))
  show wpAny _ A (do let _ ← comprehension (.ListComp elt [⟨.Tuple [.Name x px, .Name x₂ px₂] tk tp, iter, [], 0⟩] scope pos) scope env _ (newList []) false (eval iter env) (some (assign (.Name y py) env))) _ _ s
  refine wpAny_bind (wpAny_mono (wpAny_comprehension_free (use := some (assign (.Name y py) env)) (Q := fun _ s' => Q .next s') rfl hs hclos hkind hnames
    (wpAny_mono h (fun xv s₁ h₁ => ?_) fun _ _ e => e)) (fun _ s' hq => wpAny_pure (wpAny_pure hq)) fun _ _ e => e)
  obtain ⟨n0, l1, l2, xs, ys, news, rfl, hh, F, N, hlt, hL0, hh0, hsz, hl10, hl20, hst0, hxa, hyb, hz, helt, hq⟩ := h₁
  refine wpAny_pyIter_zip hst0.1 ?_
  refine wpAny_newObj_type (wpAny_newFunctionEnv hcell (by intro y hy; simp at hy) (fun h₁ hns₁ hsb₁ => ?_) hkind)
  dsimp only at hns₁ hsb₁ ⊢
  generalize hH2 : s₁.heap.push { cls := .type "list", dict := none, data := .seq ([] : List Value).toArray } = H2 at hns₁ hsb₁ ⊢
  have hz2 : H2.objs.size = n0 + 6 := by rw [← hH2, Heap.size_push, hsz]
  rw [hz2] at hns₁ hsb₁ ⊢
  rw [hsz]
  have W := (WalksT.zip2 (prog := PySem.Challenge.rw_xg0025_01.row.prog) (w := w) (A := A) hh (n0 + 4) (n0 + 2) (n0 + 3) n0 (n0 + 1) l1 l2 (ktu_apart n0 l1 l2 hl10 hl20) xs.toArray ys.toArray).toU
  have hnn : min xs.toArray.size ys.toArray.size = (List.zipWith f as bs).length := by
    rw [List.length_zipWith, List.size_toArray, List.size_toArray, hxa.length, hyb.length]
  rw [hnn] at W
  have old : ∀ b o, b < n0 + 5 → s₁.heap.get? b = some o → h₁.get? b = some o := fun b o hb e => hsb₁.extBut b o (by show b ≠ n0 + 6; have : (b : Nat) < n0 + 5 := hb; omega) (Heap.get?_push_of_some _ (hH2 ▸ Heap.get?_push_of_some _ e))
  have hacc : h₁.get? (n0 + 5 : Nat) = some (lst []) := hsb₁.extBut _ _ (by show (n0 + 5 : Nat) ≠ n0 + 6; omega) (Heap.get?_push_of_some _ (by rw [← hH2, ← hsz]; exact Heap.get?_push_size _ rfl))
  have hst1 : ZSt n0 l1 l2 xs ys 0 h₁ := W.frame 0 _ _ hst0 fun b hb o e => old b o (by rw [← hsz]; exact Heap.lt_size e) e
  have ne56 : (n0 + 5 : Nat) ≠ n0 + 6 := by omega
  have up : ∀ (a b c : Nat), a < b → b + c ≠ a := fun a b c h => by omega
  have up' : ∀ (a b c : Nat), a < b → a ≠ b + c := fun a b c h => by omega
  have upl : ∀ (a b c : Nat), a < b → a < b + c := fun a b c h => by omega
  have keepFN : ∀ h : Heap, (∀ (b : Nat) o, b < n0 → s₁.heap.get? b = some o → h.get? b = some o) → Fr h₀ env.locals h m ∧ News h₀ env.locals h news := fun h k =>
    ⟨⟨F.ns.at' fun o e => k _ o hL0 e, fun b o e => k b o (Nat.lt_of_lt_of_le (Heap.lt_size e) hh0) (F.keep b o e), F.above⟩, fun p hp => ⟨k _ _ (hlt p hp) (N p hp).1, (N p hp).2⟩⟩
  have fresh₀ : ∀ a : Nat, n0 ≤ a → h₀.get? a = none := fun a ha => Heap.get?_none_of_le (Nat.le_trans hh0 ha)
  have wrne : ∀ b : Nat, b < n0 ∨ b = n0 + 5 ∨ b = n0 + 6 → b ∉ [n0 + 4, n0 + 3, n0, n0 + 1] := by
    intro b hb hm
    simp only [List.mem_cons, List.not_mem_nil, or_false] at hm
    omega
  have fpne : ∀ b : Nat, b ∈ [n0 + 4, n0 + 2, n0 + 3, n0, n0 + 1, l1, l2] → b ≠ n0 + 5 ∧ b ≠ n0 + 6 := by
    intro b hm
    simp only [List.mem_cons, List.not_mem_nil, or_false] at hm
    omega
  have loop : ∀ s₃ : Shared, s₃ = { s₁ with heap := h₁, toks := s₁.toks + ([] : List (Str × Value)).length } →
      codeAny (model PySem.Challenge.rw_xg0025_01.row.prog w) A (.compLoop (.ListComp elt [⟨.Tuple [.Name x px, .Name x₂ px₂] tk tp, iter, [], 0⟩] scope pos) 0 (.ref (n0 + 4 : Nat)) (.ref (n0 + 5 : Nat)) (compEnvC scope cl (n0 + 6 : Nat) env))
        (compPost (model PySem.Challenge.rw_xg0025_01.row.prog w) A E (some (assign (.Name y py) env)) (fun _ s' => Q .next s') (.ref (n0 + 5 : Nat)) (n0 + 6 : Nat)) s₃ := by
    rintro s₃ rfl
    refine loop_pair9
      (fun k s' => ∃ h' tk i zs m', s' = { s₁ with heap := h', toks := tk } ∧ i ≤ (List.zipWith f as bs).length ∧ k = (List.zipWith f as bs).length + 1 - i ∧ zs.length = i ∧ ZSt n0 l1 l2 xs ys i h' ∧ (∀ (b : Nat) o, b < n0 → s₁.heap.get? b = some o → h'.get? b = some o) ∧
        h'.Ns (n0 + 6 : Nat) m' ∧ h'.get? (n0 + 5 : Nat) = some (lst zs) ∧ IntsAre zs ((List.zipWith f as bs).take i)) ?_ ((List.zipWith f as bs).length + 1)
      ⟨h₁, _, 0, [], _, rfl, Nat.zero_le _, rfl, rfl, hst1, fun b o hb e => old b o (Nat.lt_of_lt_of_le hb (Nat.le_add_right _ _)) e, hns₁, hacc, .nil⟩
    rintro k s' JZ EZ ⟨h', tk, i, zs, m', rfl, hi, rfl, hzl, hst', hk', hn', hD', hzs⟩ hJZ
    by_cases hlt' : i < (List.zipWith f as bs).length
    · refine W.item i _ _ _ hlt' hst' fun T vals h2 tk2 hP hT hMid hk2 => ?_
      obtain ⟨vx, vy, hvx, hvy, rfl⟩ := hP
      obtain ⟨a, ta, rfl, hai⟩ := ints_at hxa (by simpa using hvx)
      obtain ⟨b, tb, rfl, hbi⟩ := ints_at hyb (by simpa using hvy)
      have hTw := W.apart i T h2 hMid
      refine W.go _ _ _ i T _ _ _ hMid fun h3 hst3 hk3 => ?_
      have hT3 : IsTup h3 T #[.int a ta, .int b tb] := hT.at fun o e => hk3 T o hTw e
      refine assign_Tuple_tuple hh hT3 rfl rfl fun h5 he => ?_
      have he' : ∀ b o, h3.get? b = some o → h5.get? b = some o := fun b o e => he b o (Nat.ne_of_lt (Heap.lt_size e)) e
      have hn3 : h3.Ns (n0 + 6 : Nat) m' := (hn'.at' fun o e => hk2 _ o (wrne _ (.inr (.inr rfl))) e).at' fun o e => hk3 _ o (wrne _ (.inr (.inr rfl))) e
      refine assignInOrder_cons (wpAny_assign_Name (wpAny_storeName_local (lookup_relabel_local hx) (hn3.at' fun o e => he' _ o e) (fun h₆ hn₆ hs₆ => ?_) (by simp [compEnvC, relabel, hkind])))
      refine assignInOrder_cons (wpAny_assign_Name (wpAny_storeName_local (lookup_relabel_local hx₂) hn₆ (fun h₇ hn₇ hs₇ => ?_) (by simp [compEnvC, relabel, hkind])))
      refine assignInOrder_nil ?_
      have k7 : ∀ (b : Nat) o, b ≠ n0 + 6 → h3.get? b = some o → h₇.get? b = some o := fun b o hb e => hs₇.extBut b o hb (hs₆.extBut b o hb (he' b o e))
      have k27 : ∀ (b : Nat) o, b < n0 ∨ b = n0 + 5 → h'.get? b = some o → h₇.get? b = some o := fun b o hb e => by
        have hw : b < n0 ∨ b = n0 + 5 ∨ b = n0 + 6 := by omega
        exact k7 b o (by omega) (hk3 b o (wrne b hw) (hk2 b o (wrne b hw) e))
      have hst7 : ZSt n0 l1 l2 xs ys (i + 1) h₇ := W.frame (i + 1) _ _ hst3 fun b hb o e => k7 b o (fpne b hb).2 e
      have hk7 : ∀ (b : Nat) o, b < n0 → s₁.heap.get? b = some o → h₇.get? b = some o := fun b o hb e => k27 b o (.inl hb) (hk' b o hb e)
      have hD7 := k27 _ _ (.inr rfl) hD'
      obtain ⟨oC, heC, hoC⟩ := ns_obj hn₇
      obtain ⟨F7, N7⟩ := keepFN h₇ hk7
      have N7' : News h₀ env.locals h₇ (((n0 + 6 : Nat), oC) :: news) := fun p hp => by
        rcases List.mem_cons.mp hp with rfl | hp
        · exact ⟨heC, up _ _ 6 hL0, fresh₀ _ (by omega)⟩
        · exact N7 p hp
      refine wpAny_mono (helt (n0 + 6 : Nat) oC i a b ta tb _ ⟨h₇, _, _, _, _⟩ _ hai hbi hoC (by simp [hxx]) (by simp) F7 N7' (fun p hp => upl _ _ 6 (hlt p hp))) (fun v s₄ h₄ => ?_) fun _ _ e => e
      obtain ⟨⟨tv, rfl⟩, h8, tk8, rfl, hk8⟩ := h₄
      have hst8 : ZSt n0 l1 l2 xs ys (i + 1) h8 := W.frame (i + 1) _ _ hst7 fun b _ o e => hk8 b o e
      refine append_at (hsz := by
        show zs.toArray.size ≤ sizeLine
        rw [List.size_toArray, hzl, sizeLine_eq]
        rw [List.length_zipWith] at hlt'
        omega) (hk8 _ _ hD7) fun h9 hs9 hD9 => ?_
      · have k9 : ∀ (b : Nat) o, b ≠ n0 + 5 → h8.get? b = some o → h9.get? b = some o := fun b o hb e => hs9.extBut b o hb e
        refine hJZ ((List.zipWith f as bs).length + 1 - (i + 1)) _ (by omega) ⟨h9, tk8, i + 1, zs ++ [.int (f a b) tv], _, rfl, hlt', rfl, by rw [List.length_append, List.length_singleton, hzl], W.frame (i + 1) _ _ hst8 fun b hb o e => k9 b o (fpne b hb).1 e,
          fun b o hb e => k9 b o (by omega) (hk8 b o (hk7 b o hb e)), ((hn₇.keeps hk8).at' fun o e => k9 _ o (Ne.symm ne56) e), hD9.trans (congrArg some (lst_snoc zs _)), ?_⟩
        rw [List.take_add_one, List.getElem?_zipWith, hai, hbi]
        exact ints_app hzs (.cons _ _ .nil)
    · obtain rfl : i = (List.zipWith f as bs).length := Nat.le_antisymm hi (Nat.not_lt.mp hlt')
      rw [List.take_length] at hzs
      refine W.done _ _ _ hst' fun h2 tk2 hk2 => ?_
      have hk2' : ∀ (b : Nat) o, b < n0 → s₁.heap.get? b = some o → h2.get? b = some o := fun b o hb e => hk2 b o (wrne b (.inl hb)) (hk' b o hb e)
      obtain ⟨F2, N2⟩ := keepFN h2 hk2'
      show wpAny _ A (assign (.Name y py) env (.ref (n0 + 5 : Nat))) _ _ _
      refine wpAny_assign_Name (wpAny_storeName_local hy F2.ns (fun h4 hn4 hs4 => ?_) hp)
      have hLne : (n0 + 5 : Nat) ≠ env.locals := up _ _ 5 hL0
      have hLne6 : (n0 + 6 : Nat) ≠ env.locals := up _ _ 6 hL0
      have hL₀ : h₀.get? env.locals = none := Heap.get?_none_of_le F.above
      have F4 : Fr h₀ env.locals h4 (fun z => if z = y then some (.ref (n0 + 5 : Nat)) else m z) := ⟨hn4, fun b o e => hs4.extBut b o (fun q => by rw [q, hL₀] at e; cases e) (F2.keep b o e), F2.above⟩
      refine ⟨m', (hn'.at' fun o e => hk2 _ o (wrne _ (.inr (.inr rfl))) e).sameBut hs4 hLne6, fun h5 hs5 => ?_⟩
      refine hq (n0 + 5 : Nat) zs h5 _ (F4.change hs5 hLne6 (fresh₀ _ (by omega))) (fun p hp => ?_) (fun p hp => upl _ _ 5 (hlt p hp)) hzs
      rcases List.mem_cons.mp hp with rfl | hp
      · exact ⟨hs5.extBut _ _ ne56 (hs4.extBut _ _ hLne (hk2 _ _ (wrne _ (.inr (.inl rfl))) hD')), hLne, fresh₀ _ (by omega)⟩
      · refine ⟨hs5.extBut _ _ (up' _ _ 6 (hlt p hp)) (hs4.extBut _ _ (N2 p hp).2.1 (N2 p hp).1), (N2 p hp).2⟩
  exact codeAny_compStart_list (loop _ rfl) (W.self 0 _ _ _ hst1 (loop _ rfl))
end
section
variable {w : World} {A : Around} {E : Value → Shared → Prop} {s : Shared} {h₀ : Heap} {L : Addr} {m : Str → Option Value} {env : Env}
open LCg
/-- the source of a comprehension over a dict's keys -/
def LDSrc (w : World) (A : Around) (h₀ : Heap) (L : Addr) (m : Str → Option Value) (env : Env) (elt : PySem.Expr) (x : Str) (scope : Scope) (cl : List (Str × Addr)) (Q : Value → Shared → Prop) (xv : Value) (s₁ : Shared) : Prop :=
  ∃ (d : Addr) (od : Obj) (kvs : List (Int × Value)) (news : List (Addr × Obj)), xv = .ref d ∧ A.handled = none ∧ Fr h₀ L s₁.heap m ∧ News h₀ L s₁.heap news ∧ (d, od) ∈ news ∧ od.IsDictOf (iK w) kvs ∧ (d == sysModules) = false ∧ kvs.length ≤ sizeLine ∧
    ∀ s₂ : Shared, (∃ h, s₂ = { s₁ with heap := h }) → CompRest PySem.Challenge.rw_xg0025_01.row.prog w A h₀ L m env elt x scope cl s₂ (fun nw => (d, od) ∈ nw) (fun i v => ∃ k y, kvs[i]? = some (k, y) ∧ (iK w).is k v = true) (FinE h₀ L m s₂ Q) kvs.length 0 [] news
theorem ListComp_D {elt iter : PySem.Expr} {x : Str} {px : Pos} {scope : Scope} {cl : List (Str × Addr)} {pos : Pos} {Q : Value → Shared → Prop} (F₀ : Fr h₀ L s.heap m)
    (hclos : closureFor scope env = pure cl) (hcell : ∀ y ∈ scope.names, y.2 ≠ .cell) (hkind : scope.kind = .function)
    (hnames : ∀ y ∈ scope.names, y.2 = .local → scope.names.lookup y.1 = some .local) (hx : scope.names.lookup x = some .local)
    (h : wpAny (model PySem.Challenge.rw_xg0025_01.row.prog w) A (eval iter env) (LDSrc w A h₀ L m env elt x scope cl Q) E s)
    (hs : ∀ x, foldedSetIterable iter env x = pure x := by intro _; rfl) :
    wpAny (model PySem.Challenge.rw_xg0025_01.row.prog w) A (eval (.ListComp elt [⟨.Name x px, iter, [], 0⟩] scope pos) env) Q E s := by
  rw [eval_ListComp]
  refine wpAny_comprehension_free (use := none) rfl hs hclos hkind hnames (wpAny_mono h (fun xv s₁ h₁ => ?_) fun _ _ e => e)
  obtain ⟨d, od, kvs, news, rfl, hh, F, N, hm, hd, hsm, hsz, R⟩ := h₁
  obtain ⟨ep, hat⟩ := (kda_dict N hm hd).dictAt
  have hg := (N _ hm).1
  have hne : d ≠ s₁.heap.objs.size := Nat.ne_of_lt hat.lt_size
  refine wpAny_pyIter_dict hsm hat ?_
  generalize hit : ({ cls := .type "dict_keyiterator", data := .fields #[.ref d, .int 0 0, .int kvs.length 0, .int ep 0] } : Obj) = oit
  have up : ∀ b o, s₁.heap.get? b = some o → (s₁.heap.push oit).get? b = some o := fun b o e => Heap.get?_push_of_some _ e
  refine block_U (S := fun nw => (d, od) ∈ nw) (Walks.dictKeys (knd := iK w) hh s₁.heap.objs.size d hne kvs ep) hsz (fun i h st => by obtain ⟨o, e, _⟩ := st.1; exact ⟨o, e⟩) ?_ hcell hkind hx ⟨⟨oit, Heap.get?_push_size _ (by subst hit; rfl), by subst hit; rfl, by subst hit; rfl⟩, hat.push _⟩ (fun b hb => ?_)
    (F.keeps up) (N.grown up) (Nat.ne_of_lt F.ns.lt) (next_is_new F) (fun p hp => Nat.ne_of_lt (Heap.lt_size (N p hp).1)) hm (R _ ⟨_, rfl⟩) ?_
  · intro i h h' o nw st e e' _ N' S
    refine ⟨?_, hat.at' fun o2 e2 => ?_⟩
    · obtain ⟨o', q, r⟩ := st.1
      rw [e] at q; cases q
      exact ⟨o, e', r⟩
    · rw [hg] at e2; cases e2
      exact (N' _ S).1
  · show b < (s₁.heap.push _).objs.size
    rw [Heap.size_push]
    rcases List.mem_cons.mp hb with rfl | hb
    · exact Nat.lt_succ_self _
    · rw [List.mem_singleton.mp hb]; exact Nat.lt_succ_of_lt hat.lt_size
  · intro D C h tk m' ys news' F' N' o1 hn hC₀ hD₀ hCL hDL hCD offC fin
    refine ⟨m', hn, fun h'' hs'' => fin D h'' tk (F'.change hs'' hCL hC₀) (fun p hp => ?_) o1⟩
    refine ⟨hs''.extBut _ _ ?_ (N' p hp).1, (N' p hp).2⟩
    rcases List.mem_cons.mp hp with rfl | hp
    · exact Ne.symm hCD
    · exact offC p hp
end
end
section
section
variable {prog : Program} {w : World} {A : Around} {E : Value → Shared → Prop} {s : Shared} {h₀ : Heap} {L : Addr} {m : Str → Option Value} {env : Env}
open LCg
theorem newEnv_laid {M : Model} {scope : Scope} {cl : List (Str × Addr)} {Q : Env → Shared → Prop}
    (hQ : Q { scope := scope, locals := s.heap.objs.size, globals := env.globals, cells := cellsFrom (s.heap.objs.size + 1) scope.names cl, qual := env.qual, func := none, code := env.code, frame := env.frame, builtins := env.builtins } { s with heap := pushCells (s.heap.push { cls := .type "dict", data := .dict #[] }) scope.names }) :
    wpAny M A (newFunctionEnv scope env.globals cl [] env.qual none .none (some env)) Q E s := by
  simp only [newFunctionEnv, Option.isSome_some, if_true]
  refine wpAny_bind (wpAny_alloc ?_)
  refine wpAny_bind (wpAny_layCells _ (fun name kind cells => by cases hkc : kind == NameKind.cell <;> simp [hkc]) _ _ _ _ ?_)
  rw [show ({ s with heap := s.heap.push { cls := .type "dict", data := .dict #[] } } : Shared).heap.objs.size = s.heap.objs.size + 1 from Heap.size_push ..]
  refine wpAny_bind ?_
  rw [List.forIn_nil]
  exact wpAny_pure (wpAny_pure hQ)
/-- off a comprehension's four own things -/
def Off4 (K I C D : Addr) (nw : List (Addr × Obj)) : Prop := ∀ p ∈ nw, p.1 ≠ K ∧ p.1 ≠ I ∧ p.1 ≠ C ∧ p.1 ≠ D
def CEndC (h₀ : Heap) (L : Addr) (m : Str → Option Value) (s₁ : Shared) (K : Addr) (oK : Obj) (I : Addr) (oI : Obj) (C : Addr) (oC : Obj) (D : Addr) (oD : Obj) (rest : Value → List (Addr × Obj) → Prop) (y : Value) (s₂ : Shared) : Prop :=
  ∃ h' tk news', s₂ = { s₁ with heap := h', toks := tk } ∧ Fr h₀ L h' m ∧ News h₀ L h' ((K, oK) :: (I, oI) :: (C, oC) :: (D, oD) :: news') ∧ Off4 K I C D news' ∧ rest y news'
/-- the kit's loop of a comprehension, the ends of a turn out of sight -/
theorem loop_tests9 {elt target iter : PySem.Expr} {ifs : List PySem.Expr} {scope : Scope} {pos : Pos} {it acc : Value} {env : Env} {R : Result → Shared → Prop} {s : Shared} (I : Nat → Shared → Prop)
    (turn : ∀ n s (J : Shared → Prop) (E' : Value → Shared → Prop), I n s → (∀ m s', m < n → I m s' → J s') → wpAny (model prog w) A (pyNext it) (fun r s₁ => match r with
      | none => R (.ok .next) s₁
      | some v => wpAny (model prog w) A (assign target env v) (fun _ s₂ =>
          wpAny (model prog w) A (forIn ifs true fun c r => if r = true then do let ok ← isTrue c env (eval c env); pure (ForInStep.yield ok) else pure (ForInStep.yield r)) (fun ok s₃ =>
            if ok = true then wpAny (model prog w) A (eval elt env) (fun x s₄ =>
              wpAny (model prog w) A (call (.builtin "list.append") [acc, x]) (fun _ s₅ => J s₅) E' s₄) E' s₃
            else J s₃) E' s₂) E' s₁) E' s)
    (n : Nat) (h : I n s) (ht : ∀ v, letOwnedTupleGo target it v = pure () := by intro _; rfl) : codeAny (model prog w) A (.compLoop (.ListComp elt [⟨target, iter, ifs, 0⟩] scope pos) 0 it acc env) R s :=
  codeAny_compLoop_tests I (fun n s hI => turn n s (fun s₅ => ∃ m, m < n ∧ I m s₅) _ hI fun m _ h1 h2 => ⟨m, h1, h2⟩) n h ht
/-- where a comprehension stands whose variable lies in a cell -/
theorem block_C {elt iter : PySem.Expr} {x : Str} {px : Pos} {scope : Scope} {cl : List (Str × Addr)} {pos : Pos} {s₂ : Shared} {I : Addr} {fp : List Addr} {n : Nat} {P : Nat → Value → Prop} {St : Nat → Heap → Prop} {news : List (Addr × Obj)}
    {RR : Value → Addr → Result → Shared → Prop} (J : Nat → List Value → List (Addr × Obj) → Prop)
    (W : Walks prog w A I fp [I] n P St) (hsz : n ≤ sizeLine) (hIo : ∀ i h, St i h → ∃ o, h.get? I = some o)
    (hSt : ∀ i j ys h h' o nw, St i h → h.get? I = some o → h'.get? I = some o → (∀ b o, h₀.get? b = some o → h'.get? b = some o) → News h₀ L h' nw → J j ys nw → St i h')
    (hkind : scope.kind = .function) (hcf : ∀ n, cellsFrom n scope.names cl = (x, n) :: cl) (hpc : ∀ h, pushCells h scope.names = h.push { cls := .type "cell", data := .cell none }) (hx : (relabel scope env).names.lookup x = some .cell)
    (hst : St 0 s₂.heap) (hfp : ∀ b ∈ fp, b < s₂.heap.objs.size)
    (F : Fr h₀ L s₂.heap m) (N : News h₀ L s₂.heap news) (hIL : L ≠ I) (hI₀ : h₀.get? I = none) (off : ∀ p ∈ news, p.1 ≠ I) (hJ : J 0 [] news)
    (turn : ∀ i ys nw v K oK I oI C oC D h tk (E' : Value → Shared → Prop), i < n → P i v → J i ys nw → oK.data = .cell (some v) → Fr h₀ L h m → News h₀ L h ((K, oK) :: (I, oI) :: (C, oC) :: (D, lst ys) :: nw) → Off4 K I C D nw →
      wpAny (model prog w) A (eval elt (compEnvC scope ((x, K) :: cl) C env)) (CEndC h₀ L m { s₂ with heap := h, toks := tk } K oK I oI C oC D (lst ys) (fun y nw' => J (i + 1) (ys ++ [y]) nw')) E' { s₂ with heap := h, toks := tk })
    (hRR : ∀ D C h tk m' ys news', Fr h₀ L h m → News h₀ L h ((D, lst ys) :: news') → h.Ns C m' → h₀.get? C = none → h₀.get? D = none → C ≠ L → D ≠ L → C ≠ D → (∀ p ∈ news', p.1 ≠ C) → (∀ p ∈ news', p.1 ≠ D) → J n ys news' → RR (.ref D) C (.ok .next) { s₂ with heap := h, toks := tk }) :
    wpAny (model prog w) A (newList []) (fun acc s₃ => wpAny (model prog w) A (newFunctionEnv scope env.globals cl [] env.qual none .none (some env)) (fun cenv s₄ =>
      codeAny (model prog w) A (.compStart (.ListComp elt [⟨.Name x px, iter, [], 0⟩] scope pos) 0 (.ref I) acc { cenv with scope := relabel scope env }) (RR acc cenv.locals) s₄) E s₃) E s₂ := by
  refine wpAny_newObj_type (newEnv_laid ?_)
  rw [hcf, hpc]
  dsimp only
  generalize hH2 : s₂.heap.push { cls := .type "list", dict := none, data := .seq ([] : List Value).toArray } = H2
  have hC : H2.objs.size = s₂.heap.objs.size + 1 := by rw [← hH2, Heap.size_push]
  generalize hH3 : H2.push { cls := .type "dict", data := .dict #[] } = H3
  have hC3 : H3.objs.size = s₂.heap.objs.size + 2 := by rw [← hH3, Heap.size_push, hC]
  generalize hH4 : H3.push { cls := .type "cell", data := .cell none } = h₁
  have hDC : s₂.heap.objs.size ≠ H2.objs.size := by rw [hC]; exact Nat.ne_of_lt (Nat.lt_succ_self _)
  obtain ⟨K, hK⟩ : ∃ K : Addr, K = H2.objs.size + 1 := ⟨_, rfl⟩
  rw [← hK]
  have hK3 : H3.objs.size = K := by rw [hC3, hK, hC]
  have hDK : s₂.heap.objs.size ≠ K := by rw [hK, hC]; exact Nat.ne_of_lt (Nat.lt_succ_of_lt (Nat.lt_succ_self _))
  have hCK : H2.objs.size ≠ K := by rw [hK]; exact Nat.ne_of_lt (Nat.lt_succ_self _)
  have below : ∀ b, b < s₂.heap.objs.size → b ≠ H2.objs.size ∧ b ≠ s₂.heap.objs.size ∧ b ≠ K := fun b hb => ⟨by rw [hC]; exact Nat.ne_of_lt (Nat.lt_succ_of_lt hb), Nat.ne_of_lt hb, by rw [hK, hC]; exact Nat.ne_of_lt (Nat.lt_succ_of_lt (Nat.lt_succ_of_lt hb))⟩
  have hDf : s₂.heap.objs.size ∉ fp := fun hm => Nat.lt_irrefl _ (hfp _ hm)
  have hCf : H2.objs.size ∉ fp := fun hm => (below _ (hfp _ hm)).1 rfl
  have hKf : K ∉ fp := fun hm => (below _ (hfp _ hm)).2.2 rfl
  have hIf : I ∈ fp := W.sub I (List.mem_singleton.mpr rfl)
  have hIlt : I < s₂.heap.objs.size := hfp I hIf
  have old : ∀ b o, s₂.heap.get? b = some o → h₁.get? b = some o := fun b o e => hH4 ▸ Heap.get?_push_of_some _ (hH3 ▸ Heap.get?_push_of_some _ (hH2 ▸ Heap.get?_push_of_some _ e))
  have hacc : h₁.get? s₂.heap.objs.size = some (lst []) := hH4 ▸ Heap.get?_push_of_some _ (hH3 ▸ Heap.get?_push_of_some _ (hH2 ▸ Heap.get?_push_size _ rfl))
  have hst₁ : St 0 h₁ := W.frame _ _ _ hst fun b _ o e => old b o e
  have fresh₀ : ∀ a, s₂.heap.objs.size ≤ a → h₀.get? a = none := fun a ha => by
    cases e : h₀.get? a with
    | none => rfl
    | some o' => exact absurd (Heap.lt_size (F.keep a o' e)) (Nat.not_lt.mpr ha)
  have hD₀ : h₀.get? s₂.heap.objs.size = none := fresh₀ _ (Nat.le_refl _)
  have hC₀ : h₀.get? H2.objs.size = none := fresh₀ _ (by rw [hC]; exact Nat.le_succ _)
  have hK₀ : h₀.get? K = none := fresh₀ _ (by rw [hK, hC]; exact Nat.le_succ_of_le (Nat.le_succ _))
  have hLlt : L < s₂.heap.objs.size := F.ns.lt
  have hDL : s₂.heap.objs.size ≠ L := Ne.symm (below L hLlt).2.1
  have hCL : H2.objs.size ≠ L := Ne.symm (below L hLlt).1
  have hKL : K ≠ L := Ne.symm (below L hLlt).2.2
  have hCI : I ≠ H2.objs.size := (below I hIlt).1
  have hDI : I ≠ s₂.heap.objs.size := (below I hIlt).2.1
  have hKI : I ≠ K := (below I hIlt).2.2
  have hns₁ : ∃ m', h₁.Ns H2.objs.size m' := ⟨_, (hH3 ▸ Heap.Ns.new H2 (.type "dict") : H3.Ns H2.objs.size _).keeps fun b o e => hH4 ▸ Heap.get?_push_of_some _ e⟩
  obtain ⟨m₁, hns₁⟩ := hns₁
  have hck₁ : h₁.IsCell K none := ⟨_, hK3 ▸ hH4 ▸ Heap.get?_push_size _ rfl, rfl⟩
  have loop : ∀ s₃ : Shared, s₃ = { s₂ with heap := h₁ } →
      codeAny (model prog w) A (.compLoop (.ListComp elt [⟨.Name x px, iter, [], 0⟩] scope pos) 0 (.ref I) (.ref s₂.heap.objs.size) (compEnvC scope ((x, K) :: cl) H2.objs.size env))
        (RR (.ref s₂.heap.objs.size) H2.objs.size) s₃ := by
    rintro s₃ rfl
    refine loop_tests9
      (fun k s' => ∃ h' tk i ys m' vo news', s' = { s₂ with heap := h', toks := tk } ∧ i ≤ n ∧ k = n + 1 - i ∧ ys.length = i ∧ St i h' ∧ Fr h₀ L h' m ∧ h'.Ns H2.objs.size m' ∧ h'.IsCell K vo ∧ News h₀ L h' ((s₂.heap.objs.size, lst ys) :: news') ∧
        Off4 K I H2.objs.size s₂.heap.objs.size news' ∧ J i ys news') ?_ (n + 1)
      ⟨h₁, _, 0, [], m₁, none, news, rfl, Nat.zero_le _, rfl, rfl, hst₁, F.keeps old, hns₁, hck₁, fun p hp => ?_, fun p hp => ?_, hJ⟩
    · rintro k s' JZ EZ ⟨h', tk, i, ys, m', vo, news', rfl, hi, rfl, hyl, hst', F', hn', hck, N', off', J'⟩ hJZ
      by_cases hlt : i < n
      · refine W.item i _ _ _ hlt hst' fun v h₂ tk₂ hPv hst₂ hk₂ => ?_
        refine wpAny_assign_Name (wpAny_storeName_cell (by simp [compEnvC, relabel, hkind]) hx (by simp [compEnvC]) (let ⟨o, e, d⟩ := hck; ⟨o, hk₂ _ o (by simpa using Ne.symm hKI) e, d⟩) (fun h₃ hc₃ hs₃ => ?_))
        refine wpAny_tests_nil ?_
        simp only [if_true]
        have hst₃ : St (i + 1) h₃ := W.frame _ _ _ hst₂ fun b hb o e => hs₃.extBut b o (fun q => hKf (by have q' : b = K := q; rw [← q']; exact hb)) e
        obtain ⟨oI, heI⟩ := hIo _ _ hst₃
        obtain ⟨oK, heK, hoK⟩ := hc₃
        have hn₃ : h₃.Ns H2.objs.size m' := (hn'.at' fun o e => hk₂ _ o (by simpa using Ne.symm hCI) e).at' fun o e => hs₃.extBut _ o hCK e
        obtain ⟨oC, heC, hoC⟩ := ns_obj hn₃
        have F₃ : Fr h₀ L h₃ m := (fr_but F' hk₂ hIL hI₀).change hs₃ hKL hK₀
        have N₂ : News h₀ L h₂ ((s₂.heap.objs.size, lst ys) :: news') := news_but N' hk₂ fun p hp => by
          rcases List.mem_cons.mp hp with rfl | hp
          · exact Ne.symm hDI
          · exact (off' p hp).2.1
        have N₃ : News h₀ L h₃ ((K, oK) :: (I, oI) :: (H2.objs.size, oC) :: (s₂.heap.objs.size, lst ys) :: news') := fun p hp => by
          rcases List.mem_cons.mp hp with rfl | hp
          · exact ⟨heK, hKL, hK₀⟩
          · rcases List.mem_cons.mp hp with rfl | hp
            · exact ⟨heI, Ne.symm hIL, hI₀⟩
            · rcases List.mem_cons.mp hp with rfl | hp
              · exact ⟨heC, hCL, hC₀⟩
              · have z := N₂ p hp
                refine ⟨hs₃.extBut _ _ ?_ z.1, z.2⟩
                rcases List.mem_cons.mp hp with rfl | hp
                · exact hDK
                · exact (off' p hp).1
        refine wpAny_mono (turn i ys news' v K oK I oI H2.objs.size oC s₂.heap.objs.size h₃ _ _ hlt hPv J' hoK F₃ N₃ off') (fun y s₄ h₄ => ?_) fun _ _ e => e
        obtain ⟨h₄, tk₄, news₄, rfl, F₄, N₄, off₄, J₄⟩ := h₄
        have zK := (N₄ (K, oK) (.head _)).1
        have zI := (N₄ (I, oI) (.tail _ (.head _))).1
        have zC := (N₄ (H2.objs.size, oC) (.tail _ (.tail _ (.head _)))).1
        have zD := (N₄ (s₂.heap.objs.size, lst ys) (.tail _ (.tail _ (.tail _ (.head _))))).1
        have N₄' : News h₀ L h₄ news₄ := fun p hp => N₄ p (.tail _ (.tail _ (.tail _ (.tail _ hp))))
        have hst₄ : St (i + 1) h₄ := hSt _ _ _ _ _ _ _ hst₃ heI zI F₄.keep N₄' J₄
        refine append_at (hsz := by show ys.toArray.size ≤ sizeLine; rw [List.size_toArray, hyl]; exact Nat.le_trans hi hsz) zD fun h₅ hs₅ hD₅ => ?_
        refine hJZ (n + 1 - (i + 1)) _ (by omega) ⟨h₅, tk₄, i + 1, ys ++ [y], m', some v, news₄, rfl, hlt, rfl, by rw [List.length_append, List.length_singleton, hyl], W.frame _ _ _ hst₄ fun b hb o e => hs₅.extBut b o (fun q => hDf (q ▸ hb)) e, F₄.change hs₅ hDL hD₀,
          (hoC.ns zC).sameBut hs₅ (Ne.symm hDC), ⟨oK, hs₅.extBut _ _ (Ne.symm hDK) zK, hoK⟩, fun p hp => ?_, off₄, J₄⟩
        rcases List.mem_cons.mp hp with rfl | hp
        · exact ⟨hD₅.trans (congrArg some (lst_snoc ys y)), hDL, hD₀⟩
        · exact ⟨hs₅.extBut _ _ (off₄ p hp).2.2.2 (N₄' p hp).1, (N₄' p hp).2⟩
      · obtain rfl : i = n := Nat.le_antisymm hi (Nat.not_lt.mp hlt)
        refine W.done _ _ _ hst' fun h₂ tk₂ hk₂ => ?_
        exact hRR _ _ h₂ tk₂ _ ys news' (fr_but F' hk₂ hIL hI₀) (news_but N' hk₂ fun p hp => by
          rcases List.mem_cons.mp hp with rfl | hp
          · exact Ne.symm hDI
          · exact (off' p hp).2.1) (hn'.at' fun o e => hk₂ _ o (by simpa using Ne.symm hCI) e) hC₀ hD₀ hCL hDL (Ne.symm hDC) (fun p hp => (off' p hp).2.2.1) (fun p hp => (off' p hp).2.2.2) J'
    · rcases List.mem_cons.mp hp with rfl | hp
      · exact ⟨hacc, hDL, hD₀⟩
      · exact ⟨old _ _ (N p hp).1, (N p hp).2⟩
    · have hb := below _ (Heap.lt_size (N p hp).1)
      exact ⟨hb.2.2, off p hp, hb.1, hb.2.1⟩
  exact codeAny_compStart_list (loop _ rfl) (W.self 0 _ _ _ hst₁ (loop _ rfl))
/-- the source of a comprehension over a list, whose variable lies in a cell -/
def CSrc (prog : Program) (w : World) (A : Around) (h₀ : Heap) (L : Addr) (m : Str → Option Value) (env : Env) (elt : PySem.Expr) (x : Str) (scope : Scope) (cl : List (Str × Addr)) (Q : Value → Shared → Prop) (xv : Value) (s₁ : Shared) : Prop :=
  ∃ (ax : Addr) (vs : List Value) (k : Nat) (news : List (Addr × Obj)) (J : Nat → List Value → List (Addr × Obj) → Prop), xv = .ref ax ∧ A.handled = none ∧ Fr h₀ L s₁.heap m ∧ News h₀ L s₁.heap news ∧ (ax, W.listOf vs.toArray k) ∈ news ∧ vs.length ≤ sizeLine ∧
    J 0 [] news ∧ (∀ i ys nw, J i ys nw → (ax, W.listOf vs.toArray k) ∈ nw) ∧
    (∀ i ys nw v K oK I oI C oC D h tk (E' : Value → Shared → Prop), vs[i]? = some v → J i ys nw → oK.data = .cell (some v) → Fr h₀ L h m → News h₀ L h ((K, oK) :: (I, oI) :: (C, oC) :: (D, lst ys) :: nw) → Off4 K I C D nw →
      wpAny (model prog w) A (eval elt (compEnvC scope ((x, K) :: cl) C env)) (CEndC h₀ L m { s₁ with heap := h, toks := tk } K oK I oI C oC D (lst ys) (fun y nw' => J (i + 1) (ys ++ [y]) nw')) E' { s₁ with heap := h, toks := tk }) ∧
    (∀ D h tk ys nw, Fr h₀ L h m → News h₀ L h ((D, lst ys) :: nw) → (∀ p ∈ nw, p.1 ≠ D) → J vs.length ys nw → Q (.ref D) { s₁ with heap := h, toks := tk })
theorem ListComp_C {elt iter : PySem.Expr} {x : Str} {px : Pos} {scope : Scope} {cl : List (Str × Addr)} {pos : Pos} {Q : Value → Shared → Prop} (_F₀ : Fr h₀ L s.heap m)
    (hclos : closureFor scope env = pure cl) (hkind : scope.kind = .function) (hnames : ∀ y ∈ scope.names, y.2 = .local → scope.names.lookup y.1 = some .local)
    (hcf : ∀ n, cellsFrom n scope.names cl = (x, n) :: cl) (hpc : ∀ h, pushCells h scope.names = h.push { cls := .type "cell", data := .cell none }) (hx : (relabel scope env).names.lookup x = some .cell)
    (h : wpAny (model prog w) A (eval iter env) (CSrc prog w A h₀ L m env elt x scope cl Q) E s)
    (hs : ∀ x, foldedSetIterable iter env x = pure x := by intro _; rfl) :
    wpAny (model prog w) A (eval (.ListComp elt [⟨.Name x px, iter, [], 0⟩] scope pos) env) Q E s := by
  rw [eval_ListComp]
  refine wpAny_comprehension_free (use := none) rfl hs hclos hkind hnames (wpAny_mono h (fun xv s₁ h₁ => ?_) fun _ _ e => e)
  obtain ⟨ax, vs, k, news, J, rfl, hh, F, N, hm, hsz, hJ, hJm, turn, done⟩ := h₁
  have hl := listIn N hm
  have hlt : ax < s₁.heap.objs.size := Heap.lt_size (N _ hm).1
  refine wpAny_pyIter_list hl ?_
  have up : ∀ b o, s₁.heap.get? b = some o → (s₁.heap.push { cls := .type "list_iterator", data := .fields #[.ref ax, .int 0 0] }).get? b = some o := fun b o e => Heap.get?_push_of_some _ e
  refine block_C J (Walks.list hh s₁.heap.objs.size ax (Nat.ne_of_lt hlt) vs.toArray) (by rw [List.size_toArray]; exact hsz) (fun i h st => by obtain ⟨o, e, _⟩ := st.1; exact ⟨o, e⟩)
    (fun i j ys h h' o nw st e e' kk N' j' => list_st i h h' o nw st e e' kk N' (.inr ⟨_, hJm _ _ _ j', rfl, _, rfl⟩)) hkind hcf hpc hx ⟨⟨_, Heap.get?_push_size _ rfl, rfl, rfl⟩, hl.push _⟩ (fun b hb => ?_)
    (F.keeps up) (N.grown up) (Nat.ne_of_lt F.ns.lt) (next_is_new F) (fun p hp => Nat.ne_of_lt (Heap.lt_size (N p hp).1)) hJ (fun i ys nw v K oK I oI C oC D h tk E' hi hv hj ho F' N' o4 => turn i ys nw v K oK I oI C oC D h tk E' (by simpa using hv) hj ho F' N' o4) ?_
  · show b < (s₁.heap.push _).objs.size
    rw [Heap.size_push]
    rcases List.mem_cons.mp hb with rfl | hb
    · exact Nat.lt_succ_self _
    · rw [List.mem_singleton.mp hb]; exact Nat.lt_succ_of_lt hlt
  · intro D C h tk m' ys news' F' N' hn hC₀ hD₀ hCL hDL hCD offC offD hj
    refine ⟨m', hn, fun h'' hs'' => done D h'' tk ys news' (F'.change hs'' hCL hC₀) (fun p hp => ?_) offD (by simpa using hj)⟩
    refine ⟨hs''.extBut _ _ ?_ (N' p hp).1, (N' p hp).2⟩
    rcases List.mem_cons.mp hp with rfl | hp
    · exact Ne.symm hCD
    · exact offC p hp
end
end
end
local macro_rules | `(tactic| walk_at "call type:range") => `(tactic| (k_extra "z range"; intro h' tk' t₁' u₁' v₁' hR' F' N' hK'; clear hK'))
local macro_rules | `(tactic| k_all) => `(tactic| assumption)
local macro_rules | `(tactic| kmk_list) => `(tactic| k_extra "z kmk_list")
local macro_rules | `(tactic| is_list) => `(tactic| k_extra "z is_list")
local macro_rules | `(tactic| k_mem) => `(tactic| k_extra "z k_mem")
local macro_rules | `(tactic| ktr_enter) => `(tactic| (k_extra "z enter"; intro g' L' h' tk' cells' FG' F' N' Y' B' X' T' l1; (try k_lt l1); k_cells Y'; (try simp only [List.cons_append, List.nil_append] at N'); (try dsimp only); (try k_fold)))
local macro_rules | `(tactic| walk_at $k) => do if ["setItem ref int"].contains k.getString then `(tactic| (k_extra $(Lean.quote ("z1 " ++ k.getString)); intro h' F' N'; (try k_sweep))) else Lean.Macro.throwUnsupported
local macro_rules | `(tactic| walk_at $k) => do if ["call builtin:list.append"].contains k.getString then `(tactic| (k_extra $(Lean.quote ("z2 " ++ k.getString)); intro h' F' N'; (try simp only [List.push_toArray] at N'); (try k_sweep))) else Lean.Macro.throwUnsupported
local macro_rules | `(tactic| walk_at $k) => do if ["binaryOp Add ref ref", "binaryOp Mult ref int", "subscriptTail"].contains k.getString then `(tactic| (k_extra $(Lean.quote ("z3 " ++ k.getString)); intro D' h' F' N' l1; (try k_sweep))) else Lean.Macro.throwUnsupported
local macro_rules | `(tactic| walk_at $k) => do if ["call builtin:sum"].contains k.getString then `(tactic| (k_extra $(Lean.quote ("z4 " ++ k.getString)); intro h' tk' t' F' N'; (try dsimp only))) else Lean.Macro.throwUnsupported
local macro_rules | `(tactic| walk_at $k) => do if ["subscriptTail"].contains k.getString then `(tactic| (k_extra $(Lean.quote ("z5 " ++ k.getString)); intro h' t' k' F' N'; (try dsimp only))) else Lean.Macro.throwUnsupported
local macro_rules | `(tactic| walk_at $k) => do if ["call builtin:max", "call builtin:min"].contains k.getString then `(tactic| (k_extra $(Lean.quote ("z6 " ++ k.getString)); intro h' tk' t' F' N'; (try k_sweep))) else Lean.Macro.throwUnsupported
local macro_rules | `(tactic| walk_at $k) => do if ["pyIter ref", "getItem ref int", "exec While Compare cons nil", "exec For Name Subscript cons nil", "exec For Name Call cons nil", "exec For Name Name cons nil", "eval ListComp", "exec Assign cons ListComp", "call ref", "CompSrc", "CompSrcT", "SrcLP", "CompEnd", "exec For Tuple Attribute cons nil", "exec For Tuple Name cons nil", "exec For Tuple Call cons nil", "exec For Tuple Subscript cons nil", "subscriptTail", "getMethod ref", "call builtin:dict.values", "exec While Name cons nil", "binaryOp Add bytes bytes", "call builtin:dict.items", "setItem ref int", "compareOp In int ref", "eval DictComp", "subscriptTail Name Name ref int", "subscriptTail Name BinOp ref int", "subscriptTail Subscript", "call builtin:len", "subscriptTail Name Constant ref int", "binaryOp Div int int", "call builtin:round", "subscriptTail Name Slice ref ref", "compareOp NotEq ref ref", "call type:zip", "call type:bytes", "binaryOp Mult bytes int", "eval IfExp", "compareOp NotEq bytes bytes", "compareOp NotEq int int", "call builtin:list.append", "compareOp Eq ref ref"].contains k.getString then `(tactic| k_extra $(Lean.quote ("z0 " ++ k.getString))) else Lean.Macro.throwUnsupported
local macro_rules | `(tactic| walk_at $k) => do if ["exec For Name Call cons nil", "exec For Name Name cons nil"].contains k.getString then `(tactic| (k_extra $(Lean.quote ("z turns " ++ k.getString)); (rename Fr _ _ _ _ => lF'); with_unfolding_all (refine' For_turns lF' ?_))) else Lean.Macro.throwUnsupported
section
theorem said1 : True := by
  k_with_none
  k_with "z0 pyIter ref" => (((with_reducible show wpAny _ _ (pyIter (Value.ref _)) (fun it s₂ => LoopAtV _ _ _ _ _ _ _ _ _ it s₂) _ _); refine Hold.mk ?_))
  k_with "z range" => ((with_unfolding_all refine' range1_rows ?kF ?kN ?_); (case kF => k_asm); (case kN => k_asm))
  k_with "z0 getItem ref int" => ((k_here; (with_reducible show wpAny _ _ (getItem (Value.ref _) (Value.int (-1) _)) _ _ _); k_dflt (refine' get_last ?k1 ?k2 ?_; (case k1 => k_asm); (case k2 => k_mem); k_whole)))
  k_with "z1 setItem ref int" => ((k_here; (with_reducible show wpAny _ _ (setItem (Value.ref _) (Value.int (-1) _) _) _ _ _); k_dflt (refine' set_last ?k1 ?k2 ?k3 ?_; (case k1 => k_asm); (case k2 => k_asm); (case k3 => k_upd); k_whole)))
  k_with "z2 call builtin:list.append" => ((k_here; (with_reducible show wpAny _ _ (call (Value.builtin _) [Value.ref _, _]) _ _ _); k_dflt (refine' append_K ?k1 ?k2 ?k3 ?_ ?z; (case k1 => k_asm); (case k2 => k_asm); (case k3 => k_upd); (case z => first | assumption | size_fits | (simp only [List.size_toArray, List.length_append, List.length_cons, List.length_nil, sizeLine_eq]; omega)); k_whole)))
  k_with "z0 exec While Compare cons nil" => (((with_reducible show wpAny _ _ (exec (Stmt.While _ _ _ _) _) _ _ _); refine Hold.mk ?_))
  k_with "z kmk_list" => (exact listIn (by k_asm) (by k_mem))
  k_with "z is_list" => (exact listIn (by k_asm) (by k_mem))
  k_with "z k_mem" => (((show _ ∈ (_ : List (Addr × Obj))); with_reducible assumption))
  k_with "z3 subscriptTail" => ((k_here; (with_reducible show wpAny _ _ (subscriptTail _ (PySem.Expr.Slice none none (some _) _) (Value.ref _) (Value.ref _)) _ _ _); k_dflt (refine' rev_list ?F ?N ?l ?k ?z ?_ ?s ?t; (case F => k_asm); (case N => k_asm); (case l => k_mem); (case k => exact IsPart.int _ _); (case s => with_unfolding_all rfl); (case t => kmk_pure); (case z => (simp only [sizeLine_eq]; omega)))))
  k_with "z0 exec For Name Subscript cons nil" => ((with_unfolding_all (refine' my_For ?kF ?k1 ?k2 ?_; (case k1 => exact rfl); (case k2 => exact rfl)); (case kF => k_asm)))
  k_with "z0 exec For Name Call cons nil" => ((with_unfolding_all (refine' my_For ?kF ?k1 ?k2 ?_; (case k1 => exact rfl); (case k2 => exact rfl)); (case kF => k_asm)))
  k_with "z0 exec For Name Name cons nil" => ((with_unfolding_all (refine' my_For ?kF ?k1 ?k2 ?_; (case k1 => exact rfl); (case k2 => exact rfl)); (case kF => k_asm)))
  k_with "z enter" => (refine' code_defC ?k1 ?k2 ?k3 ?k4 ?k5 ?kA ?kF ?kK ?k6 ?k7 ?k8 ?k9 ?kB ?kD ?_ ?c2 ?c3 ?c4; (case kA => exact rfl); (case kF => exact rfl); (case kK => assumption); (case k1 => k_asm); (case k2 => k_asm); (case k3 => k_asm); (case k4 => k_asm); (case k5 => k_asm); (case k6 => k_is); (case k7 => k_is); (case k8 => ktr_room); (case k9 => exact BindsTo.of_eq rfl); (case kB => exact rfl); (case kD => decide +kernel); (case c2 => exact rfl); (case c3 => exact rfl); (case c4 => exact rfl); k_whole)
  k_with "z0 eval ListComp" => (((with_reducible show wpAny _ _ (eval (Expr.ListComp _ _ _ _) _) _ _ _); refine Hold.mk ?_))
  k_with "z0 exec Assign cons ListComp" => (((with_reducible show wpAny _ _ (exec (Stmt.Assign [_] (Expr.ListComp _ _ _ _) _) _) _ _ _); refine Hold.mk ?_))
  trivial
/-- what parse229 asks of a reply that bears n -/
structure Reply (S : Str) (n r : Int) : Prop where
  len : S.length ≤ 100
  head : (Txt.slice S none (some 3) != Str.ofString "229") = false
  left : Txt.find S (Str.ofString "(") = 9
  right : Txt.find3 S (Str.ofString ")") (Txt.find S (Str.ofString "(") + 1) = r
  lo : 15 ≤ r
  hi : r < S.length
  same : (Txt.item S (Txt.find S (Str.ofString "(") + 1) != Txt.item S (Txt.find3 S (Str.ofString ")") (Txt.find S (Str.ofString "(") + 1) - 1)) = false
  parts : ∃ e : Str, Txt.split (Txt.slice S (some (Txt.find S (Str.ofString "(") + 1)) (some (Txt.find3 S (Str.ofString ")") (Txt.find S (Str.ofString "(") + 1)))) (Txt.item S (Txt.find S (Str.ofString "(") + 1)) = [e, e, e, Str.ofString (toString n), e]
theorem parse_does {w : World} (S : Str) (n r : Int) (x y : Int) (hS : Reply S n r) (hn0 : 0 ≤ n) (hn1 : n < 10 ^ 10) :
    Does w 65 5 (fun news vs => ∃ t p tx ty k, vs = [.str S t, .ref p] ∧ (p, pairObj x y tx ty k) ∈ news) (fun news r => ∃ p tx tn k, r = .ref p ∧ (p, pairObj x n tx tn k) ∈ news) := by
  unfold Does
  k_fill
  w_top off
  intro loose mean mg mb dp un gd cn cs a ccd cl outer A₀ base h₀ L m news s vs Q E B F X N T hk hR hd hu hret
  obtain ⟨t, p, tx, ty, k, rfl, hp⟩ := hR
  obtain ⟨hSl, h0, h1, h2, hr0, hr1, h3, e, h4⟩ := hS
  refine wpAny_call ?_
  k_dflt ktr_enter
  k_steps
  · have hl : (_ : List Str) = _ := (by assumption : List.map (fun x : Str × Tok => x.1) _ = Txt.split _ _)
    rw [h4] at hl
    have := congrArg List.length hl
    rw [List.length_map] at this
    simp only [List.length_cons, List.length_nil] at this
    exfalso
    omega
  · rename_i hy
    have hl : (_ : List Str) = _ := (by assumption : List.map (fun x : Str × Tok => x.1) _ = Txt.split _ _)
    rw [h4] at hl
    rw [hl] at hy
    have hy' := Option.some.inj hy
    subst hy'
    refine KIN.call_num hn0 hn1 ?_
    k_steps
    rename_i D _ F9 N9 l1 kF kN _ _
    refine does_ret2 hret [(D, _)] kF kN (fun q hq => .tail _ (.tail _ hq)) (List.forall_mem_singleton.mpr (.head _)) (List.forall_mem_singleton.mpr fun q hq => Nat.ne_of_lt (ktn_ltOf l1.2 q hq)) ⟨D, tx, _, 0, rfl, List.mem_append.mpr (.inr (.head _))⟩
end
section
local macro_rules | `(tactic| omega) => `(tactic| grind)
section
theorem said2 : True := by
  k_with_none
  k_with "z0 pyIter ref" => (((with_reducible show wpAny _ _ (pyIter (Value.ref _)) (fun it s₂ => LoopAtV _ _ _ _ _ _ _ _ _ it s₂) _ _); refine Hold.mk ?_))
  k_with "z range" => ((with_unfolding_all refine' range1_rows ?kF ?kN ?_); (case kF => k_asm); (case kN => k_asm))
  k_with "z0 getItem ref int" => ((k_here; (with_reducible show wpAny _ _ (getItem (Value.ref _) (Value.int (-1) _)) _ _ _); k_dflt (refine' get_last ?k1 ?k2 ?_; (case k1 => k_asm); (case k2 => k_mem); k_whole)))
  k_with "z1 setItem ref int" => ((k_here; (with_reducible show wpAny _ _ (setItem (Value.ref _) (Value.int (-1) _) _) _ _ _); k_dflt (refine' set_last ?k1 ?k2 ?k3 ?_; (case k1 => k_asm); (case k2 => k_asm); (case k3 => k_upd); k_whole)))
  k_with "z2 call builtin:list.append" => ((k_here; (with_reducible show wpAny _ _ (call (Value.builtin _) [Value.ref _, _]) _ _ _); k_dflt (refine' append_K ?k1 ?k2 ?k3 ?_ ?z; (case k1 => k_asm); (case k2 => k_asm); (case k3 => k_upd); (case z => first | assumption | size_fits | (simp only [List.size_toArray, List.length_append, List.length_cons, List.length_nil, sizeLine_eq]; omega)); k_whole)))
  k_with "z0 exec While Compare cons nil" => (((with_reducible show wpAny _ _ (exec (Stmt.While _ _ _ _) _) _ _ _); refine Hold.mk ?_))
  k_with "z kmk_list" => (exact listIn (by k_asm) (by k_mem))
  k_with "z is_list" => (exact listIn (by k_asm) (by k_mem))
  k_with "z k_mem" => (((show _ ∈ (_ : List (Addr × Obj))); with_reducible assumption))
  k_with "z3 subscriptTail" => ((k_here; (with_reducible show wpAny _ _ (subscriptTail _ (PySem.Expr.Slice none none (some _) _) (Value.ref _) (Value.ref _)) _ _ _); k_dflt (refine' rev_list ?F ?N ?l ?k ?z ?_ ?s ?t; (case F => k_asm); (case N => k_asm); (case l => k_mem); (case k => exact IsPart.int _ _); (case s => with_unfolding_all rfl); (case t => kmk_pure); (case z => (simp only [sizeLine_eq]; omega)))))
  k_with "z0 exec For Name Subscript cons nil" => ((with_unfolding_all (refine' my_For ?kF ?k1 ?k2 ?_; (case k1 => exact rfl); (case k2 => exact rfl)); (case kF => k_asm)))
  k_with "z0 exec For Name Call cons nil" => ((with_unfolding_all (refine' my_For ?kF ?k1 ?k2 ?_; (case k1 => exact rfl); (case k2 => exact rfl)); (case kF => k_asm)))
  k_with "z0 exec For Name Name cons nil" => ((with_unfolding_all (refine' my_For ?kF ?k1 ?k2 ?_; (case k1 => exact rfl); (case k2 => exact rfl)); (case kF => k_asm)))
  k_with "z enter" => (refine' code_defC ?k1 ?k2 ?k3 ?k4 ?k5 ?kA ?kF ?kK ?k6 ?k7 ?k8 ?k9 ?kB ?kD ?_ ?c2 ?c3 ?c4; (case kA => exact rfl); (case kF => exact rfl); (case kK => assumption); (case k1 => k_asm); (case k2 => k_asm); (case k3 => k_asm); (case k4 => k_asm); (case k5 => k_asm); (case k6 => k_is); (case k7 => k_is); (case k8 => ktr_room); (case k9 => exact BindsTo.of_eq rfl); (case kB => exact rfl); (case kD => decide +kernel); (case c2 => exact rfl); (case c3 => exact rfl); (case c4 => exact rfl); k_whole)
  k_with "z0 eval ListComp" => (((with_reducible show wpAny _ _ (eval (Expr.ListComp _ _ _ _) _) _ _ _); refine Hold.mk ?_))
  k_with "z0 exec Assign cons ListComp" => (((with_reducible show wpAny _ _ (exec (Stmt.Assign [_] (Expr.ListComp _ _ _ _) _) _) _ _ _); refine Hold.mk ?_))
  trivial
def qstep (h : Int) (row : List Int) (i : Nat) : List Int :=
  if Int.fmod (Int.fdiv (Int.fdiv h 3) (2 ^ i)) 2 = 0 then row.dropLast ++ [row.getLastD 0 + 1] else row ++ [1]
def qrows (h : Int) : Nat → List Int
  | 0 => [1]
  | i + 1 => qstep h (qrows h i) i
theorem qrows_ne (h : Int) : ∀ i, ∃ r b, qrows h i = r ++ [b]
  | 0 => ⟨[], 1, rfl⟩
  | i + 1 => by
    show ∃ r b, qstep h (qrows h i) i = r ++ [b]
    unfold qstep
    split
    · exact ⟨_, _, rfl⟩
    · exact ⟨_, _, rfl⟩
theorem qrows_len (h : Int) : ∀ i, (qrows h i).length ≤ i + 1
  | 0 => Nat.le_refl _
  | i + 1 => by
    obtain ⟨r, b, e⟩ := qrows_ne h i
    have := qrows_len h i
    show (qstep h (qrows h i) i).length ≤ _
    rw [e] at this ⊢
    unfold qstep
    split <;> simp at this ⊢ <;> omega
def quotF (h : Int) : List Int := (qrows h (3 + h.fmod 3).toNat).dropLast ++ [(qrows h (3 + h.fmod 3).toNat).getLastD 0 + 1]
theorem quot_does {w : World} (old : List (Addr × Obj)) (d : Int) (t : Tok) (h0 : 0 ≤ d) (h1 : d < 2 ^ 40) :
    Does w 121 5 (fun news vs => news = old ∧ vs = [.int d t]) (fun news r => ∃ tl, news = old ++ tl ∧ IntsIn tl r (quotF d)) := by
  unfold Does
  k_fill
  w_top off
  intro loose mean mg mb dp un gd cn cs a ccd cl outer A₀ base h₀ L m news s vs Q E B F X N T hk hR hd hu hret
  obtain ⟨hold, rfl⟩ := hR
  refine wpAny_call ?_
  k_dflt ktr_enter
  k_steps
  unfold Hold
  rename_i g' L' _ FG' B' X' T' tk₀ l' _ l1 _ _ _ h' tk' t₁ u₁ v₁ R' F' N'
  have hm3 : 0 ≤ d.fmod 3 ∧ d.fmod 3 < 3 := by
    rw [Int.fmod_eq_emod_of_nonneg _ (by decide)]; omega
  refine loop_range (σ := List Value × Nat) (n := (3 + d.fmod 3).toNat) (fun c => [(l', W.listOf c.1.toArray c.2)]) (fun _ => []) [] (fun i c _ => IntsAre c.1 (qrows d i)) [l'] ([Value.int 1 tk₀], 0) news rfl R'
    (small_one (by decide) (by decide) (by omega) (by omega)) ?_ F' N' (fun p hp => hp) (fun _ => rfl) (fun p hp b hb => ?_) ?_ (fun _ h => nomatch h) ?_ ?_
  · rw [rangeSize_one]; split <;> omega
  · rw [List.mem_singleton.mp hb]; exact Nat.ne_of_lt (l1 p hp)
  · exact .cons 1 tk₀ .nil
  · intro i c rest tail h tk t u hi hI hsub hoff hn F'' N''
    clear F' N' R'
    dsimp only [names, kstB, List.contains_nil] at F''
    obtain ⟨vs, nn⟩ := c
    dsimp only [List.singleton_append] at hI N''
    obtain ⟨r, b, e⟩ := qrows_ne d i
    have hle := qrows_len d i
    rw [e] at hI hle
    obtain ⟨vs, tb, rfl, hI'⟩ := ints_snoc hI
    have hlen := hI'.length
    simp only [List.length_append, List.length_cons, List.length_nil] at hle
    have hoff1 : ∀ p ∈ tail, p.1 ≠ l' := fun p hp => hoff p hp l' (.head _)
    clear hoff
    k_steps
    · have hc : ((d.fdiv 3).fdiv (2 ^ (0 + (i : Int)).toNat)).fmod 2 = 0 := by assumption
      rename Fr _ _ _ _ => F9
      rename News _ _ _ _ => N9
      refine turn_one F9 N9 ?_ (fun _ h => nomatch h) (fun z h1 _ _ => if_neg h1)
      · show IntsAre _ (qstep d (qrows d i) i)
        unfold qstep
        have : (0 + (i : Int)).toNat = i := by omega
        rw [this] at hc
        rw [if_pos hc, e]
        simpa using ints_app hI' (.cons (b + 1) _ .nil)
    · have hc : ((d.fdiv 3).fdiv (2 ^ (0 + (i : Int)).toNat)).fmod 2 ≠ 0 := by assumption
      rename Fr _ _ _ _ => F9
      rename News _ _ _ _ => N9
      refine turn_one F9 N9 ?_ (fun _ h => nomatch h) (fun z h1 _ _ => if_neg h1)
      · show IntsAre _ (qstep d (qrows d i) i)
        unfold qstep
        have : (0 + (i : Int)).toNat = i := by omega
        rw [this] at hc
        rw [if_neg hc, e]
        exact ints_app (ints_app hI' (.cons b tb .nil)) (.cons 1 _ .nil)
  · intro c tl h tk u hlt hI F'' N''
    clear F' N' R'
    dsimp only [names, kstB, List.contains_nil] at F''
    obtain ⟨vs, nn⟩ := c
    dsimp only [List.singleton_append] at hI N''
    obtain ⟨r, b, e⟩ := qrows_ne d (3 + d.fmod 3).toNat
    rw [e] at hI
    obtain ⟨vs, tb, rfl, hI'⟩ := ints_snoc hI
    have hoff1 : ∀ p ∈ tl ++ news, p.1 ≠ l' := fun p hp => by
      rcases List.mem_append.mp hp with hp | hp
      · exact Ne.symm (hlt p hp (l', _) (.head _))
      · exact Nat.ne_of_lt (l1 p hp)
    k_steps
    rename_i kF kN _ _
    refine does_ret hret ((l', _) :: tl) kF kN (fun p hp q hq => ?_) ⟨_, by rw [hold], l', _, _, rfl, .head _, ?_⟩
    · rcases List.mem_cons.mp hp with rfl | hp
      · exact Nat.ne_of_lt (l1 q hq)
      · exact hlt p hp q (.tail _ hq)
    · unfold quotF
      rw [e]
      simpa using (ints_app hI' (.cons (b + 1) _ .nil))
end
section
theorem said3 : True := by
  k_with_none
  k_with "z0 pyIter ref" => (((with_reducible show wpAny _ _ (pyIter (Value.ref _)) (fun it s₂ => LoopAtV _ _ _ _ _ _ _ _ _ it s₂) _ _); refine Hold.mk ?_))
  k_with "z range" => ((with_unfolding_all refine' range1_rows ?kF ?kN ?_); (case kF => k_asm); (case kN => k_asm))
  k_with "z0 getItem ref int" => ((k_here; (with_reducible show wpAny _ _ (getItem (Value.ref _) (Value.int (-1) _)) _ _ _); k_dflt (refine' get_last ?k1 ?k2 ?_; (case k1 => k_asm); (case k2 => k_mem); k_whole)))
  k_with "z1 setItem ref int" => ((k_here; (with_reducible show wpAny _ _ (setItem (Value.ref _) (Value.int (-1) _) _) _ _ _); k_dflt (refine' set_last ?k1 ?k2 ?k3 ?_; (case k1 => k_asm); (case k2 => k_asm); (case k3 => k_upd); k_whole)))
  k_with "z2 call builtin:list.append" => ((k_here; (with_reducible show wpAny _ _ (call (Value.builtin _) [Value.ref _, _]) _ _ _); k_dflt (refine' append_K ?k1 ?k2 ?k3 ?_ ?z; (case k1 => k_asm); (case k2 => k_asm); (case k3 => k_upd); (case z => first | assumption | size_fits | (simp only [List.size_toArray, List.length_append, List.length_cons, List.length_nil, sizeLine_eq]; omega)); k_whole)))
  k_with "z0 exec While Compare cons nil" => (((with_reducible show wpAny _ _ (exec (Stmt.While _ _ _ _) _) _ _ _); refine Hold.mk ?_))
  k_with "z kmk_list" => (exact listIn (by k_asm) (by k_mem))
  k_with "z is_list" => (exact listIn (by k_asm) (by k_mem))
  k_with "z k_mem" => (((show _ ∈ (_ : List (Addr × Obj))); with_reducible assumption))
  k_with "z3 subscriptTail" => ((k_here; (with_reducible show wpAny _ _ (subscriptTail _ (PySem.Expr.Slice none none (some _) _) (Value.ref _) (Value.ref _)) _ _ _); k_dflt (refine' rev_list ?F ?N ?l ?k ?z ?_ ?s ?t; (case F => k_asm); (case N => k_asm); (case l => k_mem); (case k => exact IsPart.int _ _); (case s => with_unfolding_all rfl); (case t => kmk_pure); (case z => (simp only [sizeLine_eq]; omega)))))
  k_with "z0 exec For Name Subscript cons nil" => ((with_unfolding_all (refine' my_For ?kF ?k1 ?k2 ?_; (case k1 => exact rfl); (case k2 => exact rfl)); (case kF => k_asm)))
  k_with "z0 exec For Name Call cons nil" => ((with_unfolding_all (refine' my_For ?kF ?k1 ?k2 ?_; (case k1 => exact rfl); (case k2 => exact rfl)); (case kF => k_asm)))
  k_with "z0 exec For Name Name cons nil" => ((with_unfolding_all (refine' my_For ?kF ?k1 ?k2 ?_; (case k1 => exact rfl); (case k2 => exact rfl)); (case kF => k_asm)))
  k_with "z enter" => (refine' code_defC ?k1 ?k2 ?k3 ?k4 ?k5 ?kA ?kF ?kK ?k6 ?k7 ?k8 ?k9 ?kB ?kD ?_ ?c2 ?c3 ?c4; (case kA => exact rfl); (case kF => exact rfl); (case kK => assumption); (case k1 => k_asm); (case k2 => k_asm); (case k3 => k_asm); (case k4 => k_asm); (case k5 => k_asm); (case k6 => k_is); (case k7 => k_is); (case k8 => ktr_room); (case k9 => exact BindsTo.of_eq rfl); (case kB => exact rfl); (case kD => decide +kernel); (case c2 => exact rfl); (case c3 => exact rfl); (case c4 => exact rfl); k_whole)
  k_with "z0 eval ListComp" => (((with_reducible show wpAny _ _ (eval (Expr.ListComp _ _ _ _) _) _ _ _); refine Hold.mk ?_))
  k_with "z0 exec Assign cons ListComp" => (((with_reducible show wpAny _ _ (exec (Stmt.Assign [_] (Expr.ListComp _ _ _ _) _) _) _ _ _); refine Hold.mk ?_))
  trivial
def chainStart (row : List Int) (f : Int) : Int × Int := row.reverse.foldl (fun c q => (q * c.1 + c.2, c.1)) (f, 0)
def chainL : Nat → Int → Int → List (Int × Int)
  | 0, a, b => [(a, b)]
  | n + 1, a, b => if a = b then [(a, b)] else (a, b) :: chainL n (max (a - b) b) (min (a - b) b)
def chainF (row : List Int) (f : Int) : List (Int × Int) := chainL ((chainStart row f).1 + (chainStart row f).2).toNat (chainStart row f).1 (chainStart row f).2
theorem chainL_fuel : ∀ (n : Nat) (a b : Int), 1 ≤ b → b ≤ a → (a + b).toNat ≤ n → ∀ k, (a + b).toNat ≤ k → chainL n a b = chainL k a b
  | 0, a, b, h1, h2, h, _, _ => by omega
  | n + 1, a, b, h1, h2, h, k, hk => by
    cases k with
    | zero => omega
    | succ k =>
      unfold chainL
      by_cases e : a = b
      · rw [if_pos e, if_pos e]
      · rw [if_neg e, if_neg e]
        rw [chainL_fuel n _ _ (by omega) (by omega) (by omega) k (by omega)]
def chainG (a b : Int) : List (Int × Int) := chainL (a + b).toNat a b
theorem chainG_eq {a b : Int} (h1 : 1 ≤ b) (h2 : b ≤ a) : chainG a b = if a = b then [(a, b)] else (a, b) :: chainG (max (a - b) b) (min (a - b) b) := by
  unfold chainG
  obtain ⟨n, hn⟩ : ∃ n, (a + b).toNat = n + 1 := ⟨(a + b).toNat - 1, by omega⟩
  rw [hn]
  show (if a = b then _ else _) = _
  by_cases e : a = b
  · rw [if_pos e, if_pos e]
  · rw [if_neg e, if_neg e, chainL_fuel n _ _ (by omega) (by omega) (by omega) _ (Nat.le_refl _)]
theorem chain_does {w : World} (old : List (Addr × Obj)) (row : List Int) (f : Int) (hf0 : 1 ≤ f) (hf1 : f ≤ 50) (hr : ∀ q ∈ row, 1 ≤ q ∧ q ≤ 7) (hl : row.length ≤ 6) (hne : row ≠ []) :
    Does w 128 5 (fun news vs => news = old ∧ ∃ v t, vs = [v, .int f t] ∧ IntsIn news v row) (fun news r => ∃ tl, news = old ++ tl ∧ PairsIn tl r (chainF row f)) := by
  unfold Does
  k_fill
  w_top off
  intro loose mean mg mb dp un gd cn cs a ccd cl outer A₀ base h₀ L m news s vs Q E B F X N T hk hR hd hu hret
  obtain ⟨hold, _, t, rfl, ra, xs, nx, rfl, hm, hx⟩ := hR
  have hlen := hx.length
  refine wpAny_call ?_
  k_dflt ktr_enter
  k_steps
  unfold Hold
  rename_i g' L' _ FG' B' X' T' tk₀ D₀ _ l0 _ _ _ D₁ ws _ F' N' hI' hC' l1
  refine loop_list (σ := Int × Tok × Int × Tok) (nn := 0) (vs := ws) (fun _ => []) (fun c => [(Str.ofString "more", .int c.1 c.2.1), (Str.ofString "less", .int c.2.2.1 c.2.2.2)]) []
    (fun i c _ => (c.1, c.2.2.1) = (row.reverse.take i).foldl (fun c q => (q * c.1 + c.2, c.1)) (f, 0) ∧ 1 ≤ c.1 ∧ 0 ≤ c.2.2.1 ∧ c.1 + c.2.2.1 ≤ 50 * 8 ^ i ∧ (1 ≤ i → 1 ≤ c.2.2.1 ∧ c.2.2.1 ≤ c.1)) [] (f, t, 0, tk₀) ((D₁, W.listOf ws.toArray 0) :: news) rfl (.head _) F' N'
    (fun p hp => ?_) (fun _ => rfl) (fun _ _ _ hb => nomatch hb) ⟨rfl, hf0, Int.le_refl 0, by simpa using hf1, fun h => absurd h (by decide)⟩ ?_ ?_ ?_
  · rcases List.mem_cons.mp hp with rfl | hp
    · exact .head _
    · exact .tail _ (.tail _ hp)
  · intro p hp
    simp only [List.mem_cons, List.not_mem_nil, or_false] at hp
    rcases hp with rfl | rfl
    · rfl
    · rfl
  · intro i c rest tail h tk v u hv hI hsub hoff hn F'' N''
    refine hideQ ?_
    intro Qh1 hQt1
    clear F' N'
    dsimp only [names, kstB, List.contains_nil] at F''
    obtain ⟨a, ta, b, tb⟩ := c
    obtain ⟨q, tq, rfl, hq⟩ := ints_at hI' hv
    have hqr := hr q (List.mem_reverse.mp (List.mem_of_getElem? hq))
    dsimp only [List.nil_append] at hI N''
    obtain ⟨e, ha, hb, hab, _⟩ := hI
    have m1 : a ≤ q * a := by simpa using Int.mul_le_mul_of_nonneg_right hqr.1 (by omega : 0 ≤ a)
    have m2 : q * a ≤ 7 * a := Int.mul_le_mul_of_nonneg_right hqr.2 (by omega)
    have hi6 : i < 6 := by
      have := (List.getElem?_eq_some_iff.mp hq).1
      rw [List.length_reverse] at this
      omega
    have h8n : (8 : Nat) ^ i ≤ 8 ^ 6 := Nat.pow_le_pow_right (by decide) (by omega)
    have h8c : (8 : Int) ^ i = ((8 ^ i : Nat) : Int) := by simp
    have h8' : (8 : Int) ^ (i + 1) = 8 * ((8 ^ i : Nat) : Int) := by rw [Int.pow_succ, h8c]; omega
    rw [h8c] at hab
    generalize (8 : Nat) ^ i = P at h8n h8' hab
    clear h8c
    have h8 : (50 : Int) * P ≤ 50 * 262144 := by omega
    k_steps
    rename Fr _ _ _ _ => F9
    rename News _ _ _ _ => N9
    refine hQt1 _ _ ?_
    refine turn_tok (τ := Tok) (fun t => (q * a + b, t, a, ta)) [] F9 N9 (fun p hp => .tail _ hp) (fun _ h => nomatch h) ?_ ⟨_, List.forall_mem_cons.mpr ⟨rfl, List.forall_mem_cons.mpr ⟨rfl, List.forall_mem_nil _⟩⟩, (fun _ h => nomatch h), ?_⟩
    · intro t z h1 h2 _
      have ha : z ≠ Str.ofString "more" := h2 _ (.head _)
      have hb : z ≠ Str.ofString "less" := h2 _ (.tail _ (.head _))
      repeat (first | rw [if_neg h1] | rw [if_neg ha] | rw [if_neg hb])
      rfl
    · refine ⟨?_, (by omega : 1 ≤ q * a + b), (by omega : 0 ≤ a), (by rw [h8']; omega : (q * a + b) + a ≤ 50 * 8 ^ (i + 1)), fun _ => (by omega : 1 ≤ a ∧ a ≤ q * a + b)⟩
      rw [List.take_add_one, hq, Option.toList_some, List.foldl_append, ← e]
      rfl
  · intro c tl₀ h tk u hlt₀ hI F'' N''
    clear F' N'
    dsimp only [names, kstB, List.contains_nil] at F''
    obtain ⟨a₀, ta₀, b₀, tb₀⟩ := c
    dsimp only [List.nil_append] at hI N''
    obtain ⟨e, ha, hb, hab, hbb⟩ := hI
    have hwl : ws.length = row.length := by rw [hI'.length, List.length_reverse]
    have hrl : 1 ≤ row.length := by
      cases row with
      | nil => exact absurd rfl hne
      | cons _ _ => simp
    obtain ⟨hb1, hba⟩ := hbb (by omega)
    have h8n : (8 : Nat) ^ ws.length ≤ 8 ^ 6 := Nat.pow_le_pow_right (by decide) (by omega)
    have h8c : (8 : Int) ^ ws.length = ((8 ^ ws.length : Nat) : Int) := by simp
    rw [h8c] at hab
    have hab' : a₀ + b₀ ≤ 50 * 262144 := by omega
    clear h8n h8c hab hbb
    rw [hwl, ← List.length_reverse, List.take_length] at e
    have ea : chainStart row f = (a₀, b₀) := e.symm
    k_steps
    unfold Hold
    rename_i D₂ _ lD₂ l₂ _ F9 N9 lL _ F8 N8
    have hnews : ∀ p ∈ (D₂, pairObj a₀ b₀ ta₀ tb₀ 0) :: (tl₀ ++ (D₁, W.listOf ws.toArray 0) :: news), p.1 < l₂ := fun p hp => by
      rcases List.mem_cons.mp hp with rfl | hp
      · exact lL.1
      · exact ktn_ltOf lL.2 p hp
    refine loop_while (σ := (List Value × Nat) × (Int × Tok) × (Int × Tok)) (fun c => [(l₂, W.listOf c.1.1.toArray c.1.2)]) (fun c => [(Str.ofString "more", .int c.2.1.1 c.2.1.2), (Str.ofString "less", .int c.2.2.1 c.2.2.2)]) []
      (fun k c rest => k = (c.2.1.1 + c.2.2.1).toNat ∧ 1 ≤ c.2.2.1 ∧ c.2.2.1 ≤ c.2.1.1 ∧ c.2.1.1 + c.2.2.1 ≤ 50 * 262144 ∧ c.1.1.length + (c.2.1.1 + c.2.2.1) ≤ 50 * 262144 + 1 ∧
        ∃ ps led, rest = led ++ ((D₂, pairObj a₀ b₀ ta₀ tb₀ 0) :: (tl₀ ++ (D₁, W.listOf ws.toArray 0) :: news)) ∧ PairsAre (led ++ [(D₂, pairObj a₀ b₀ ta₀ tb₀ 0)]) c.1.1 (ps ++ [(c.2.1.1, c.2.2.1)]) ∧ ps ++ chainG c.2.1.1 c.2.2.1 = chainF row f) [l₂] _ (([.ref D₂], 0), (a₀, ta₀), (b₀, tb₀))
      ((D₂, pairObj a₀ b₀ ta₀ tb₀ 0) :: (tl₀ ++ (D₁, W.listOf ws.toArray 0) :: news)) F8 N8 (fun p hp => hp) (fun _ => rfl) (fun p hp b hb => by rw [List.mem_singleton.mp hb]; exact Nat.ne_of_lt (hnews p hp))
      ⟨rfl, hb1, hba, hab', (by simp; omega), [], [], rfl, .cons (.head _) .nil, ?_⟩ ?_ ?_
    · unfold chainF
      rw [ea]
      rfl
    · exact List.forall_mem_cons.mpr ⟨rfl, List.forall_mem_cons.mpr ⟨rfl, List.forall_mem_nil _⟩⟩
    · clear F8 N8 F9 N9
      generalize hnw : ((D₂, pairObj a₀ b₀ ta₀ tb₀ 0) :: (tl₀ ++ (D₁, W.listOf ws.toArray 0) :: news)) = nw
      rw [hnw] at hnews
      clear e ha hb hab'
      intro k c tl h tk u hI hlt hoff F'' N''
      obtain ⟨⟨vs, nn⟩, ⟨a, ta⟩, b, tb⟩ := c
      dsimp only [names, kstB, List.contains_nil] at F''
      dsimp only [List.singleton_append] at hI N''
      obtain ⟨hk', hb1, hba, hab, hsz, ps, led, hled, hps, hG⟩ := hI
      have hoff1 : ∀ p ∈ tl ++ nw, p.1 ≠ l₂ := fun p hp => hoff p hp l₂ (.head _)
      k_steps
      · rename_i hab' _ _ _ _ D1 _ l1a _ _ _ _ D3 _ l1b _ F9 N9
        have eM : (if b > a - b then b else a - b) = max (a - b) b := by split <;> omega
        have em : (if b < a - b then b else a - b) = min (a - b) b := by split <;> omega
        have h3 : ∀ q ∈ (l₂, W.listOf vs.toArray nn) :: (tl ++ nw), q.1 < D3 := fun q hq => by
          rcases List.mem_cons.mp hq with rfl | hq
          · exact l1b.2.1
          · exact ktn_ltOf l1b.2.2 q hq
        rw [eM, em] at F9 N9
        refine turn_tok (τ := Tok × Tok) (fun t => ((vs ++ [.ref D3], nn + 1), (max (a - b) b, t.1), (min (a - b) b, t.2))) [(D3, _)] F9 N9 (fun p hp => .tail _ (.tail _ (.tail _ hp))) (fun p hp q hq => by rw [List.mem_singleton.mp hp]; exact Nat.ne_of_lt (h3 q hq)) ?_
          ⟨(_, _), List.forall_mem_cons.mpr ⟨rfl, List.forall_mem_cons.mpr ⟨rfl, List.forall_mem_nil _⟩⟩, List.forall_mem_cons.mpr ⟨.tail _ (.tail _ (.head _)), List.forall_mem_cons.mpr ⟨.head _, List.forall_mem_nil _⟩⟩, _, ?_, rfl, ?_⟩
        · intro t z h1 h2 _
          have ha : z ≠ Str.ofString "more" := h2 _ (.head _)
          have hb : z ≠ Str.ofString "less" := h2 _ (.tail _ (.head _))
          repeat (first | rw [if_neg h1] | rw [if_neg ha] | rw [if_neg hb])
          rfl
        · show (max (a - b) b + min (a - b) b).toNat < k
          rw [hk']; omega
        · dsimp only
          refine ⟨by omega, by omega, by omega, by rw [List.length_append, List.length_singleton]; omega, ps ++ [(a, b)], (D3, _) :: led, by rw [hled]; rfl, (hps.mono fun p hp => .tail _ hp).append (.cons (.head _) .nil), ?_⟩
          rw [List.append_assoc, ← hG, chainG_eq hb1 hba, if_neg hab']
          rfl
      · rename_i hab' kF kN _ _
        rw [chainG_eq hb1 hba, if_pos hab'] at hG
        have o0 : ∀ p ∈ tl₀, ∀ q ∈ news, q.1 ≠ p.1 := fun p hp q hq => hlt₀ p hp q (.tail _ hq)
        have hq2 : ∀ q ∈ news, q ∈ nw := fun q hq => by
          rw [← hnw]; exact .tail _ (List.mem_append.mpr (.inr (.tail _ hq)))
        refine does_ret2 hret ((l₂, W.listOf vs.toArray nn) :: (tl ++ ((D₂, pairObj a₀ b₀ ta₀ tb₀ 0) :: (tl₀ ++ [(D₁, W.listOf ws.toArray 0)])))) kF kN ?_ ?_ ?_ ⟨_, by rw [hold], l₂, vs, nn, rfl, .head _, ?_⟩
        · exact fun q hq => .tail _ (List.mem_append.mpr (.inr (hq2 q hq)))
        · intro p hp
          rcases List.mem_cons.mp hp with rfl | hp
          · exact .head _
          · rcases List.mem_append.mp hp with hp | hp
            · exact .tail _ (List.mem_append.mpr (.inl hp))
            · refine .tail _ (List.mem_append.mpr (.inr ?_))
              rw [← hnw]
              rcases List.mem_cons.mp hp with rfl | hp
              · exact .head _
              · refine .tail _ ?_
                rcases List.mem_append.mp hp with hp | hp
                · exact List.mem_append.mpr (.inl hp)
                · rw [List.mem_singleton.mp hp]; exact List.mem_append.mpr (.inr (.head _))
        · intro p hp q hq
          rcases List.mem_cons.mp hp with rfl | hp
          · exact Nat.ne_of_lt (hnews q (hq2 q hq))
          · rcases List.mem_append.mp hp with hp | hp
            · exact hlt p hp q (.tail _ (hq2 q hq))
            · rcases List.mem_cons.mp hp with rfl | hp
              · exact Nat.ne_of_lt (lD₂ q (List.mem_append.mpr (.inr (.tail _ hq))))
              · rcases List.mem_append.mp hp with hp | hp
                · exact o0 p hp q hq
                · rw [List.mem_singleton.mp hp]; exact Nat.ne_of_lt (ktn_ltOf l1.2 q hq)
        · rw [← hG]
          obtain rfl := List.append_cancel_right hled
          refine hps.mono fun p hp => ?_
          rcases List.mem_append.mp hp with hp | hp
          · exact .tail _ (List.mem_append.mpr (.inl hp))
          · rw [List.mem_singleton.mp hp]
            exact .tail _ (List.mem_append.mpr (.inr (.head _)))
end
section
theorem said4 : True := by
  k_with_none
  k_with "z0 pyIter ref" => (((with_reducible show wpAny _ _ (pyIter (Value.ref _)) (fun it s₂ => LoopAtV _ _ _ _ _ _ _ _ _ it s₂) _ _); refine Hold.mk ?_))
  k_with "z range" => ((with_unfolding_all refine' range1_rows ?kF ?kN ?_); (case kF => k_asm); (case kN => k_asm))
  k_with "z0 getItem ref int" => ((k_here; (with_reducible show wpAny _ _ (getItem (Value.ref _) (Value.int (-1) _)) _ _ _); k_dflt (refine' get_last ?k1 ?k2 ?_; (case k1 => k_asm); (case k2 => k_mem); k_whole)))
  k_with "z1 setItem ref int" => ((k_here; (with_reducible show wpAny _ _ (setItem (Value.ref _) (Value.int (-1) _) _) _ _ _); k_dflt (refine' set_last ?k1 ?k2 ?k3 ?_; (case k1 => k_asm); (case k2 => k_asm); (case k3 => k_upd); k_whole)))
  k_with "z2 call builtin:list.append" => ((k_here; (with_reducible show wpAny _ _ (call (Value.builtin _) [Value.ref _, _]) _ _ _); k_dflt (refine' append_K ?k1 ?k2 ?k3 ?_ ?z; (case k1 => k_asm); (case k2 => k_asm); (case k3 => k_upd); (case z => first | assumption | size_fits | (simp only [List.size_toArray, List.length_append, List.length_cons, List.length_nil, sizeLine_eq]; omega)); k_whole)))
  k_with "z0 exec While Compare cons nil" => (((with_reducible show wpAny _ _ (exec (Stmt.While _ _ _ _) _) _ _ _); refine Hold.mk ?_))
  k_with "z kmk_list" => (exact listIn (by k_asm) (by k_mem))
  k_with "z is_list" => (exact listIn (by k_asm) (by k_mem))
  k_with "z k_mem" => (((show _ ∈ (_ : List (Addr × Obj))); with_reducible assumption))
  k_with "z3 subscriptTail" => ((k_here; (with_reducible show wpAny _ _ (subscriptTail _ (PySem.Expr.Slice none none (some _) _) (Value.ref _) (Value.ref _)) _ _ _); k_dflt (refine' rev_list ?F ?N ?l ?k ?z ?_ ?s ?t; (case F => k_asm); (case N => k_asm); (case l => k_mem); (case k => exact IsPart.int _ _); (case s => with_unfolding_all rfl); (case t => kmk_pure); (case z => (simp only [sizeLine_eq]; omega)))))
  k_with "z0 exec For Name Subscript cons nil" => ((with_unfolding_all (refine' my_For ?kF ?k1 ?k2 ?_; (case k1 => exact rfl); (case k2 => exact rfl)); (case kF => k_asm)))
  k_with "z0 exec For Name Call cons nil" => ((with_unfolding_all (refine' my_For ?kF ?k1 ?k2 ?_; (case k1 => exact rfl); (case k2 => exact rfl)); (case kF => k_asm)))
  k_with "z0 exec For Name Name cons nil" => ((with_unfolding_all (refine' my_For ?kF ?k1 ?k2 ?_; (case k1 => exact rfl); (case k2 => exact rfl)); (case kF => k_asm)))
  k_with "z enter" => (refine' code_defC ?k1 ?k2 ?k3 ?k4 ?k5 ?kA ?kF ?kK ?k6 ?k7 ?k8 ?k9 ?kB ?kD ?_ ?c2 ?c3 ?c4; (case kA => exact rfl); (case kF => exact rfl); (case kK => assumption); (case k1 => k_asm); (case k2 => k_asm); (case k3 => k_asm); (case k4 => k_asm); (case k5 => k_asm); (case k6 => k_is); (case k7 => k_is); (case k8 => ktr_room); (case k9 => exact BindsTo.of_eq rfl); (case kB => exact rfl); (case kD => decide +kernel); (case c2 => exact rfl); (case c3 => exact rfl); (case c4 => exact rfl); k_whole)
  k_with "z0 eval ListComp" => (((with_reducible show wpAny _ _ (eval (Expr.ListComp _ _ _ _) _) _ _ _); refine Hold.mk ?_))
  k_with "z0 exec Assign cons ListComp" => (((with_reducible show wpAny _ _ (exec (Stmt.Assign [_] (Expr.ListComp _ _ _ _) _) _) _ _ _); refine Hold.mk ?_))
  k_with "z0 call ref" => (((with_reducible show wpAny _ _ (call (Value.ref _) _) _ _ _); refine Hold.mk ?_))
  trivial
def replyS (mk : Str) (n : Int) : Str := Str.ofString "229 left (" ++ Txt.mul mk 3 ++ Str.ofString (toString n) ++ mk ++ Str.ofString ") of it"
def runL : Nat → Int → Int → List Int
  | 0, _, _ => []
  | n + 1, a, b => if b = 0 then [] else Int.fdiv a b :: runL n b (Int.fmod a b)
theorem runL_fuel : ∀ (n : Nat) (a b : Int), 0 ≤ b → b < n → ∀ k : Nat, b < k → runL n a b = runL k a b
  | 0, _, _, _, h, _, _ => by omega
  | n + 1, a, b, h0, h, k, hk => by
    cases k with
    | zero => omega
    | succ k =>
      unfold runL
      by_cases e : b = 0
      · rw [if_pos e, if_pos e]
      · rw [if_neg e, if_neg e]
        have hm : 0 ≤ a.fmod b ∧ a.fmod b < b := by
          rw [Int.fmod_eq_emod_of_nonneg _ h0]
          exact ⟨Int.emod_nonneg _ e, Int.emod_lt_of_pos _ (by omega)⟩
        rw [runL_fuel n b (a.fmod b) hm.1 (by omega) k (by omega)]
theorem run_does {w : World} (a₀ b₀ : Int) (mk : Str) (hmk : mk.length = 1) (hm3 : (Txt.mul mk 3).length = 3) (hrep : ∀ n : Int, 0 ≤ n → n < 2 ^ 30 → ∃ r, Reply (replyS mk n) n r) (h0 : 0 ≤ b₀) (h1 : b₀ ≤ a₀) (h2 : a₀ < 2 ^ 22) :
    Does w 135 8 (fun _ vs => ∃ t u k, vs = [.int a₀ t, .int b₀ u, .str mk k]) (fun news r => IntsIn news r (runL (a₀ + 1).toNat a₀ b₀)) := by
  unfold Does
  k_fill
  w_top off
  intro loose mean mg mb dp un gd cn cs a ccd cl outer A₀ base h₀ L m news s vs Q E B F X N T hk hR hd hu hret
  obtain ⟨t, u, k, rfl⟩ := hR
  refine wpAny_call ?_
  k_dflt ktr_enter
  k_steps
  unfold Hold
  rename_i g' L' _ FG' B' X' T' tk₀ l₂ _ lN _ F9 N9
  refine loop_while (σ := (List Value × Nat) × (Int × Tok) × (Int × Tok)) (fun c => [(l₂, W.listOf c.1.1.toArray c.1.2)]) (fun c => [(Str.ofString "more", .int c.2.1.1 c.2.1.2), (Str.ofString "less", .int c.2.2.1 c.2.2.2)]) [Str.ofString "reply"]
    (fun k c rest => k = c.2.2.1.toNat ∧ 0 ≤ c.2.2.1 ∧ c.2.2.1 ≤ c.2.1.1 ∧ c.2.1.1 < 2 ^ 22 ∧ c.1.1.length + c.2.2.1 < 2 ^ 23 ∧
      ∃ ns, IntsAre c.1.1 ns ∧ ns ++ runL (c.2.1.1 + 1).toNat c.2.1.1 c.2.2.1 = runL (a₀ + 1).toNat a₀ b₀) [l₂] _ (([], 0), (a₀, t), (b₀, u))
    news F9 N9 (fun p hp => hp) (fun _ => rfl) (fun p hp b hb => by rw [List.mem_singleton.mp hb]; exact Nat.ne_of_lt (lN p hp))
    ⟨rfl, h0, h1, h2, by simp; omega, [], .nil, rfl⟩ ?_ ?_
  · exact List.forall_mem_cons.mpr ⟨rfl, List.forall_mem_cons.mpr ⟨rfl, List.forall_mem_nil _⟩⟩
  · clear F9 N9
    intro k c tl h tk u hI hlt hoff F'' N''
    obtain ⟨⟨vs, nn⟩, ⟨a, ta⟩, b, tb⟩ := c
    dsimp only [names, kstB] at F''
    dsimp only [List.singleton_append] at hI N''
    obtain ⟨hk', hb0, hba, hab, hsz, ns, hns, hG⟩ := hI
    have hlen := hns.length
    have hoff1 : ∀ p ∈ tl ++ news, p.1 ≠ l₂ := fun p hp => hoff p hp l₂ (.head _)
    have hfm : b ≠ 0 → 0 ≤ a.fmod b ∧ a.fmod b < b := fun h => by
      rw [Int.fmod_eq_emod_of_nonneg _ hb0]
      exact ⟨Int.emod_nonneg _ h, Int.emod_lt_of_pos _ (by omega)⟩
    have hst : b ≠ 0 → (Str.ofString (toString (a.fmod b))).length ≤ 10 := fun h => KT.len_num (hfm h).1 (by have := (hfm h).2; omega)
    k_steps
    · unfold Hold
      rename_i tr _ _ _ D _ F9 N9 l1
      have hb : b ≠ 0 := by assumption
      obtain ⟨hm0, hm1⟩ := hfm hb
      obtain ⟨r, hr⟩ := hrep (a.fmod b) hm0 (by omega)
      with_unfolding_all refine' use_does (parse_does _ (a.fmod b) r b a hr hm0 (by omega)) ?k1 F9 ?k3 N9 ?k5 ?k6 ⟨_, _, _, _, 0, rfl, .head _⟩ ?k8 ?k9 ?_
      case k1 => k_asm
      case k3 => k_asm
      case k5 => k_asm
      case k6 => exact rfl
      case k8 => ktr_room
      case k9 => ktr_units
      intro v tl' h' tk' F1 N1 ho hout
      obtain ⟨p, tx, tn, kk, rfl, hp⟩ := hout
      k_steps
      rename Fr _ _ _ _ => F8
      rename News _ _ _ _ => N8
      refine turn_tok (τ := Tok) (fun t => ((vs ++ [.int (a.fdiv b) t], nn + 1), (b, tx), (a.fmod b, tn))) [] F8 N8 (fun p hp => List.mem_append.mpr (.inl (.tail _ (.tail _ hp)))) (fun _ h => nomatch h) ?_
        ⟨_, List.forall_mem_cons.mpr ⟨rfl, List.forall_mem_cons.mpr ⟨rfl, List.forall_mem_nil _⟩⟩, List.forall_mem_cons.mpr ⟨List.mem_append.mpr (.inl (.tail _ (.head _))), List.forall_mem_nil _⟩, _, ?_, rfl, ?_⟩
      · intro t z _ h2 h3
        have ha : z ≠ Str.ofString "more" := h2 _ (.head _)
        have hb : z ≠ Str.ofString "less" := h2 _ (.tail _ (.head _))
        have hc : z ≠ Str.ofString "reply" := by
          simp only [List.contains_cons, List.contains_nil, Bool.or_false, beq_eq_false_iff_ne] at h3
          exact h3
        repeat (first | rw [if_neg hc] | rw [if_neg ha] | rw [if_neg hb])
        rw [h3]
        rfl
      · show (a.fmod b).toNat < k
        rw [hk']; omega
      · dsimp only
        refine ⟨hm0, by omega, by omega, by rw [List.length_append, List.length_singleton]; omega, ns ++ [a.fdiv b], ints_app hns (.cons _ _ .nil), ?_⟩
        rw [List.append_assoc, ← hG]
        congr 1
        obtain ⟨n', hn'⟩ : ∃ n', (a + 1).toNat = n' + 1 := ⟨a.toNat, by omega⟩
        rw [hn']
        show _ = if b = 0 then [] else Int.fdiv a b :: runL n' b (Int.fmod a b)
        rw [if_neg hb, runL_fuel (b + 1).toNat b (a.fmod b) hm0 (by omega) n' (by omega)]
        rfl
    · rename_i hb kF kN _ _
      refine does_ret2 hret ((l₂, W.listOf vs.toArray nn) :: tl) kF kN (fun q hq => .tail _ (List.mem_append.mpr (.inr hq))) ?_ ?_ ⟨l₂, vs, nn, rfl, List.mem_append.mpr (.inr (.head _)), ?_⟩
      · intro p hp
        rcases List.mem_cons.mp hp with rfl | hp
        · exact .head _
        · exact .tail _ (List.mem_append.mpr (.inl hp))
      · intro p hp q hq
        rcases List.mem_cons.mp hp with rfl | hp
        · exact Nat.ne_of_lt (lN q hq)
        · exact hlt p hp q (.tail _ hq)
      · rw [hb] at hG
        obtain ⟨n', hn'⟩ : ∃ n', (a + 1).toNat = n' + 1 := ⟨a.toNat, by omega⟩
        rw [hn'] at hG
        have : runL (n' + 1) a 0 = [] := rfl
        rw [this, List.append_nil] at hG
        rw [← hG]
        exact hns
end
end
local macro_rules | `(tactic| k_steps) => `(tactic| k_extra "z k_steps")
section
local macro_rules | `(tactic| omega) => `(tactic| grind)
section
theorem said5 : True := by
  k_with_none
  k_with "z0 pyIter ref" => (((with_reducible show wpAny _ _ (pyIter (Value.ref _)) (fun it s₂ => LoopAtV _ _ _ _ _ _ _ _ _ it s₂) _ _); refine Hold.mk ?_))
  k_with "z range" => ((with_unfolding_all refine' range1_rows ?kF ?kN ?_); (case kF => k_asm); (case kN => k_asm))
  k_with "z0 getItem ref int" => ((k_here; (with_reducible show wpAny _ _ (getItem (Value.ref _) (Value.int (-1) _)) _ _ _); k_dflt (refine' get_last ?k1 ?k2 ?_; (case k1 => k_asm); (case k2 => k_mem); k_whole)))
  k_with "z1 setItem ref int" => ((k_here; (with_reducible show wpAny _ _ (setItem (Value.ref _) (Value.int (-1) _) _) _ _ _); k_dflt (refine' set_last ?k1 ?k2 ?k3 ?_; (case k1 => k_asm); (case k2 => k_asm); (case k3 => k_upd); k_whole)))
  k_with "z2 call builtin:list.append" => ((k_here; (with_reducible show wpAny _ _ (call (Value.builtin _) [Value.ref _, _]) _ _ _); k_dflt (refine' append_K ?k1 ?k2 ?k3 ?_ ?z; (case k1 => k_asm); (case k2 => k_asm); (case k3 => k_upd); (case z => first | assumption | size_fits | (simp only [List.size_toArray, List.length_append, List.length_cons, List.length_nil, sizeLine_eq]; omega)); k_whole)))
  k_with "z0 exec While Compare cons nil" => (((with_reducible show wpAny _ _ (exec (Stmt.While _ _ _ _) _) _ _ _); refine Hold.mk ?_))
  k_with "z kmk_list" => (exact listIn (by k_asm) (by k_mem))
  k_with "z is_list" => (exact listIn (by k_asm) (by k_mem))
  k_with "z k_mem" => (((show _ ∈ (_ : List (Addr × Obj))); with_reducible assumption))
  k_with "z3 subscriptTail" => ((k_here; (with_reducible show wpAny _ _ (subscriptTail _ (PySem.Expr.Slice none none (some _) _) (Value.ref _) (Value.ref _)) _ _ _); k_dflt (refine' rev_list ?F ?N ?l ?k ?z ?_ ?s ?t; (case F => k_asm); (case N => k_asm); (case l => k_mem); (case k => exact IsPart.int _ _); (case s => with_unfolding_all rfl); (case t => kmk_pure); (case z => (simp only [sizeLine_eq]; omega)))))
  k_with "z0 exec For Name Subscript cons nil" => ((with_unfolding_all (refine' my_For ?kF ?k1 ?k2 ?_; (case k1 => exact rfl); (case k2 => exact rfl)); (case kF => k_asm)))
  k_with "z0 exec For Name Call cons nil" => ((with_unfolding_all (refine' my_For ?kF ?k1 ?k2 ?_; (case k1 => exact rfl); (case k2 => exact rfl)); (case kF => k_asm)))
  k_with "z0 exec For Name Name cons nil" => ((with_unfolding_all (refine' my_For ?kF ?k1 ?k2 ?_; (case k1 => exact rfl); (case k2 => exact rfl)); (case kF => k_asm)))
  k_with "z enter" => (refine' code_defC ?k1 ?k2 ?k3 ?k4 ?k5 ?kA ?kF ?kK ?k6 ?k7 ?k8 ?k9 ?kB ?kD ?_ ?c2 ?c3 ?c4; (case kA => exact rfl); (case kF => exact rfl); (case kK => assumption); (case k1 => k_asm); (case k2 => k_asm); (case k3 => k_asm); (case k4 => k_asm); (case k5 => k_asm); (case k6 => k_is); (case k7 => k_is); (case k8 => ktr_room); (case k9 => exact BindsTo.of_eq rfl); (case kB => exact rfl); (case kD => decide +kernel); (case c2 => exact rfl); (case c3 => exact rfl); (case c4 => exact rfl); k_whole)
  k_with "z0 eval ListComp" => (((with_reducible show wpAny _ _ (eval (Expr.ListComp _ _ _ _) _) _ _ _); refine Hold.mk ?_))
  k_with "z0 exec Assign cons ListComp" => (((with_reducible show wpAny _ _ (exec (Stmt.Assign [_] (Expr.ListComp _ _ _ _) _) _) _ _ _); refine Hold.mk ?_))
  k_with "z0 CompSrc" => ((refine Hold.mk ?_))
  k_with "z0 CompSrcT" => ((refine Hold.mk ?_))
  k_with "z0 SrcLP" => ((refine Hold.mk ?_))
  k_with "z0 CompEnd" => ((refine Hold.mk ?_))
  k_with "z k_steps" => (repeat' (first | (k_unfold; (try dsimp only)) | (walk1; (try dsimp only)) | (dsimp only; walk1; (try dsimp only)) | (leave1; walk_say "STEP leave1"; try dsimp only) | fail "no step"))
  k_with "z4 call builtin:sum" => ((k_here; (with_reducible show wpAny _ _ (call (Value.builtin "sum") [Value.ref _]) _ _ _); k_dflt (refine' sumK ?kz ?kF ?kN ?kl ?ki ?_; (case kz => exact rfl); (case kF => k_asm); (case kN => k_asm); (case kl => exact listIn (by k_asm) (by k_mem)); (case ki => assumption); k_whole)))
  k_with "z0 eval ListComp" => ((k_here; (with_reducible show wpAny _ _ (eval (Expr.ListComp _ [Comprehension.mk (Expr.Name _ _) _ [] _] _ _) _) _ _ _); k_dflt (refine LCg.ListComp_U (F₀ := by k_asm) (by with_unfolding_all rfl) (by decide) (by rfl) (by decide) (by rfl) ?_)))
  k_with "z0 eval ListComp" => ((k_here; (with_reducible show wpAny _ _ (eval (Expr.ListComp _ [Comprehension.mk (Expr.Name _ _) _ [_] _] _ _) _) _ _ _); k_dflt (refine LCt.ListComp_T (F₀ := by k_asm) (by with_unfolding_all rfl) (by decide) (by rfl) (by decide) (by rfl) ?_)))
  k_with "z0 eval ListComp" => ((k_here; (with_reducible show wpAny _ _ (eval (Expr.ListComp _ [Comprehension.mk (Expr.Tuple [Expr.Name _ _, Expr.Name _ _] _ _) _ [] _] _ _) _) _ _ _); k_dflt (refine LCp.ListComp_P (F₀ := by k_asm) (by with_unfolding_all rfl) (by decide) (by rfl) (by decide) (by rfl) (by rfl) (by decide) ?_)))
  k_with "z0 exec Assign cons ListComp" => ((k_here; (with_reducible show wpAny _ _ (exec (Stmt.Assign [_] (Expr.ListComp _ [Comprehension.mk (Expr.Name _ _) _ [] _] _ _) _) _) _ _ _); k_dflt (refine LCg.Assign_ListComp_U (F₀ := by k_asm) (by rfl) (by with_unfolding_all rfl) (by with_unfolding_all rfl) (by decide) (by rfl) (by decide) (by rfl) (by rfl) (by rfl) ?_)))
  k_with "z0 exec Assign cons ListComp" => ((k_here; (with_reducible show wpAny _ _ (exec (Stmt.Assign [_] (Expr.ListComp _ [Comprehension.mk (Expr.Tuple [Expr.Name _ _, Expr.Name _ _] _ _) _ [] _] _ _) _) _) _ _ _); k_dflt (refine LCp.Assign_ListComp_P (F₀ := by k_asm) (by rfl) (by with_unfolding_all rfl) (by with_unfolding_all rfl) (by decide) (by rfl) (by decide) (by rfl) (by rfl) (by decide) (by rfl) (by rfl) ?_)))
  k_with "z k_mem" => (((show _ ∈ (_ : List (Addr × Obj))); first | with_reducible assumption | with_reducible exact List.Mem.head _ | (with_reducible refine List.mem_cons_of_mem _ ?_; k_mem) | (with_reducible refine List.mem_append_right _ ?_; k_mem) | (with_reducible refine List.mem_append_left _ ?_; k_mem)))
  k_with "z0 exec For Tuple Attribute cons nil" => (((with_unfolding_all (refine' For_turns ?kF ?_)); (case kF => k_asm)))
  k_with "z0 exec For Tuple Name cons nil" => (((with_unfolding_all (refine' For_turns ?kF ?_)); (case kF => k_asm)))
  k_with "z0 exec For Tuple Call cons nil" => (((with_unfolding_all (refine' For_turns ?kF ?_)); (case kF => k_asm)))
  k_with "z0 exec For Tuple Subscript cons nil" => (((with_unfolding_all (refine' For_turns ?kF ?_)); (case kF => k_asm)))
  k_with "z0 pyIter ref" => (((with_reducible show wpAny _ _ (pyIter (Value.ref _)) (fun it s₂ => TurnsAt _ _ _ _ _ _ _ _ _ it s₂) _ _); refine Hold.mk ?_))
  k_with "z0 subscriptTail" => ((k_here; (with_reducible show wpAny _ _ (subscriptTail _ _ (Value.ref _) (Value.int _ _)) _ _ _); k_dflt (refine' item_list_ints ?l ?i ?a ?b ?c ?_; (case l => exact listIn (by k_asm) (by k_mem)); (case i => with_reducible assumption); (case a => omega); (case b => omega); (case c => omega); k_whole); intro _))
  k_with "z3 subscriptTail" => ((k_here; (with_reducible show wpAny _ _ (subscriptTail _ (PySem.Expr.Slice (some _) none none _) (Value.ref _) (Value.ref _)) _ _ _); k_dflt (refine' drop_list ?dlE ?dlF ?dlN ?dlM ?dlP ?dlQ ?dlX ?dlZ ?_ ?dlS ?dlT; (case dlE => exact rfl); (case dlF => k_asm); (case dlN => k_asm); (case dlM => k_mem); (case dlP => exact IsPart.int _ _); (case dlQ => exact IsPart.none); (case dlX => omega); (case dlS => with_unfolding_all rfl); (case dlT => kmk_pure); (case dlZ => ((try simp only [sizeLine_eq, List.length_cons, List.length_nil, List.length_append, List.length_drop, List.length_replicate, List.length_dropLast]); omega)))))
  k_with "z3 subscriptTail" => ((k_here; (with_reducible show wpAny _ _ (subscriptTail _ (PySem.Expr.Slice none (some _) none _) (Value.ref _) (Value.ref _)) _ _ _); k_dflt (refine' init_list ?dlE ?dlF ?dlN ?dlM ?dlQ ?dlP ?dlZ ?_ ?dlS ?dlT; (case dlE => exact rfl); (case dlF => k_asm); (case dlN => k_asm); (case dlM => k_mem); (case dlP => exact IsPart.int _ _); (case dlQ => exact IsPart.none); (case dlS => with_unfolding_all rfl); (case dlT => kmk_pure); (case dlZ => ((try simp only [sizeLine_eq, List.length_cons, List.length_nil, List.length_append, List.length_drop, List.length_replicate, List.length_dropLast]); omega)))))
  k_with "z3 subscriptTail" => ((k_here; (with_reducible show wpAny _ _ (subscriptTail _ (PySem.Expr.Slice none none (some _) _) (Value.ref _) (Value.ref _)) _ _ _); k_dflt (refine' revv_list ?dlE ?dlF ?dlN ?dlM ?dlP ?dlZ ?_ ?dlS ?dlT; (case dlE => exact rfl); (case dlF => k_asm); (case dlN => k_asm); (case dlM => k_mem); (case dlP => exact IsPart.int _ _); (case dlS => with_unfolding_all rfl); (case dlT => kmk_pure); (case dlZ => ((try simp only [sizeLine_eq, List.length_cons, List.length_nil, List.length_append, List.length_drop, List.length_replicate, List.length_dropLast]); omega)))))
  k_with "z3 binaryOp Add ref ref" => ((k_here; (with_reducible show wpAny _ _ (binaryOp _ (Value.ref _) (Value.ref _)) _ _ _); k_dflt (refine' add_l ?alF ?alN ?alA ?alB ?alZ ?_; (case alF => k_asm); (case alN => k_asm); (case alA => k_mem); (case alB => k_mem); (case alZ => ((try simp only [sizeLine_eq, List.length_cons, List.length_nil, List.length_append, List.length_drop, List.length_replicate, List.length_dropLast]); omega)))))
  k_with "z3 binaryOp Mult ref int" => ((k_here; (with_reducible show wpAny _ _ (binaryOp Operator.Mult (Value.ref _) (Value.int _ _)) _ _ _); k_dflt (refine' mul_l ?alF ?alN ?alA ?alB ?alZ ?_; (case alF => k_asm); (case alN => k_asm); (case alA => k_mem); (case alB => omega); (case alZ => omega))))
  trivial
/-- the numbers of the places below 3 at which two numbers differ -/
def apartL (x y : Int) : Nat → List Int
  | 0 => []
  | k + 1 => if Int.fmod (Int.fdiv x (2 ^ k)) 2 ≠ Int.fmod (Int.fdiv y (2 ^ k)) 2 then apartL x y k ++ [2 ^ k] else apartL x y k
theorem apart_does {w : World} (x y : Int) (hx0 : 0 ≤ x) (hx1 : x < 100) (hy0 : 0 ≤ y) (hy1 : y < 100) :
    Does w 157 5 (fun _ vs => ∃ t u, vs = [.int x t, .int y u]) (fun news r => ∃ t, r = .int (apartL x y 3).sum t) := by
  unfold Does
  k_fill
  w_top off
  intro loose mean mg mb dp un gd cn cs a ccd cl outer A₀ base h₀ L m news s vs Q E B F X N T hk hR hd hu hret
  obtain ⟨t, u, rfl⟩ := hR
  refine wpAny_call ?_
  k_dflt ktr_enter
  k_steps
  unfold Hold
  rename Fr _ _ _ _ => F9
  rename News _ _ _ _ => N9
  rename IsRange _ _ _ _ _ _ _ _ => R9
  refine LCt.CompSrcT.range (n := 3) rfl F9 N9 R9 rfl rfl (by decide) ?_
  intro g
  refine rest_T (n := 3) (fun i ys led => led = _ ∧ IntsAre ys (apartL x y i)) ?_ ?_ 3 0 [] _ rfl ⟨rfl, .nil⟩
  · intro i ys led v I oI C oC D m₂ h tk E' hi hJ hv hC hx F N off ne
    obtain ⟨rfl, hys⟩ := hJ
    obtain ⟨t', rfl⟩ := hv
    have hp : (0 : Int) + (i : Int) ≤ 2 := by omega
    have hq : (0 : Int) ≤ 0 + (i : Int) := by omega
    dsimp only
    k_steps
    · rename (_ : Int) ≠ _ => hne
      rename News _ _ _ _ => N8
      refine cend_same (by assumption) N8 off trivial ⟨rfl, ?_⟩
      have e0 : (0 + (i : Int)).toNat = i := by omega
      rw [e0] at hne ⊢
      show IntsAre _ (if _ then _ else _)
      rw [if_pos hne]
      exact ints_app hys (.cons _ _ .nil)
    · rename (_ : Int) = _ => hne
      rename News _ _ _ _ => N8
      refine cend_same (by assumption) N8 off trivial ⟨rfl, ?_⟩
      have e0 : (0 + (i : Int)).toNat = i := by omega
      rw [e0] at hne
      show IntsAre _ (if _ then _ else _)
      rw [if_neg (fun c => c hne)]
      exact hys
  · rintro ys led ⟨rfl, hys⟩
    unfold LCg.FinE
    intro D h' tk F' N' o1
    clear F9 N9 R9
    dsimp only
    k_steps
    rename Fr _ _ _ _ => F8
    rename News _ _ _ _ => N8
    exact does_ret2 hret [] F8 N8 (fun q hq => by repeat (first | assumption | apply List.mem_cons_of_mem)) (fun _ h => nomatch h) (fun _ h => nomatch h) ⟨_, rfl⟩
end
section
theorem said6 : True := by
  k_with_none
  k_with "z0 pyIter ref" => (((with_reducible show wpAny _ _ (pyIter (Value.ref _)) (fun it s₂ => LoopAtV _ _ _ _ _ _ _ _ _ it s₂) _ _); refine Hold.mk ?_))
  k_with "z range" => ((with_unfolding_all refine' range1_rows ?kF ?kN ?_); (case kF => k_asm); (case kN => k_asm))
  k_with "z0 getItem ref int" => ((k_here; (with_reducible show wpAny _ _ (getItem (Value.ref _) (Value.int (-1) _)) _ _ _); k_dflt (refine' get_last ?k1 ?k2 ?_; (case k1 => k_asm); (case k2 => k_mem); k_whole)))
  k_with "z1 setItem ref int" => ((k_here; (with_reducible show wpAny _ _ (setItem (Value.ref _) (Value.int (-1) _) _) _ _ _); k_dflt (refine' set_last ?k1 ?k2 ?k3 ?_; (case k1 => k_asm); (case k2 => k_asm); (case k3 => k_upd); k_whole)))
  k_with "z2 call builtin:list.append" => ((k_here; (with_reducible show wpAny _ _ (call (Value.builtin _) [Value.ref _, _]) _ _ _); k_dflt (refine' append_K ?k1 ?k2 ?k3 ?_ ?z; (case k1 => k_asm); (case k2 => k_asm); (case k3 => k_upd); (case z => first | assumption | size_fits | (simp only [List.size_toArray, List.length_append, List.length_cons, List.length_nil, sizeLine_eq]; omega)); k_whole)))
  k_with "z0 exec While Compare cons nil" => (((with_reducible show wpAny _ _ (exec (Stmt.While _ _ _ _) _) _ _ _); refine Hold.mk ?_))
  k_with "z kmk_list" => (exact listIn (by k_asm) (by k_mem))
  k_with "z is_list" => (exact listIn (by k_asm) (by k_mem))
  k_with "z k_mem" => (((show _ ∈ (_ : List (Addr × Obj))); with_reducible assumption))
  k_with "z3 subscriptTail" => ((k_here; (with_reducible show wpAny _ _ (subscriptTail _ (PySem.Expr.Slice none none (some _) _) (Value.ref _) (Value.ref _)) _ _ _); k_dflt (refine' rev_list ?F ?N ?l ?k ?z ?_ ?s ?t; (case F => k_asm); (case N => k_asm); (case l => k_mem); (case k => exact IsPart.int _ _); (case s => with_unfolding_all rfl); (case t => kmk_pure); (case z => (simp only [sizeLine_eq]; omega)))))
  k_with "z0 exec For Name Subscript cons nil" => ((with_unfolding_all (refine' my_For ?kF ?k1 ?k2 ?_; (case k1 => exact rfl); (case k2 => exact rfl)); (case kF => k_asm)))
  k_with "z0 exec For Name Call cons nil" => ((with_unfolding_all (refine' my_For ?kF ?k1 ?k2 ?_; (case k1 => exact rfl); (case k2 => exact rfl)); (case kF => k_asm)))
  k_with "z0 exec For Name Name cons nil" => ((with_unfolding_all (refine' my_For ?kF ?k1 ?k2 ?_; (case k1 => exact rfl); (case k2 => exact rfl)); (case kF => k_asm)))
  k_with "z enter" => (refine' code_defC ?k1 ?k2 ?k3 ?k4 ?k5 ?kA ?kF ?kK ?k6 ?k7 ?k8 ?k9 ?kB ?kD ?_ ?c2 ?c3 ?c4; (case kA => exact rfl); (case kF => exact rfl); (case kK => assumption); (case k1 => k_asm); (case k2 => k_asm); (case k3 => k_asm); (case k4 => k_asm); (case k5 => k_asm); (case k6 => k_is); (case k7 => k_is); (case k8 => ktr_room); (case k9 => exact BindsTo.of_eq rfl); (case kB => exact rfl); (case kD => decide +kernel); (case c2 => exact rfl); (case c3 => exact rfl); (case c4 => exact rfl); k_whole)
  k_with "z0 eval ListComp" => (((with_reducible show wpAny _ _ (eval (Expr.ListComp _ _ _ _) _) _ _ _); refine Hold.mk ?_))
  k_with "z0 exec Assign cons ListComp" => (((with_reducible show wpAny _ _ (exec (Stmt.Assign [_] (Expr.ListComp _ _ _ _) _) _) _ _ _); refine Hold.mk ?_))
  k_with "z0 CompSrc" => ((refine Hold.mk ?_))
  k_with "z0 CompSrcT" => ((refine Hold.mk ?_))
  k_with "z0 SrcLP" => ((refine Hold.mk ?_))
  k_with "z0 CompEnd" => ((refine Hold.mk ?_))
  k_with "z k_steps" => (repeat' (first | (k_unfold; (try dsimp only)) | (walk1; (try dsimp only)) | (dsimp only; walk1; (try dsimp only)) | (leave1; walk_say "STEP leave1"; try dsimp only) | fail "no step"))
  k_with "z4 call builtin:sum" => ((k_here; (with_reducible show wpAny _ _ (call (Value.builtin "sum") [Value.ref _]) _ _ _); k_dflt (refine' sumK ?kz ?kF ?kN ?kl ?ki ?_; (case kz => exact rfl); (case kF => k_asm); (case kN => k_asm); (case kl => exact listIn (by k_asm) (by k_mem)); (case ki => assumption); k_whole)))
  k_with "z0 eval ListComp" => ((k_here; (with_reducible show wpAny _ _ (eval (Expr.ListComp _ [Comprehension.mk (Expr.Name _ _) _ [] _] _ _) _) _ _ _); k_dflt (refine LCg.ListComp_U (F₀ := by k_asm) (by with_unfolding_all rfl) (by decide) (by rfl) (by decide) (by rfl) ?_)))
  k_with "z0 eval ListComp" => ((k_here; (with_reducible show wpAny _ _ (eval (Expr.ListComp _ [Comprehension.mk (Expr.Name _ _) _ [_] _] _ _) _) _ _ _); k_dflt (refine LCt.ListComp_T (F₀ := by k_asm) (by with_unfolding_all rfl) (by decide) (by rfl) (by decide) (by rfl) ?_)))
  k_with "z0 eval ListComp" => ((k_here; (with_reducible show wpAny _ _ (eval (Expr.ListComp _ [Comprehension.mk (Expr.Tuple [Expr.Name _ _, Expr.Name _ _] _ _) _ [] _] _ _) _) _ _ _); k_dflt (refine LCp.ListComp_P (F₀ := by k_asm) (by with_unfolding_all rfl) (by decide) (by rfl) (by decide) (by rfl) (by rfl) (by decide) ?_)))
  k_with "z0 exec Assign cons ListComp" => ((k_here; (with_reducible show wpAny _ _ (exec (Stmt.Assign [_] (Expr.ListComp _ [Comprehension.mk (Expr.Name _ _) _ [] _] _ _) _) _) _ _ _); k_dflt (refine LCg.Assign_ListComp_U (F₀ := by k_asm) (by rfl) (by with_unfolding_all rfl) (by with_unfolding_all rfl) (by decide) (by rfl) (by decide) (by rfl) (by rfl) (by rfl) ?_)))
  k_with "z0 exec Assign cons ListComp" => ((k_here; (with_reducible show wpAny _ _ (exec (Stmt.Assign [_] (Expr.ListComp _ [Comprehension.mk (Expr.Tuple [Expr.Name _ _, Expr.Name _ _] _ _) _ [] _] _ _) _) _) _ _ _); k_dflt (refine LCp.Assign_ListComp_P (F₀ := by k_asm) (by rfl) (by with_unfolding_all rfl) (by with_unfolding_all rfl) (by decide) (by rfl) (by decide) (by rfl) (by rfl) (by decide) (by rfl) (by rfl) ?_)))
  k_with "z k_mem" => (((show _ ∈ (_ : List (Addr × Obj))); first | with_reducible assumption | with_reducible exact List.Mem.head _ | (with_reducible refine List.mem_cons_of_mem _ ?_; k_mem) | (with_reducible refine List.mem_append_right _ ?_; k_mem) | (with_reducible refine List.mem_append_left _ ?_; k_mem)))
  k_with "z0 exec For Tuple Attribute cons nil" => (((with_unfolding_all (refine' For_turns ?kF ?_)); (case kF => k_asm)))
  k_with "z0 exec For Tuple Name cons nil" => (((with_unfolding_all (refine' For_turns ?kF ?_)); (case kF => k_asm)))
  k_with "z0 exec For Tuple Call cons nil" => (((with_unfolding_all (refine' For_turns ?kF ?_)); (case kF => k_asm)))
  k_with "z0 exec For Tuple Subscript cons nil" => (((with_unfolding_all (refine' For_turns ?kF ?_)); (case kF => k_asm)))
  k_with "z0 pyIter ref" => (((with_reducible show wpAny _ _ (pyIter (Value.ref _)) (fun it s₂ => TurnsAt _ _ _ _ _ _ _ _ _ it s₂) _ _); refine Hold.mk ?_))
  k_with "z0 subscriptTail" => ((k_here; (with_reducible show wpAny _ _ (subscriptTail _ _ (Value.ref _) (Value.int _ _)) _ _ _); k_dflt (refine' item_list_ints ?l ?i ?a ?b ?c ?_; (case l => exact listIn (by k_asm) (by k_mem)); (case i => with_reducible assumption); (case a => omega); (case b => omega); (case c => omega); k_whole); intro _))
  k_with "z3 subscriptTail" => ((k_here; (with_reducible show wpAny _ _ (subscriptTail _ (PySem.Expr.Slice (some _) none none _) (Value.ref _) (Value.ref _)) _ _ _); k_dflt (refine' drop_list ?dlE ?dlF ?dlN ?dlM ?dlP ?dlQ ?dlX ?dlZ ?_ ?dlS ?dlT; (case dlE => exact rfl); (case dlF => k_asm); (case dlN => k_asm); (case dlM => k_mem); (case dlP => exact IsPart.int _ _); (case dlQ => exact IsPart.none); (case dlX => omega); (case dlS => with_unfolding_all rfl); (case dlT => kmk_pure); (case dlZ => ((try simp only [sizeLine_eq, List.length_cons, List.length_nil, List.length_append, List.length_drop, List.length_replicate, List.length_dropLast]); omega)))))
  k_with "z3 subscriptTail" => ((k_here; (with_reducible show wpAny _ _ (subscriptTail _ (PySem.Expr.Slice none (some _) none _) (Value.ref _) (Value.ref _)) _ _ _); k_dflt (refine' init_list ?dlE ?dlF ?dlN ?dlM ?dlQ ?dlP ?dlZ ?_ ?dlS ?dlT; (case dlE => exact rfl); (case dlF => k_asm); (case dlN => k_asm); (case dlM => k_mem); (case dlP => exact IsPart.int _ _); (case dlQ => exact IsPart.none); (case dlS => with_unfolding_all rfl); (case dlT => kmk_pure); (case dlZ => ((try simp only [sizeLine_eq, List.length_cons, List.length_nil, List.length_append, List.length_drop, List.length_replicate, List.length_dropLast]); omega)))))
  k_with "z3 subscriptTail" => ((k_here; (with_reducible show wpAny _ _ (subscriptTail _ (PySem.Expr.Slice none none (some _) _) (Value.ref _) (Value.ref _)) _ _ _); k_dflt (refine' revv_list ?dlE ?dlF ?dlN ?dlM ?dlP ?dlZ ?_ ?dlS ?dlT; (case dlE => exact rfl); (case dlF => k_asm); (case dlN => k_asm); (case dlM => k_mem); (case dlP => exact IsPart.int _ _); (case dlS => with_unfolding_all rfl); (case dlT => kmk_pure); (case dlZ => ((try simp only [sizeLine_eq, List.length_cons, List.length_nil, List.length_append, List.length_drop, List.length_replicate, List.length_dropLast]); omega)))))
  k_with "z3 binaryOp Add ref ref" => ((k_here; (with_reducible show wpAny _ _ (binaryOp _ (Value.ref _) (Value.ref _)) _ _ _); k_dflt (refine' add_l ?alF ?alN ?alA ?alB ?alZ ?_; (case alF => k_asm); (case alN => k_asm); (case alA => k_mem); (case alB => k_mem); (case alZ => ((try simp only [sizeLine_eq, List.length_cons, List.length_nil, List.length_append, List.length_drop, List.length_replicate, List.length_dropLast]); omega)))))
  k_with "z3 binaryOp Mult ref int" => ((k_here; (with_reducible show wpAny _ _ (binaryOp Operator.Mult (Value.ref _) (Value.int _ _)) _ _ _); k_dflt (refine' mul_l ?alF ?alN ?alA ?alB ?alZ ?_; (case alF => k_asm); (case alN => k_asm); (case alA => k_mem); (case alB => omega); (case alZ => omega))))
  trivial
def cmpF : List (Int × Int) → List Int → List Int → Int
  | [], _, _ => 0
  | (i, d) :: r, xs, ys => if xs.getD i.toNat 0 < ys.getD i.toNat 0 then -d else if xs.getD i.toNat 0 > ys.getD i.toNat 0 then d else cmpF r xs ys
theorem compare_does {w : World} (ps : List (Int × Int)) (as bs : List Int) (hp : ∀ p ∈ ps, 0 ≤ p.1 ∧ p.1 < as.length ∧ p.1 < bs.length ∧ -1 ≤ p.2 ∧ p.2 ≤ 1) (hb : ps.length < 1000) (ha9 : as.length < 1000) (hb9 : bs.length < 1000) :
    Does w 93 5 (fun news vs => ∃ x d D l r ds nd ls nl rs nr t, vs = [.ref x, .ref l, .ref r] ∧ (x, instObj 96 d) ∈ news ∧
      (d, dictOf [{ hash := PyData.keyHash w.params (Str.ofString "comp_select_list"), key := .str (Str.ofString "comp_select_list") t, val := .ref D }] 1) ∈ news ∧
      (D, W.listOf (List.toArray ds) nd) ∈ news ∧ PairsAre news ds ps ∧ (l, W.listOf (List.toArray ls) nl) ∈ news ∧ IntsAre ls as ∧ (r, W.listOf (List.toArray rs) nr) ∈ news ∧ IntsAre rs bs) (fun news r => ∃ t, r = .int (cmpF ps as bs) t) := by
  unfold Does
  k_fill
  w_top off
  intro loose mean mg mb dp un gd cn cs a ccd cl outer A₀ base h₀ L m news s vs Q E B F X N T hk hR hd hu hret
  obtain ⟨x, d, D, l, r, ds, nd, ls, nl, rs, nr, t, rfl, hx, hdd, hD, hps, hl, hls, hr, hrs⟩ := hR
  have hdl := hps.length
  refine wpAny_call ?_
  k_dflt ktr_enter
  k_steps
  unfold Hold
  rename Fr _ _ _ _ => F9
  rename News _ _ _ _ => N9
  refine loop_pat (σ := Unit) (fun _ => []) (fun _ => []) [Str.ofString "index", Str.ofString "direction", Str.ofString "l", Str.ofString "r"] (fun i _ _ => cmpF ps as bs = cmpF (ps.drop i) as bs) [] () news rfl hD F9 N9 (fun p hp => hp) (fun _ => rfl) (fun _ _ _ h => nomatch h) rfl (fun _ h => nomatch h) ?_ ?_
  · intro i v c rest tail h tk u hv hI hrt hoff hsub F'' N''
    obtain ⟨p, a1, b1, t1, u1, n1, rfl, hpm, hpi⟩ := hps.get hv
    obtain ⟨hp0, hp1, hp2, hp3, hp4⟩ := hp (a1, b1) (List.mem_of_getElem? hpi)
    dsimp only at hp0 hp1 hp2 hp3 hp4
    have hsubT : ∀ p ∈ news, p ∈ tail := fun p hp => hrt p (hsub p hp)
    have m1 := hsubT _ hpm
    have m2 := hsubT _ hl
    have m3 := hsubT _ hr
    dsimp only [names, kstB, List.contains_nil, List.nil_append] at F'' N''
    clear F9 N9
    k_steps
    all_goals rw [drop_get hpi] at hI
    · rename (_ : Int) < _ => hlt
      have hI' : cmpF ps as bs = -b1 := by rw [hI]; show (if _ then _ else _) = _; rw [if_pos hlt]
      unfold TPost
      dsimp only
      k_steps
      rename Fr _ _ _ _ => F8
      rename News _ _ _ _ => N8
      rw [← hI']
      exact does_ret2 hret [] F8 N8 hsubT (fun _ h => nomatch h) (fun _ h => nomatch h) ⟨_, rfl⟩
    · rename (_ : Int) < _ => hlt
      rename ¬ (_ : Int) < _ => hnl
      have hI' : cmpF ps as bs = b1 := by rw [hI]; show (if _ then _ else (if _ then _ else _)) = _; rw [if_neg hnl, if_pos hlt]
      unfold TPost
      dsimp only
      k_steps
      rename Fr _ _ _ _ => F8
      rename News _ _ _ _ => N8
      rw [← hI']
      exact does_ret2 hret [] F8 N8 hsubT (fun _ h => nomatch h) (fun _ h => nomatch h) ⟨_, rfl⟩
    · rename ¬ (_ : Int) < _ => hng
      revert hng
      rename ¬ (_ : Int) < _ => hnl
      intro hng
      have hI' : cmpF ps as bs = cmpF (ps.drop (i + 1)) as bs := by rw [hI]; show (if _ then _ else (if _ then _ else _)) = _; rw [if_neg hnl, if_neg hng]
      rename Fr _ _ _ _ => F8
      rename News _ _ _ _ => N8
      refine turn_next () [] F8 N8 (fun _ h => nomatch h) (fun p hp => hp) (fun _ h => nomatch h) hI' (fun _ h => nomatch h) ?_
      intro z _ _ h3
      have h4 := h3
      simp only [List.contains_cons, List.contains_nil, Bool.or_false, Bool.or_eq_false_iff, beq_eq_false_iff_ne] at h4
      obtain ⟨e1, e2, e3, e4⟩ := h4
      repeat (first | rw [if_neg e1] | rw [if_neg e2] | rw [if_neg e3] | rw [if_neg e4])
      rw [h3]
      rfl
  · clear F9 N9
    intro c tl h tk u ht hI F N
    have hl' : ps.drop ds.length = [] := by rw [hdl]; exact List.drop_length
    rw [hl'] at hI
    have hI' : cmpF ps as bs = 0 := hI
    dsimp only [names, kstB, List.contains_nil, List.nil_append] at F N
    k_steps
    rename Fr _ _ _ _ => F8
    rename News _ _ _ _ => N8
    rw [← hI']
    exact does_ret2 hret [] F8 N8 (fun p hp => List.mem_append.mpr (.inr hp)) (fun _ h => nomatch h) (fun _ h => nomatch h) ⟨_, rfl⟩
end
section
theorem said7 : True := by
  k_with_none
  k_with "z0 pyIter ref" => (((with_reducible show wpAny _ _ (pyIter (Value.ref _)) (fun it s₂ => LoopAtV _ _ _ _ _ _ _ _ _ it s₂) _ _); refine Hold.mk ?_))
  k_with "z range" => ((with_unfolding_all refine' range1_rows ?kF ?kN ?_); (case kF => k_asm); (case kN => k_asm))
  k_with "z0 getItem ref int" => ((k_here; (with_reducible show wpAny _ _ (getItem (Value.ref _) (Value.int (-1) _)) _ _ _); k_dflt (refine' get_last ?k1 ?k2 ?_; (case k1 => k_asm); (case k2 => k_mem); k_whole)))
  k_with "z1 setItem ref int" => ((k_here; (with_reducible show wpAny _ _ (setItem (Value.ref _) (Value.int (-1) _) _) _ _ _); k_dflt (refine' set_last ?k1 ?k2 ?k3 ?_; (case k1 => k_asm); (case k2 => k_asm); (case k3 => k_upd); k_whole)))
  k_with "z2 call builtin:list.append" => ((k_here; (with_reducible show wpAny _ _ (call (Value.builtin _) [Value.ref _, _]) _ _ _); k_dflt (refine' append_K ?k1 ?k2 ?k3 ?_ ?z; (case k1 => k_asm); (case k2 => k_asm); (case k3 => k_upd); (case z => first | assumption | size_fits | (simp only [List.size_toArray, List.length_append, List.length_cons, List.length_nil, sizeLine_eq]; omega)); k_whole)))
  k_with "z0 exec While Compare cons nil" => (((with_reducible show wpAny _ _ (exec (Stmt.While _ _ _ _) _) _ _ _); refine Hold.mk ?_))
  k_with "z kmk_list" => (exact listIn (by k_asm) (by k_mem))
  k_with "z is_list" => (exact listIn (by k_asm) (by k_mem))
  k_with "z k_mem" => (((show _ ∈ (_ : List (Addr × Obj))); with_reducible assumption))
  k_with "z3 subscriptTail" => ((k_here; (with_reducible show wpAny _ _ (subscriptTail _ (PySem.Expr.Slice none none (some _) _) (Value.ref _) (Value.ref _)) _ _ _); k_dflt (refine' rev_list ?F ?N ?l ?k ?z ?_ ?s ?t; (case F => k_asm); (case N => k_asm); (case l => k_mem); (case k => exact IsPart.int _ _); (case s => with_unfolding_all rfl); (case t => kmk_pure); (case z => (simp only [sizeLine_eq]; omega)))))
  k_with "z0 exec For Name Subscript cons nil" => ((with_unfolding_all (refine' my_For ?kF ?k1 ?k2 ?_; (case k1 => exact rfl); (case k2 => exact rfl)); (case kF => k_asm)))
  k_with "z0 exec For Name Call cons nil" => ((with_unfolding_all (refine' my_For ?kF ?k1 ?k2 ?_; (case k1 => exact rfl); (case k2 => exact rfl)); (case kF => k_asm)))
  k_with "z0 exec For Name Name cons nil" => ((with_unfolding_all (refine' my_For ?kF ?k1 ?k2 ?_; (case k1 => exact rfl); (case k2 => exact rfl)); (case kF => k_asm)))
  k_with "z enter" => (refine' code_defC ?k1 ?k2 ?k3 ?k4 ?k5 ?kA ?kF ?kK ?k6 ?k7 ?k8 ?k9 ?kB ?kD ?_ ?c2 ?c3 ?c4; (case kA => exact rfl); (case kF => exact rfl); (case kK => assumption); (case k1 => k_asm); (case k2 => k_asm); (case k3 => k_asm); (case k4 => k_asm); (case k5 => k_asm); (case k6 => k_is); (case k7 => k_is); (case k8 => ktr_room); (case k9 => exact BindsTo.of_eq rfl); (case kB => exact rfl); (case kD => decide +kernel); (case c2 => exact rfl); (case c3 => exact rfl); (case c4 => exact rfl); k_whole)
  k_with "z0 eval ListComp" => (((with_reducible show wpAny _ _ (eval (Expr.ListComp _ _ _ _) _) _ _ _); refine Hold.mk ?_))
  k_with "z0 exec Assign cons ListComp" => (((with_reducible show wpAny _ _ (exec (Stmt.Assign [_] (Expr.ListComp _ _ _ _) _) _) _ _ _); refine Hold.mk ?_))
  k_with "z0 CompSrc" => ((refine Hold.mk ?_))
  k_with "z0 CompSrcT" => ((refine Hold.mk ?_))
  k_with "z0 SrcLP" => ((refine Hold.mk ?_))
  k_with "z0 CompEnd" => ((refine Hold.mk ?_))
  k_with "z k_steps" => (repeat' (first | (k_unfold; (try dsimp only)) | (walk1; (try dsimp only)) | (dsimp only; walk1; (try dsimp only)) | (leave1; walk_say "STEP leave1"; try dsimp only) | fail "no step"))
  k_with "z4 call builtin:sum" => ((k_here; (with_reducible show wpAny _ _ (call (Value.builtin "sum") [Value.ref _]) _ _ _); k_dflt (refine' sumK ?kz ?kF ?kN ?kl ?ki ?_; (case kz => exact rfl); (case kF => k_asm); (case kN => k_asm); (case kl => exact listIn (by k_asm) (by k_mem)); (case ki => assumption); k_whole)))
  k_with "z0 eval ListComp" => ((k_here; (with_reducible show wpAny _ _ (eval (Expr.ListComp _ [Comprehension.mk (Expr.Name _ _) _ [] _] _ _) _) _ _ _); k_dflt (refine LCg.ListComp_U (F₀ := by k_asm) (by with_unfolding_all rfl) (by decide) (by rfl) (by decide) (by rfl) ?_)))
  k_with "z0 eval ListComp" => ((k_here; (with_reducible show wpAny _ _ (eval (Expr.ListComp _ [Comprehension.mk (Expr.Name _ _) _ [_] _] _ _) _) _ _ _); k_dflt (refine LCt.ListComp_T (F₀ := by k_asm) (by with_unfolding_all rfl) (by decide) (by rfl) (by decide) (by rfl) ?_)))
  k_with "z0 eval ListComp" => ((k_here; (with_reducible show wpAny _ _ (eval (Expr.ListComp _ [Comprehension.mk (Expr.Tuple [Expr.Name _ _, Expr.Name _ _] _ _) _ [] _] _ _) _) _ _ _); k_dflt (refine LCp.ListComp_P (F₀ := by k_asm) (by with_unfolding_all rfl) (by decide) (by rfl) (by decide) (by rfl) (by rfl) (by decide) ?_)))
  k_with "z0 exec Assign cons ListComp" => ((k_here; (with_reducible show wpAny _ _ (exec (Stmt.Assign [_] (Expr.ListComp _ [Comprehension.mk (Expr.Name _ _) _ [] _] _ _) _) _) _ _ _); k_dflt (refine LCg.Assign_ListComp_U (F₀ := by k_asm) (by rfl) (by with_unfolding_all rfl) (by with_unfolding_all rfl) (by decide) (by rfl) (by decide) (by rfl) (by rfl) (by rfl) ?_)))
  k_with "z0 exec Assign cons ListComp" => ((k_here; (with_reducible show wpAny _ _ (exec (Stmt.Assign [_] (Expr.ListComp _ [Comprehension.mk (Expr.Tuple [Expr.Name _ _, Expr.Name _ _] _ _) _ [] _] _ _) _) _) _ _ _); k_dflt (refine LCp.Assign_ListComp_P (F₀ := by k_asm) (by rfl) (by with_unfolding_all rfl) (by with_unfolding_all rfl) (by decide) (by rfl) (by decide) (by rfl) (by rfl) (by decide) (by rfl) (by rfl) ?_)))
  k_with "z k_mem" => (((show _ ∈ (_ : List (Addr × Obj))); first | with_reducible assumption | with_reducible exact List.Mem.head _ | (with_reducible refine List.mem_cons_of_mem _ ?_; k_mem) | (with_reducible refine List.mem_append_right _ ?_; k_mem) | (with_reducible refine List.mem_append_left _ ?_; k_mem)))
  k_with "z0 exec For Tuple Attribute cons nil" => (((with_unfolding_all (refine' For_turns ?kF ?_)); (case kF => k_asm)))
  k_with "z0 exec For Tuple Name cons nil" => (((with_unfolding_all (refine' For_turns ?kF ?_)); (case kF => k_asm)))
  k_with "z0 exec For Tuple Call cons nil" => (((with_unfolding_all (refine' For_turns ?kF ?_)); (case kF => k_asm)))
  k_with "z0 exec For Tuple Subscript cons nil" => (((with_unfolding_all (refine' For_turns ?kF ?_)); (case kF => k_asm)))
  k_with "z0 pyIter ref" => (((with_reducible show wpAny _ _ (pyIter (Value.ref _)) (fun it s₂ => TurnsAt _ _ _ _ _ _ _ _ _ it s₂) _ _); refine Hold.mk ?_))
  k_with "z0 subscriptTail" => ((k_here; (with_reducible show wpAny _ _ (subscriptTail _ _ (Value.ref _) (Value.int _ _)) _ _ _); k_dflt (refine' item_list_ints ?l ?i ?a ?b ?c ?_; (case l => exact listIn (by k_asm) (by k_mem)); (case i => with_reducible assumption); (case a => omega); (case b => omega); (case c => omega); k_whole); intro _))
  k_with "z3 subscriptTail" => ((k_here; (with_reducible show wpAny _ _ (subscriptTail _ (PySem.Expr.Slice (some _) none none _) (Value.ref _) (Value.ref _)) _ _ _); k_dflt (refine' drop_list ?dlE ?dlF ?dlN ?dlM ?dlP ?dlQ ?dlX ?dlZ ?_ ?dlS ?dlT; (case dlE => exact rfl); (case dlF => k_asm); (case dlN => k_asm); (case dlM => k_mem); (case dlP => exact IsPart.int _ _); (case dlQ => exact IsPart.none); (case dlX => omega); (case dlS => with_unfolding_all rfl); (case dlT => kmk_pure); (case dlZ => ((try simp only [sizeLine_eq, List.length_cons, List.length_nil, List.length_append, List.length_drop, List.length_replicate, List.length_dropLast]); omega)))))
  k_with "z3 subscriptTail" => ((k_here; (with_reducible show wpAny _ _ (subscriptTail _ (PySem.Expr.Slice none (some _) none _) (Value.ref _) (Value.ref _)) _ _ _); k_dflt (refine' init_list ?dlE ?dlF ?dlN ?dlM ?dlQ ?dlP ?dlZ ?_ ?dlS ?dlT; (case dlE => exact rfl); (case dlF => k_asm); (case dlN => k_asm); (case dlM => k_mem); (case dlP => exact IsPart.int _ _); (case dlQ => exact IsPart.none); (case dlS => with_unfolding_all rfl); (case dlT => kmk_pure); (case dlZ => ((try simp only [sizeLine_eq, List.length_cons, List.length_nil, List.length_append, List.length_drop, List.length_replicate, List.length_dropLast]); omega)))))
  k_with "z3 subscriptTail" => ((k_here; (with_reducible show wpAny _ _ (subscriptTail _ (PySem.Expr.Slice none none (some _) _) (Value.ref _) (Value.ref _)) _ _ _); k_dflt (refine' revv_list ?dlE ?dlF ?dlN ?dlM ?dlP ?dlZ ?_ ?dlS ?dlT; (case dlE => exact rfl); (case dlF => k_asm); (case dlN => k_asm); (case dlM => k_mem); (case dlP => exact IsPart.int _ _); (case dlS => with_unfolding_all rfl); (case dlT => kmk_pure); (case dlZ => ((try simp only [sizeLine_eq, List.length_cons, List.length_nil, List.length_append, List.length_drop, List.length_replicate, List.length_dropLast]); omega)))))
  k_with "z3 binaryOp Add ref ref" => ((k_here; (with_reducible show wpAny _ _ (binaryOp _ (Value.ref _) (Value.ref _)) _ _ _); k_dflt (refine' add_l ?alF ?alN ?alA ?alB ?alZ ?_; (case alF => k_asm); (case alN => k_asm); (case alA => k_mem); (case alB => k_mem); (case alZ => ((try simp only [sizeLine_eq, List.length_cons, List.length_nil, List.length_append, List.length_drop, List.length_replicate, List.length_dropLast]); omega)))))
  k_with "z3 binaryOp Mult ref int" => ((k_here; (with_reducible show wpAny _ _ (binaryOp Operator.Mult (Value.ref _) (Value.int _ _)) _ _ _); k_dflt (refine' mul_l ?alF ?alN ?alA ?alB ?alZ ?_; (case alF => k_asm); (case alN => k_asm); (case alA => k_mem); (case alB => omega); (case alZ => omega))))
  k_with "z0 call ref" => (((with_reducible show wpAny _ _ (call (Value.ref _) _) _ _ _); refine Hold.mk ?_))
  k_with "z cls1" => (refine' call_cls ?k1 ?k2 ?k3 ?k4 ?k5 ?k6 ?_; (case k1 => k_asm); (case k2 => k_asm); (case k3 => k_asm); (case k4 => k_is); (case k5 => k_is); (case k6 => k_is))
  k_with "z cls2" => (refine' code_def ?k1 ?k2 ?k3 ?k4 ?k5 ?kA ?kF ?kK ?k6 ?k7 ?k8 ?k9 ?kB ?_ ?c2 ?c3 ?c4 ?c5; (case kA => exact rfl); (case kF => exact rfl); (case kK => exact rfl); (case k1 => k_asm); (case k2 => k_asm); (case k3 => k_asm); (case k4 => k_asm); (case k5 => k_asm); (case k6 => k_is); (case k7 => k_is); (case k8 => ktr_room); (case k9 => exact BindsTo.of_eq rfl); (case c5 => decide); (case kB => exact locs rfl); (case c2 => exact rfl); (case c3 => exact rfl); (case c4 => exact rfl))
  trivial
local macro_rules | `(tactic| walk_at "call ref") => `(tactic| (k_here; k_dflt ((with_reducible show wpAny _ _ (call (Value.ref 96) _) _ _ _); (k_extra "z cls1"; (k_whole; intro x' d' h' F' N' l1 l2); (try k_lt l1); (try k_lt2 l2); (try k_sweep);  (k_extra "z cls2"; k_whole; intro g' L' h' FG' F' N' B' X' T'; (try dsimp only); (try k_fold))))))
def dirs : Nat → List (Int × Int)
  | 0 => []
  | i + 1 => dirs i ++ [((i : Int), 2 * Int.fmod (i : Int) 2 - 1)]
def val1 (row : List Int) (place : Nat) (first : Int) : Int :=
  let here := first :: (row.drop (place + 1) ++ List.replicate (place + 2) 99)
  if cmpF (dirs (row.length + 1)) here.tail here < 0 then first - 1 else first
def valP (row : List Int) (place : Nat) : Nat → List Int
  | 0 => []
  | k + 1 => valP row place k ++ [val1 row place (row.getD place 0 - k)]
def valsF (row : List Int) : Nat → List Int
  | 0 => []
  | i + 1 => valsF row i ++ valP row i (row.getD i 0).toNat
theorem dirs_at : ∀ (n : Nat), ∀ p ∈ dirs n, 0 ≤ p.1 ∧ p.1 < n ∧ -1 ≤ p.2 ∧ p.2 ≤ 1
  | 0, _, h => nomatch h
  | n + 1, p, h => by
    rcases List.mem_append.mp h with h | h
    · have := dirs_at n p h; omega
    · rw [List.mem_singleton.mp h]
      dsimp only
      have : 0 ≤ Int.fmod (n : Int) 2 ∧ Int.fmod (n : Int) 2 < 2 := by
        rw [Int.fmod_eq_emod_of_nonneg _ (by decide)]
        omega
      omega
theorem dirs_len : ∀ n : Nat, (dirs n).length = n
  | 0 => rfl
  | n + 1 => by show (dirs n ++ [_]).length = _; rw [List.length_append, dirs_len n]; rfl
theorem valP_len (row : List Int) (place : Nat) : ∀ k : Nat, (valP row place k).length = k
  | 0 => rfl
  | k + 1 => by show (valP row place k ++ [_]).length = _; rw [List.length_append, valP_len row place k]; rfl
theorem valsF_len (row : List Int) (hr : ∀ q ∈ row, 1 ≤ q ∧ q ≤ 7) : ∀ i : Nat, (valsF row i).length ≤ 7 * i
  | 0 => Nat.le_refl _
  | i + 1 => by
    show (valsF row i ++ valP row i (row.getD i 0).toNat).length ≤ _
    have h := valsF_len row hr i
    have : (row.getD i 0).toNat ≤ 7 := by
      by_cases hi : i < row.length
      · rw [List.getD_eq_getElem?_getD, List.getElem?_eq_getElem hi]
        have := hr _ (List.getElem_mem hi)
        show (row[i]).toNat ≤ 7
        omega
      · rw [List.getD_eq_getElem?_getD, List.getElem?_eq_none (by omega)]
        decide
    rw [List.length_append, valP_len]
    omega
theorem values_does {w : World} (old : List (Addr × Obj)) (row : List Int) (hr : ∀ q ∈ row, 1 ≤ q ∧ q ≤ 7) (hl : row.length ≤ 6) (hl1 : 1 ≤ row.length) :
    Does w 147 8 (fun news vs => news = old ∧ ∃ v, vs = [v] ∧ IntsIn news v row) (fun news r => ∃ tl, news = old ++ tl ∧ IntsIn tl r (valsF row row.length)) := by
  unfold Does
  k_fill
  w_top off
  intro loose mean mg mb dp un gd cn cs a ccd cl outer A₀ base h₀ L m news s vs Q E B F X N T hk hR hd hu hret
  obtain ⟨hold, v, rfl, ra, xs, nx, rfl, hm, hx⟩ := hR
  have hxl := hx.length
  refine wpAny_call ?_
  k_dflt ktr_enter
  k_steps
  unfold Hold
  rename Fr _ _ _ _ => F9
  rename News _ _ _ _ => N9
  rename IsRange _ _ _ _ _ _ _ _ => R9
  have hz : (xs.toArray.size : Int) = row.length := by rw [List.size_toArray, hxl]
  refine LCg.CompSrc.range (n := row.length + 1) rfl F9 N9 R9 (small_one (by omega) (by omega) (by omega) (by omega)) (by rw [rangeSize_nat]; omega) (by rw [sizeLine_eq]; omega) ?_
  intro g
  refine rest_U (n := row.length + 1) (fun i ys led => ∃ tl, led = tl ++ news ∧ (∀ p ∈ tl, ∀ q ∈ news, q.1 ≠ p.1) ∧ PairsAre led ys (dirs i)) ?_ ?_ (row.length + 1) 0 [] _ (by omega) ⟨[], rfl, (fun _ h => nomatch h), PairsAre.nil⟩
  · intro i ys led v I oI C oC D m₂ h tk E' hi hJ hv hC hx F N off ne
    refine hideQ ?_
    intro Q7 hQt7
    obtain ⟨tl, rfl, htl, hys⟩ := hJ
    obtain ⟨t', rfl⟩ := hv
    have hp : (0 : Int) + (i : Int) ≤ 6 := by omega
    have hq : (0 : Int) ≤ 0 + (i : Int) := by omega
    clear F9 N9 R9
    dsimp only
    k_steps
    rename News _ _ _ _ => N8
    rename (_ ∧ _ ∧ _ ∧ AllLt _ _) => l8
    obtain ⟨li, lc, ld, la⟩ := l8
    have la' := AllLt.mem' la
    have e0 : (0 : Int) + (i : Int) = (i : Int) := by omega
    refine hQt7 _ _ ?_
    refine cend_new [(_, _)] (by assumption) N8 (fun p hp => .tail _ hp) (List.forall_mem_singleton.mpr (.head _)) off ?_ trivial ⟨_ :: tl, rfl, ?_, ?_⟩
    · refine List.forall_mem_singleton.mpr (List.forall_mem_cons.mpr ⟨Nat.ne_of_lt li, List.forall_mem_cons.mpr ⟨Nat.ne_of_lt lc, List.forall_mem_cons.mpr ⟨Nat.ne_of_lt ld, fun q hq => Nat.ne_of_lt (la' q hq)⟩⟩⟩)
    · exact List.forall_mem_cons.mpr ⟨fun q hq => Nat.ne_of_lt (la' q (List.mem_append.mpr (.inr hq))), htl⟩
    · refine PairsAre.append (PairsAre.mono (fun p hp => .tail _ hp) hys) ?_
      rw [e0]
      exact .cons (.head _) .nil
  · rintro ys led ⟨tl, rfl, htl, hys⟩
    unfold LCg.FinE
    intro D h' tk F' N' o1
    have o1' := Off1.mem o1
    clear F9 N9 R9
    dsimp only
    k_steps
    k_steps
    unfold Hold
    rename Fr _ _ _ _ => F9
    rename News _ _ _ _ => N9
    rename IsRange _ _ _ _ _ _ _ _ => R9
    rename_i x₂ d₂ h6 l1a l2 g5 L5 h5 Bg Xg Tg tk2 h4 Fa Na tk1 Tc kX h3 tk0 lv h2 l1b h1 Fb Nb h0 tk' t1 u1 v1
    clear Fa Na Fb Nb Bg Xg Tg
    obtain ⟨la, lb, lc, ld⟩ := l1b
    have ld' := AllLt.mem' ld
    refine loop_range (σ := List Value × Nat) (n := row.length) (fun c => [(lv, W.listOf c.1.toArray c.2)]) (fun _ => []) [Str.ofString "first", Str.ofString "here"] (fun i c _ => IntsAre c.1 (valsF row i)) [lv] ([], 0) _ rfl R9
      (small_one (by omega) (by omega) (by omega) (by omega)) (by rw [rangeSize_nat]; omega) F9 N9 (fun p hp => hp) (fun _ => rfl) ?_ .nil (fun _ h => nomatch h) ?_ ?_
    · intro p hp b hb
      rw [List.mem_singleton.mp hb]
      rcases List.mem_cons.mp hp with rfl | hp
      · exact Nat.ne_of_lt la
      · rcases List.mem_cons.mp hp with rfl | hp
        · exact Nat.ne_of_lt lb
        · rcases List.mem_cons.mp hp with rfl | hp
          · exact Nat.ne_of_lt lc
          · exact Nat.ne_of_lt (ld' p hp)
    · clear F9 N9 R9
      intro i c rest tail h tk t u hi hI hrt hoff hsub F'' N''
      refine hideQ ?_
      intro Q8 hQt8
      obtain ⟨vs, nn⟩ := c
      dsimp only [names, kstB, List.contains_nil] at F''
      dsimp only [List.singleton_append] at N'' hI
      have hIl := hI.length
      have hoff1 : ∀ p ∈ tail, p.1 ≠ lv := fun p hp => hoff p hp lv (.head _)
      have hsubT := fun p hp => hrt p (hsub p hp)
      have hrow : (ra, W.listOf xs.toArray nx) ∈ tail := hsubT _ (.tail _ (.tail _ (.tail _ (List.mem_append.mpr (.inr hm)))))
      have hq0 : (0 : Int) ≤ 0 + (i : Int) := by omega
      have hq1 : (0 : Int) + (i : Int) < row.length := by omega
      k_steps
      have hlv : (tail : List (Addr × Obj)) = tail := rfl
      have hri : row.getD i 0 ∈ row := by
        rw [List.getD_eq_getElem?_getD, List.getElem?_eq_getElem hi]
        exact List.getElem_mem hi
      obtain ⟨hr1, hr7⟩ := hr _ hri
      have e0 : (0 + (i : Int)).toNat = i := by omega
      unfold Hold
      rename Fr _ _ _ _ => F9
      rename News _ _ _ _ => N9
      rename IsRange _ _ _ _ _ _ _ _ => R9
      rw [e0] at R9
      refine loop_down (σ := List Value × Nat) (n := (row.getD i 0).toNat) (fun c => [(lv, W.listOf c.1.toArray c.2)]) (fun _ => []) [Str.ofString "here"] (fun j c _ => IntsAre c.1 (valsF row i ++ valP row i j)) [lv] (vs, nn) tail rfl R9
        (small_down (by omega) (by omega) (by omega) (by omega)) (by rw [rangeSize_downNat]; omega) F9 N9 (fun p hp => hp) (fun _ => rfl) hoff (by rw [show valP row i 0 = [] from rfl, List.append_nil]; exact hI) (fun _ h => nomatch h) ?_ ?_
      · clear F9 N9 R9 hI
        intro j c rest2 tail2 h tk t' u' hj hI hrt2 hoff2 hsub2 F'' N''
        refine hideQ ?_
        intro Q9 hQt9
        obtain ⟨vs2, nn2⟩ := c
        dsimp only [names, kstB, List.contains_nil] at F''
        dsimp only [List.singleton_append] at N'' hI
        have hIl2 := hI.length
        rw [List.length_append, valP_len] at hIl2
        have hvl := valsF_len row hr i
        have hvz : vs2.length < 100 := by omega
        have hoff3 : ∀ p ∈ tail2, p.1 ≠ lv := fun p hp => hoff2 p hp lv (.head _)
        have hsubT2 := fun p hp => hrt2 p (hsub2 p hp)
        have hrow2 := hsubT2 _ hrow
        have hx2 := hsubT2 _ (hsubT _ (.head _))
        have hd2 := hsubT2 _ (hsubT _ (.tail _ (.head _)))
        have hD2 := hsubT2 _ (hsubT _ (.tail _ (.tail _ (.head _))))
        have hys2 : PairsAre tail2 ys (dirs (row.length + 1)) := PairsAre.mono (fun p hp => hsubT2 _ (hsubT _ (.tail _ (.tail _ (.tail _ hp))))) hys
        k_steps
        unfold Hold
        rename Fr _ _ _ _ => F9
        rename News _ _ _ _ => N9
        have e1 : (0 + (i : Int) + 1).toNat = i + 1 := by omega
        have e2 : (0 + (i : Int) + 2).toNat = i + 2 := by omega
        rw [e1, e2] at N9
        have hb := fun tq : Tok => ints_app (IntsAre.cons (row.getD i 0 - (j : Int)) t' (ints_drop hx (i + 1))) (ints_repl 99 tq (i + 2))
        have ha := fun tq : Tok => ints_drop (hb tq) 1
        have hdl := dirs_len (row.length + 1)
        have hz1 : (row.drop (i + 1) ++ List.replicate (i + 2) (99 : Int)).length = row.length + 1 := by rw [List.length_append, List.length_drop, List.length_replicate]; omega
        have hlvm : ∀ {o : List (Addr × Obj)} {a1 a2 a3 a4 a5 a6 a7 : Addr × Obj}, ∀ p ∈ o, p ∈ (a1 :: a2 :: a3 :: a4 :: a5 :: a6 :: a7 :: o) := fun p hp => .tail _ (.tail _ (.tail _ (.tail _ (.tail _ (.tail _ (.tail _ hp))))))
        with_unfolding_all refine' use_does (compare_does (dirs (row.length + 1)) (row.drop (i + 1) ++ List.replicate (i + 2) 99) ((row.getD i 0 - (j : Int)) :: (row.drop (i + 1) ++ List.replicate (i + 2) 99)) ?h1 ?h2 ?h3 ?h4) ?k1 F9 ?k3 N9 ?k5 ?k6 ⟨x₂, d₂, D, _, _, ys, _, _, _, _, _, _, rfl, hlvm _ (.tail _ hx2), hlvm _ (.tail _ hd2), hlvm _ (.tail _ hD2), PairsAre.mono (fun p hp => hlvm p (.tail _ hp)) hys2, .head _, ?r5, .tail _ (.head _), ?r6⟩ ?k8 ?k9 ?_
        case r5 => exact ha _
        case r6 => exact hb _
        case k1 => k_asm
        case k3 => k_asm
        case k5 => k_asm
        case k6 => exact rfl
        case k8 => ktr_room
        case k9 => ktr_units
        case h1 =>
          intro p hp
          have := dirs_at _ p hp
          rw [List.length_cons, hz1]
          omega
        case h2 => rw [hdl]; omega
        case h3 => rw [hz1]; omega
        case h4 => rw [List.length_cons, hz1]; omega
        intro v tl' h' tk' F1 N1 ho hout
        obtain ⟨tz, rfl⟩ := hout
        have N2 : News _ _ h' ((lv, W.listOf vs2.toArray nn2) :: tail2) := fun p hp => N1 p (List.mem_append.mpr (.inl (hlvm p hp)))
        clear N1 ho N9 F9
        k_steps
        · rename News _ _ _ _ => N8
          rename Fr _ _ _ _ => F8
          rename (_ : Int) < _ => hcmp
          refine hQt9 _ _ ?_
          refine turn_one F8 N8 ?_ (fun _ h => nomatch h) ?_
          · show IntsAre _ (valsF row i ++ (valP row i j ++ [val1 row i (row.getD i 0 - j)]))
            rw [← List.append_assoc]
            refine ints_app hI ?_
            have hval : val1 row i (row.getD i 0 - j) = row.getD i 0 - j - 1 := if_pos hcmp
            rw [hval]
            exact .cons _ _ .nil
          · intro z h1 _ h3
            have h4 := h3
            simp only [List.contains_cons, List.contains_nil, Bool.or_false, beq_eq_false_iff_ne] at h4
            repeat (first | rw [if_neg h1] | rw [if_neg h4])
            rw [h3]
            rfl
        · rename News _ _ _ _ => N8
          rename Fr _ _ _ _ => F8
          rename ¬ (_ : Int) < _ => hcmp
          refine hQt9 _ _ ?_
          refine turn_one F8 N8 ?_ (fun _ h => nomatch h) ?_
          · show IntsAre _ (valsF row i ++ (valP row i j ++ [val1 row i (row.getD i 0 - j)]))
            rw [← List.append_assoc]
            refine ints_app hI ?_
            have hval : val1 row i (row.getD i 0 - j) = row.getD i 0 - j := if_neg hcmp
            rw [hval]
            exact .cons _ _ .nil
          · intro z h1 _ h3
            have h4 := h3
            simp only [List.contains_cons, List.contains_nil, Bool.or_false, beq_eq_false_iff_ne] at h4
            repeat (first | rw [if_neg h1] | rw [if_neg h4])
            rw [h3]
            rfl
      · clear F9 N9 R9 hI
        intro c tl2 h tk u ht hI F'' N''
        obtain ⟨vs3, nn3⟩ := c
        dsimp only [names, kstB, List.contains_nil] at F''
        dsimp only [List.singleton_append] at N'' hI
        k_steps
        rename News _ _ _ _ => N8
        rename Fr _ _ _ _ => F8
        refine hQt8 _ _ ?_
        refine turn_next (vs3, nn3) tl2 F8 N8 ?_ (fun p hp => .tail _ (List.mem_append.mpr (.inr hp))) (fun p hp q hq => ht p hp q hq) hI (fun _ h => nomatch h) ?_
        · intro p hp
          rcases List.mem_cons.mp hp with rfl | hp
          · exact .head _
          · exact .tail _ (List.mem_append.mpr (.inl hp))
        · intro z h1 _ h3
          have h4 := h3
          simp only [List.contains_cons, List.contains_nil, Bool.or_false, Bool.or_eq_false_iff, beq_eq_false_iff_ne] at h4
          obtain ⟨e3, e4⟩ := h4
          repeat (first | rw [if_neg h1] | rw [if_neg e3] | rw [if_neg e4])
          have h5 : [Str.ofString "here"].contains z = false := by
            simp only [List.contains_cons, List.contains_nil, Bool.or_false, beq_eq_false_iff_ne]
            exact e4
          rw [h5, h3]
          rfl
    · clear F9 N9 R9
      intro c tl2 h tk u ht hI F'' N''
      obtain ⟨vs3, nn3⟩ := c
      dsimp only [names, kstB, List.contains_nil] at F''
      dsimp only [List.singleton_append] at N'' hI
      k_steps
      rename News _ _ _ _ => N8
      rename Fr _ _ _ _ => F8
      refine does_ret2 hret [(lv, W.listOf vs3.toArray nn3)] F8 N8 ?_ (List.forall_mem_singleton.mpr (.head _)) ?_ ⟨_, by rw [hold], lv, vs3, nn3, rfl, .head _, hI⟩
      · intro q hq
        exact .tail _ (List.mem_append.mpr (.inr (.tail _ (.tail _ (.tail _ (List.mem_append.mpr (.inr hq)))))))
      · exact List.forall_mem_singleton.mpr (fun q hq => Nat.ne_of_lt (ld' q (List.mem_append.mpr (.inr hq))))
end
section
theorem said8 : True := by
  k_with_none
  k_with "z0 pyIter ref" => (((with_reducible show wpAny _ _ (pyIter (Value.ref _)) (fun it s₂ => LoopAtV _ _ _ _ _ _ _ _ _ it s₂) _ _); refine Hold.mk ?_))
  k_with "z range" => ((with_unfolding_all refine' range1_rows ?kF ?kN ?_); (case kF => k_asm); (case kN => k_asm))
  k_with "z0 getItem ref int" => ((k_here; (with_reducible show wpAny _ _ (getItem (Value.ref _) (Value.int (-1) _)) _ _ _); k_dflt (refine' get_last ?k1 ?k2 ?_; (case k1 => k_asm); (case k2 => k_mem); k_whole)))
  k_with "z1 setItem ref int" => ((k_here; (with_reducible show wpAny _ _ (setItem (Value.ref _) (Value.int (-1) _) _) _ _ _); k_dflt (refine' set_last ?k1 ?k2 ?k3 ?_; (case k1 => k_asm); (case k2 => k_asm); (case k3 => k_upd); k_whole)))
  k_with "z2 call builtin:list.append" => ((k_here; (with_reducible show wpAny _ _ (call (Value.builtin _) [Value.ref _, _]) _ _ _); k_dflt (refine' append_K ?k1 ?k2 ?k3 ?_ ?z; (case k1 => k_asm); (case k2 => k_asm); (case k3 => k_upd); (case z => first | assumption | size_fits | (simp only [List.size_toArray, List.length_append, List.length_cons, List.length_nil, sizeLine_eq]; omega)); k_whole)))
  k_with "z0 exec While Compare cons nil" => (((with_reducible show wpAny _ _ (exec (Stmt.While _ _ _ _) _) _ _ _); refine Hold.mk ?_))
  k_with "z kmk_list" => (exact listIn (by k_asm) (by k_mem))
  k_with "z is_list" => (exact listIn (by k_asm) (by k_mem))
  k_with "z k_mem" => (((show _ ∈ (_ : List (Addr × Obj))); with_reducible assumption))
  k_with "z3 subscriptTail" => ((k_here; (with_reducible show wpAny _ _ (subscriptTail _ (PySem.Expr.Slice none none (some _) _) (Value.ref _) (Value.ref _)) _ _ _); k_dflt (refine' rev_list ?F ?N ?l ?k ?z ?_ ?s ?t; (case F => k_asm); (case N => k_asm); (case l => k_mem); (case k => exact IsPart.int _ _); (case s => with_unfolding_all rfl); (case t => kmk_pure); (case z => (simp only [sizeLine_eq]; omega)))))
  k_with "z0 exec For Name Subscript cons nil" => ((with_unfolding_all (refine' my_For ?kF ?k1 ?k2 ?_; (case k1 => exact rfl); (case k2 => exact rfl)); (case kF => k_asm)))
  k_with "z0 exec For Name Call cons nil" => ((with_unfolding_all (refine' my_For ?kF ?k1 ?k2 ?_; (case k1 => exact rfl); (case k2 => exact rfl)); (case kF => k_asm)))
  k_with "z0 exec For Name Name cons nil" => ((with_unfolding_all (refine' my_For ?kF ?k1 ?k2 ?_; (case k1 => exact rfl); (case k2 => exact rfl)); (case kF => k_asm)))
  k_with "z enter" => (refine' code_defC ?k1 ?k2 ?k3 ?k4 ?k5 ?kA ?kF ?kK ?k6 ?k7 ?k8 ?k9 ?kB ?kD ?_ ?c2 ?c3 ?c4; (case kA => exact rfl); (case kF => exact rfl); (case kK => assumption); (case k1 => k_asm); (case k2 => k_asm); (case k3 => k_asm); (case k4 => k_asm); (case k5 => k_asm); (case k6 => k_is); (case k7 => k_is); (case k8 => ktr_room); (case k9 => exact BindsTo.of_eq rfl); (case kB => exact rfl); (case kD => decide +kernel); (case c2 => exact rfl); (case c3 => exact rfl); (case c4 => exact rfl); k_whole)
  k_with "z0 eval ListComp" => (((with_reducible show wpAny _ _ (eval (Expr.ListComp _ _ _ _) _) _ _ _); refine Hold.mk ?_))
  k_with "z0 exec Assign cons ListComp" => (((with_reducible show wpAny _ _ (exec (Stmt.Assign [_] (Expr.ListComp _ _ _ _) _) _) _ _ _); refine Hold.mk ?_))
  k_with "z0 CompSrc" => ((refine Hold.mk ?_))
  k_with "z0 CompSrcT" => ((refine Hold.mk ?_))
  k_with "z0 SrcLP" => ((refine Hold.mk ?_))
  k_with "z0 CompEnd" => ((refine Hold.mk ?_))
  k_with "z k_steps" => (repeat' (first | (k_unfold; (try dsimp only)) | (walk1; (try dsimp only)) | (dsimp only; walk1; (try dsimp only)) | (leave1; walk_say "STEP leave1"; try dsimp only) | fail "no step"))
  k_with "z4 call builtin:sum" => ((k_here; (with_reducible show wpAny _ _ (call (Value.builtin "sum") [Value.ref _]) _ _ _); k_dflt (refine' sumK ?kz ?kF ?kN ?kl ?ki ?_; (case kz => exact rfl); (case kF => k_asm); (case kN => k_asm); (case kl => exact listIn (by k_asm) (by k_mem)); (case ki => assumption); k_whole)))
  k_with "z0 eval ListComp" => ((k_here; (with_reducible show wpAny _ _ (eval (Expr.ListComp _ [Comprehension.mk (Expr.Name _ _) _ [] _] _ _) _) _ _ _); k_dflt (refine LCg.ListComp_U (F₀ := by k_asm) (by with_unfolding_all rfl) (by decide) (by rfl) (by decide) (by rfl) ?_)))
  k_with "z0 eval ListComp" => ((k_here; (with_reducible show wpAny _ _ (eval (Expr.ListComp _ [Comprehension.mk (Expr.Name _ _) _ [_] _] _ _) _) _ _ _); k_dflt (refine LCt.ListComp_T (F₀ := by k_asm) (by with_unfolding_all rfl) (by decide) (by rfl) (by decide) (by rfl) ?_)))
  k_with "z0 eval ListComp" => ((k_here; (with_reducible show wpAny _ _ (eval (Expr.ListComp _ [Comprehension.mk (Expr.Tuple [Expr.Name _ _, Expr.Name _ _] _ _) _ [] _] _ _) _) _ _ _); k_dflt (refine LCp.ListComp_P (F₀ := by k_asm) (by with_unfolding_all rfl) (by decide) (by rfl) (by decide) (by rfl) (by rfl) (by decide) ?_)))
  k_with "z0 exec Assign cons ListComp" => ((k_here; (with_reducible show wpAny _ _ (exec (Stmt.Assign [_] (Expr.ListComp _ [Comprehension.mk (Expr.Name _ _) _ [] _] _ _) _) _) _ _ _); k_dflt (refine LCg.Assign_ListComp_U (F₀ := by k_asm) (by rfl) (by with_unfolding_all rfl) (by with_unfolding_all rfl) (by decide) (by rfl) (by decide) (by rfl) (by rfl) (by rfl) ?_)))
  k_with "z0 exec Assign cons ListComp" => ((k_here; (with_reducible show wpAny _ _ (exec (Stmt.Assign [_] (Expr.ListComp _ [Comprehension.mk (Expr.Tuple [Expr.Name _ _, Expr.Name _ _] _ _) _ [] _] _ _) _) _) _ _ _); k_dflt (refine LCp.Assign_ListComp_P (F₀ := by k_asm) (by rfl) (by with_unfolding_all rfl) (by with_unfolding_all rfl) (by decide) (by rfl) (by decide) (by rfl) (by rfl) (by decide) (by rfl) (by rfl) ?_)))
  k_with "z k_mem" => (((show _ ∈ (_ : List (Addr × Obj))); first | with_reducible assumption | with_reducible exact List.Mem.head _ | (with_reducible refine List.mem_cons_of_mem _ ?_; k_mem) | (with_reducible refine List.mem_append_right _ ?_; k_mem) | (with_reducible refine List.mem_append_left _ ?_; k_mem)))
  k_with "z0 exec For Tuple Attribute cons nil" => (((with_unfolding_all (refine' For_turns ?kF ?_)); (case kF => k_asm)))
  k_with "z0 exec For Tuple Name cons nil" => (((with_unfolding_all (refine' For_turns ?kF ?_)); (case kF => k_asm)))
  k_with "z0 exec For Tuple Call cons nil" => (((with_unfolding_all (refine' For_turns ?kF ?_)); (case kF => k_asm)))
  k_with "z0 exec For Tuple Subscript cons nil" => (((with_unfolding_all (refine' For_turns ?kF ?_)); (case kF => k_asm)))
  k_with "z0 pyIter ref" => (((with_reducible show wpAny _ _ (pyIter (Value.ref _)) (fun it s₂ => TurnsAt _ _ _ _ _ _ _ _ _ it s₂) _ _); refine Hold.mk ?_))
  k_with "z0 subscriptTail" => ((k_here; (with_reducible show wpAny _ _ (subscriptTail _ _ (Value.ref _) (Value.int _ _)) _ _ _); k_dflt (refine' item_list_ints ?l ?i ?a ?b ?c ?_; (case l => exact listIn (by k_asm) (by k_mem)); (case i => with_reducible assumption); (case a => omega); (case b => omega); (case c => omega); k_whole); intro _))
  k_with "z3 subscriptTail" => ((k_here; (with_reducible show wpAny _ _ (subscriptTail _ (PySem.Expr.Slice (some _) none none _) (Value.ref _) (Value.ref _)) _ _ _); k_dflt (refine' drop_list ?dlE ?dlF ?dlN ?dlM ?dlP ?dlQ ?dlX ?dlZ ?_ ?dlS ?dlT; (case dlE => exact rfl); (case dlF => k_asm); (case dlN => k_asm); (case dlM => k_mem); (case dlP => exact IsPart.int _ _); (case dlQ => exact IsPart.none); (case dlX => omega); (case dlS => with_unfolding_all rfl); (case dlT => kmk_pure); (case dlZ => ((try simp only [sizeLine_eq, List.length_cons, List.length_nil, List.length_append, List.length_drop, List.length_replicate, List.length_dropLast]); omega)))))
  k_with "z3 subscriptTail" => ((k_here; (with_reducible show wpAny _ _ (subscriptTail _ (PySem.Expr.Slice none (some _) none _) (Value.ref _) (Value.ref _)) _ _ _); k_dflt (refine' init_list ?dlE ?dlF ?dlN ?dlM ?dlQ ?dlP ?dlZ ?_ ?dlS ?dlT; (case dlE => exact rfl); (case dlF => k_asm); (case dlN => k_asm); (case dlM => k_mem); (case dlP => exact IsPart.int _ _); (case dlQ => exact IsPart.none); (case dlS => with_unfolding_all rfl); (case dlT => kmk_pure); (case dlZ => ((try simp only [sizeLine_eq, List.length_cons, List.length_nil, List.length_append, List.length_drop, List.length_replicate, List.length_dropLast]); omega)))))
  k_with "z3 subscriptTail" => ((k_here; (with_reducible show wpAny _ _ (subscriptTail _ (PySem.Expr.Slice none none (some _) _) (Value.ref _) (Value.ref _)) _ _ _); k_dflt (refine' revv_list ?dlE ?dlF ?dlN ?dlM ?dlP ?dlZ ?_ ?dlS ?dlT; (case dlE => exact rfl); (case dlF => k_asm); (case dlN => k_asm); (case dlM => k_mem); (case dlP => exact IsPart.int _ _); (case dlS => with_unfolding_all rfl); (case dlT => kmk_pure); (case dlZ => ((try simp only [sizeLine_eq, List.length_cons, List.length_nil, List.length_append, List.length_drop, List.length_replicate, List.length_dropLast]); omega)))))
  k_with "z3 binaryOp Add ref ref" => ((k_here; (with_reducible show wpAny _ _ (binaryOp _ (Value.ref _) (Value.ref _)) _ _ _); k_dflt (refine' add_l ?alF ?alN ?alA ?alB ?alZ ?_; (case alF => k_asm); (case alN => k_asm); (case alA => k_mem); (case alB => k_mem); (case alZ => ((try simp only [sizeLine_eq, List.length_cons, List.length_nil, List.length_append, List.length_drop, List.length_replicate, List.length_dropLast]); omega)))))
  k_with "z3 binaryOp Mult ref int" => ((k_here; (with_reducible show wpAny _ _ (binaryOp Operator.Mult (Value.ref _) (Value.int _ _)) _ _ _); k_dflt (refine' mul_l ?alF ?alN ?alA ?alB ?alZ ?_; (case alF => k_asm); (case alN => k_asm); (case alA => k_mem); (case alB => omega); (case alZ => omega))))
  k_with "z turns exec For Name Call cons nil" => (skip)
  k_with "z0 getMethod ref" => (((with_reducible show wpAny _ _ (getMethod (Value.ref _) _ _) _ _ _); refine Hold.mk ?_))
  k_with "z0 call builtin:dict.values" => (((with_reducible show wpAny _ _ (call (Value.builtin _) [Value.ref _]) _ _ _); refine Hold.mk ?_))
  trivial
def sumTo (ps : List (Int × Int)) : Nat → Int
  | 0 => 0
  | i + 1 => sumTo ps i + (ps.getD i (0, 0)).2
theorem count_does {w : World} (ps : List (Int × Int)) (hb : ∀ p ∈ ps, 0 ≤ p.2 ∧ p.2 < 2 ^ 20) (hl : ps.length < 1000) :
    Does w 114 5 (fun news vs => ∃ v, vs = [v] ∧ DictIn w news v ps) (fun news r => ∃ t, r = .int (sumTo ps ps.length) t) := by
  unfold Does
  k_fill
  w_top off
  intro loose mean mg mb dp un gd cn cs a ccd cl outer A₀ base h₀ L m news s vs Q E B F X N T hk hR hd hu hret
  obtain ⟨_, rfl, d, o, kvs, rfl, hm, ho, he, hsm⟩ := hR
  have hel := he.length
  refine wpAny_call ?_
  k_dflt ktr_enter
  k_steps
  unfold Hold
  rename Fr _ _ _ _ => F9
  rename News _ _ _ _ => N9
  refine kdl_method PySem.F.slot_dict_values rfl N9 hm ho ?_
  k_steps
  unfold Hold
  refine kta_callValues F9 N9 hm ho hsm ?_
  intro h2 hview F2 N2
  clear F9 N9
  k_steps
  unfold Hold
  refine kta_vals rfl F2 N2 hview hm ho rfl fun Ia hlt => ?_
  refine items_loop (σ := Int × Tok) (fun _ => []) (fun c => [(Str.ofString "nc", .int c.1 c.2)]) [Str.ofString "calls"] (fun i c _ => c.1 = sumTo ps i ∧ 0 ≤ c.1 ∧ c.1 ≤ 2 ^ 20 * i) [] (0, _) news ?_ ?_ (fun _ => rfl) (fun _ _ _ h => nomatch h) ?_ (List.forall_mem_singleton.mpr rfl) ?_ ?_
  · exact fun nx h => And.intro (h _ hm) trivial
  · intro p hp w' hw'
    rw [List.mem_singleton.mp hw']
    exact Nat.ne_of_lt (hlt p hp)
  · exact ⟨rfl, Int.le_refl _, Int.le_refl _⟩
  · clear F2 N2
    intro i a v c rest tail h tk u ha hv hI hrt hoff hsub F'' N''
    rw [List.getElem?_map] at ha
    obtain ⟨p, e1, rfl⟩ := Option.map_eq_some_iff.mp ha
    obtain ⟨n, tn, e2, e3⟩ := he.get e1
    have hv' : v = p.2 := hv
    rw [e2] at hv'
    dsimp only at hv'
    subst hv'
    have hi := List.getElem?_eq_some_iff.mp e3
    obtain ⟨hi1, hi2⟩ := hi
    obtain ⟨hn0, hn1⟩ := hb _ (List.mem_of_getElem? e3)
    dsimp only at hn0 hn1
    obtain ⟨nc, tc⟩ := c
    obtain ⟨hI0, hI1, hI2⟩ := hI
    dsimp only at hI0 hI1 hI2
    dsimp only [names, kstB, List.contains_nil, List.nil_append] at F'' N''
    k_steps
    rename News _ _ _ _ => N8
    rename Fr _ _ _ _ => F8
    refine turn_next (nc + n, _) [] F8 N8 (fun _ h => nomatch h) (fun p hp => hp) (fun _ h => nomatch h) ?_ (List.forall_mem_singleton.mpr rfl) ?_
    · refine ⟨?_, by dsimp only; omega, by dsimp only; omega⟩
      show nc + n = sumTo ps i + (ps.getD i (0, 0)).2
      rw [hI0, List.getD_eq_getElem?_getD, e3]
      rfl
    · intro z _ h2 h3
      have h4 := h3
      simp only [List.contains_cons, List.contains_nil, Bool.or_false, beq_eq_false_iff_ne] at h4
      have h5 : z ≠ Str.ofString "nc" := h2 _ (.head _)
      repeat (first | rw [if_neg h4] | rw [if_neg h5])
      rw [h3]
      rfl
  · intro c tl h tk u ht hI F'' N''
    obtain ⟨nc, tc⟩ := c
    dsimp only [names, kstB, List.contains_nil, List.nil_append] at F'' N''
    rw [List.length_map, hel] at hI
    have hI0 : nc = _ := hI.1
    clear F2 N2
    k_steps
    rename News _ _ _ _ => N8
    rename Fr _ _ _ _ => F8
    rw [hI0] at *
    exact does_ret2 hret [] F8 N8 (fun q hq => List.mem_append.mpr (.inr hq)) (fun _ h => nomatch h) (fun _ h => nomatch h) ⟨_, rfl⟩
end
section
theorem said9 : True := by
  k_with_none
  k_with "z0 pyIter ref" => (((with_reducible show wpAny _ _ (pyIter (Value.ref _)) (fun it s₂ => LoopAtV _ _ _ _ _ _ _ _ _ it s₂) _ _); refine Hold.mk ?_))
  k_with "z range" => ((with_unfolding_all refine' range1_rows ?kF ?kN ?_); (case kF => k_asm); (case kN => k_asm))
  k_with "z0 getItem ref int" => ((k_here; (with_reducible show wpAny _ _ (getItem (Value.ref _) (Value.int (-1) _)) _ _ _); k_dflt (refine' get_last ?k1 ?k2 ?_; (case k1 => k_asm); (case k2 => k_mem); k_whole)))
  k_with "z1 setItem ref int" => ((k_here; (with_reducible show wpAny _ _ (setItem (Value.ref _) (Value.int (-1) _) _) _ _ _); k_dflt (refine' set_last ?k1 ?k2 ?k3 ?_; (case k1 => k_asm); (case k2 => k_asm); (case k3 => k_upd); k_whole)))
  k_with "z2 call builtin:list.append" => ((k_here; (with_reducible show wpAny _ _ (call (Value.builtin _) [Value.ref _, _]) _ _ _); k_dflt (refine' append_K ?k1 ?k2 ?k3 ?_ ?z; (case k1 => k_asm); (case k2 => k_asm); (case k3 => k_upd); (case z => first | assumption | size_fits | (simp only [List.size_toArray, List.length_append, List.length_cons, List.length_nil, sizeLine_eq]; omega)); k_whole)))
  k_with "z0 exec While Compare cons nil" => (((with_reducible show wpAny _ _ (exec (Stmt.While _ _ _ _) _) _ _ _); refine Hold.mk ?_))
  k_with "z kmk_list" => (exact listIn (by k_asm) (by k_mem))
  k_with "z is_list" => (exact listIn (by k_asm) (by k_mem))
  k_with "z k_mem" => (((show _ ∈ (_ : List (Addr × Obj))); with_reducible assumption))
  k_with "z3 subscriptTail" => ((k_here; (with_reducible show wpAny _ _ (subscriptTail _ (PySem.Expr.Slice none none (some _) _) (Value.ref _) (Value.ref _)) _ _ _); k_dflt (refine' rev_list ?F ?N ?l ?k ?z ?_ ?s ?t; (case F => k_asm); (case N => k_asm); (case l => k_mem); (case k => exact IsPart.int _ _); (case s => with_unfolding_all rfl); (case t => kmk_pure); (case z => (simp only [sizeLine_eq]; omega)))))
  k_with "z0 exec For Name Subscript cons nil" => ((with_unfolding_all (refine' my_For ?kF ?k1 ?k2 ?_; (case k1 => exact rfl); (case k2 => exact rfl)); (case kF => k_asm)))
  k_with "z0 exec For Name Call cons nil" => ((with_unfolding_all (refine' my_For ?kF ?k1 ?k2 ?_; (case k1 => exact rfl); (case k2 => exact rfl)); (case kF => k_asm)))
  k_with "z0 exec For Name Name cons nil" => ((with_unfolding_all (refine' my_For ?kF ?k1 ?k2 ?_; (case k1 => exact rfl); (case k2 => exact rfl)); (case kF => k_asm)))
  k_with "z enter" => (refine' code_defC ?k1 ?k2 ?k3 ?k4 ?k5 ?kA ?kF ?kK ?k6 ?k7 ?k8 ?k9 ?kB ?kD ?_ ?c2 ?c3 ?c4; (case kA => exact rfl); (case kF => exact rfl); (case kK => assumption); (case k1 => k_asm); (case k2 => k_asm); (case k3 => k_asm); (case k4 => k_asm); (case k5 => k_asm); (case k6 => k_is); (case k7 => k_is); (case k8 => ktr_room); (case k9 => exact BindsTo.of_eq rfl); (case kB => exact rfl); (case kD => decide +kernel); (case c2 => exact rfl); (case c3 => exact rfl); (case c4 => exact rfl); k_whole)
  k_with "z0 eval ListComp" => (((with_reducible show wpAny _ _ (eval (Expr.ListComp _ _ _ _) _) _ _ _); refine Hold.mk ?_))
  k_with "z0 exec Assign cons ListComp" => (((with_reducible show wpAny _ _ (exec (Stmt.Assign [_] (Expr.ListComp _ _ _ _) _) _) _ _ _); refine Hold.mk ?_))
  k_with "z0 CompSrc" => ((refine Hold.mk ?_))
  k_with "z0 CompSrcT" => ((refine Hold.mk ?_))
  k_with "z0 SrcLP" => ((refine Hold.mk ?_))
  k_with "z0 CompEnd" => ((refine Hold.mk ?_))
  k_with "z k_steps" => (repeat' (first | (k_unfold; (try dsimp only)) | (walk1; (try dsimp only)) | (dsimp only; walk1; (try dsimp only)) | (leave1; walk_say "STEP leave1"; try dsimp only) | fail "no step"))
  k_with "z4 call builtin:sum" => ((k_here; (with_reducible show wpAny _ _ (call (Value.builtin "sum") [Value.ref _]) _ _ _); k_dflt (refine' sumK ?kz ?kF ?kN ?kl ?ki ?_; (case kz => exact rfl); (case kF => k_asm); (case kN => k_asm); (case kl => exact listIn (by k_asm) (by k_mem)); (case ki => assumption); k_whole)))
  k_with "z0 eval ListComp" => ((k_here; (with_reducible show wpAny _ _ (eval (Expr.ListComp _ [Comprehension.mk (Expr.Name _ _) _ [] _] _ _) _) _ _ _); k_dflt (refine LCg.ListComp_U (F₀ := by k_asm) (by with_unfolding_all rfl) (by decide) (by rfl) (by decide) (by rfl) ?_)))
  k_with "z0 eval ListComp" => ((k_here; (with_reducible show wpAny _ _ (eval (Expr.ListComp _ [Comprehension.mk (Expr.Name _ _) _ [_] _] _ _) _) _ _ _); k_dflt (refine LCt.ListComp_T (F₀ := by k_asm) (by with_unfolding_all rfl) (by decide) (by rfl) (by decide) (by rfl) ?_)))
  k_with "z0 eval ListComp" => ((k_here; (with_reducible show wpAny _ _ (eval (Expr.ListComp _ [Comprehension.mk (Expr.Tuple [Expr.Name _ _, Expr.Name _ _] _ _) _ [] _] _ _) _) _ _ _); k_dflt (refine LCp.ListComp_P (F₀ := by k_asm) (by with_unfolding_all rfl) (by decide) (by rfl) (by decide) (by rfl) (by rfl) (by decide) ?_)))
  k_with "z0 exec Assign cons ListComp" => ((k_here; (with_reducible show wpAny _ _ (exec (Stmt.Assign [_] (Expr.ListComp _ [Comprehension.mk (Expr.Name _ _) _ [] _] _ _) _) _) _ _ _); k_dflt (refine LCg.Assign_ListComp_U (F₀ := by k_asm) (by rfl) (by with_unfolding_all rfl) (by with_unfolding_all rfl) (by decide) (by rfl) (by decide) (by rfl) (by rfl) (by rfl) ?_)))
  k_with "z0 exec Assign cons ListComp" => ((k_here; (with_reducible show wpAny _ _ (exec (Stmt.Assign [_] (Expr.ListComp _ [Comprehension.mk (Expr.Tuple [Expr.Name _ _, Expr.Name _ _] _ _) _ [] _] _ _) _) _) _ _ _); k_dflt (refine LCp.Assign_ListComp_P (F₀ := by k_asm) (by rfl) (by with_unfolding_all rfl) (by with_unfolding_all rfl) (by decide) (by rfl) (by decide) (by rfl) (by rfl) (by decide) (by rfl) (by rfl) ?_)))
  k_with "z k_mem" => (((show _ ∈ (_ : List (Addr × Obj))); first | with_reducible assumption | with_reducible exact List.Mem.head _ | (with_reducible refine List.mem_cons_of_mem _ ?_; k_mem) | (with_reducible refine List.mem_append_right _ ?_; k_mem) | (with_reducible refine List.mem_append_left _ ?_; k_mem)))
  k_with "z0 exec For Tuple Attribute cons nil" => (((with_unfolding_all (refine' For_turns ?kF ?_)); (case kF => k_asm)))
  k_with "z0 exec For Tuple Name cons nil" => (((with_unfolding_all (refine' For_turns ?kF ?_)); (case kF => k_asm)))
  k_with "z0 exec For Tuple Call cons nil" => (((with_unfolding_all (refine' For_turns ?kF ?_)); (case kF => k_asm)))
  k_with "z0 exec For Tuple Subscript cons nil" => (((with_unfolding_all (refine' For_turns ?kF ?_)); (case kF => k_asm)))
  k_with "z0 pyIter ref" => (((with_reducible show wpAny _ _ (pyIter (Value.ref _)) (fun it s₂ => TurnsAt _ _ _ _ _ _ _ _ _ it s₂) _ _); refine Hold.mk ?_))
  k_with "z0 subscriptTail" => ((k_here; (with_reducible show wpAny _ _ (subscriptTail _ _ (Value.ref _) (Value.int _ _)) _ _ _); k_dflt (refine' item_list_ints ?l ?i ?a ?b ?c ?_; (case l => exact listIn (by k_asm) (by k_mem)); (case i => with_reducible assumption); (case a => omega); (case b => omega); (case c => omega); k_whole); intro _))
  k_with "z3 subscriptTail" => ((k_here; (with_reducible show wpAny _ _ (subscriptTail _ (PySem.Expr.Slice (some _) none none _) (Value.ref _) (Value.ref _)) _ _ _); k_dflt (refine' drop_list ?dlE ?dlF ?dlN ?dlM ?dlP ?dlQ ?dlX ?dlZ ?_ ?dlS ?dlT; (case dlE => exact rfl); (case dlF => k_asm); (case dlN => k_asm); (case dlM => k_mem); (case dlP => exact IsPart.int _ _); (case dlQ => exact IsPart.none); (case dlX => omega); (case dlS => with_unfolding_all rfl); (case dlT => kmk_pure); (case dlZ => ((try simp only [sizeLine_eq, List.length_cons, List.length_nil, List.length_append, List.length_drop, List.length_replicate, List.length_dropLast]); omega)))))
  k_with "z3 subscriptTail" => ((k_here; (with_reducible show wpAny _ _ (subscriptTail _ (PySem.Expr.Slice none (some _) none _) (Value.ref _) (Value.ref _)) _ _ _); k_dflt (refine' init_list ?dlE ?dlF ?dlN ?dlM ?dlQ ?dlP ?dlZ ?_ ?dlS ?dlT; (case dlE => exact rfl); (case dlF => k_asm); (case dlN => k_asm); (case dlM => k_mem); (case dlP => exact IsPart.int _ _); (case dlQ => exact IsPart.none); (case dlS => with_unfolding_all rfl); (case dlT => kmk_pure); (case dlZ => ((try simp only [sizeLine_eq, List.length_cons, List.length_nil, List.length_append, List.length_drop, List.length_replicate, List.length_dropLast]); omega)))))
  k_with "z3 subscriptTail" => ((k_here; (with_reducible show wpAny _ _ (subscriptTail _ (PySem.Expr.Slice none none (some _) _) (Value.ref _) (Value.ref _)) _ _ _); k_dflt (refine' revv_list ?dlE ?dlF ?dlN ?dlM ?dlP ?dlZ ?_ ?dlS ?dlT; (case dlE => exact rfl); (case dlF => k_asm); (case dlN => k_asm); (case dlM => k_mem); (case dlP => exact IsPart.int _ _); (case dlS => with_unfolding_all rfl); (case dlT => kmk_pure); (case dlZ => ((try simp only [sizeLine_eq, List.length_cons, List.length_nil, List.length_append, List.length_drop, List.length_replicate, List.length_dropLast]); omega)))))
  k_with "z3 binaryOp Add ref ref" => ((k_here; (with_reducible show wpAny _ _ (binaryOp _ (Value.ref _) (Value.ref _)) _ _ _); k_dflt (refine' add_l ?alF ?alN ?alA ?alB ?alZ ?_; (case alF => k_asm); (case alN => k_asm); (case alA => k_mem); (case alB => k_mem); (case alZ => ((try simp only [sizeLine_eq, List.length_cons, List.length_nil, List.length_append, List.length_drop, List.length_replicate, List.length_dropLast]); omega)))))
  k_with "z3 binaryOp Mult ref int" => ((k_here; (with_reducible show wpAny _ _ (binaryOp Operator.Mult (Value.ref _) (Value.int _ _)) _ _ _); k_dflt (refine' mul_l ?alF ?alN ?alA ?alB ?alZ ?_; (case alF => k_asm); (case alN => k_asm); (case alA => k_mem); (case alB => omega); (case alZ => omega))))
  k_with "z0 exec While Name cons nil" => (((with_reducible show wpAny _ _ (exec (Stmt.While _ _ _ _) _) _ _ _); refine Hold.mk ?_))
  k_with "z5 subscriptTail" => ((k_here; (with_reducible show wpAny _ _ (subscriptTail _ _ (Value.bytes _ _) (Value.ref _)) _ _ _); k_dflt (refine' ap_slice ?apE ?apF ?apN ?apA ?apB ?apP ?apQ ?_; (case apE => exact rfl); (case apF => k_asm); (case apN => k_asm); (case apP => exact IsPart.int _ _); (case apQ => exact IsPart.int _ _); (case apA => exact fmod_lo _ (by decide)); (case apB => exact fmod_hi _ (by decide)))))
  k_with "z0 binaryOp Add bytes bytes" => ((k_here; (with_reducible show wpAny _ _ (binaryOp Operator.Add (Value.bytes _ _) (Value.bytes _ _)) _ _ _); (refine KBy.add_bytes (by (simp only [List.size_toArray, List.length_cons, List.length_nil]); omega) ?_); intro _ _))
  trivial
def apA : Array UInt8 := #[65, 66, 67, 68, 69, 70, 71, 72, 73, 74, 75, 76, 77, 78, 79, 80]
def hexOf (x : Nat) : UInt8 := (65 + x).toUInt8
theorem apA_pick : ∀ k : Fin 16, KBy.picked apA (some ((k : Nat) : Int)) (some (((k : Nat) : Int) + 1)) = [hexOf k].toArray ∧ KBy.whole apA (some ((k : Nat) : Int)) (some (((k : Nat) : Int) + 1)) = false := by decide +kernel
theorem ap_slice {prog : Program} {w : World} {A : Around} {E : Value → Shared → Prop} {s : Shared} {value slice : PySem.Expr} {t : Tok} {h₀ : Heap} {L : Addr} {m : PySem.Str → Option Value} {news : List (Addr × Obj)} {l u : Value} {Q : Value → Shared → Prop} {x : Int} {h₁ : Heap}
    (e : s.heap = h₁.push { cls := .type "slice", data := .fields #[l, u, .none] }) (F : Fr h₀ L h₁ m) (N : News h₀ L h₁ news) (h0 : 0 ≤ x) (h1 : x < 16) (pl : IsPart l (some x)) (pu : IsPart u (some (x + 1)))
    (h : ∀ h' t' k, Fr h₀ L h' m → News h₀ L h' news → Q (.bytes [hexOf x.toNat].toArray t') { s with heap := h', toks := k })
    (hs : subscripted slice false (.bytes apA t) (.ref h₁.objs.size) = operate [.ref h₁.objs.size, .bytes apA t] (getItem (.bytes apA t) (.ref h₁.objs.size)) := by with_unfolding_all rfl)
    (ht : ∀ r, letTemporaryGo value (.bytes apA t) r = pure () := by intro _; with_unfolding_all rfl) :
    wpAny (model prog w) A (subscriptTail value slice (.bytes apA t) (.ref h₁.objs.size)) Q E s := by
  obtain ⟨k, rfl⟩ := Int.eq_ofNat_of_zero_le h0
  have hk := apA_pick ⟨k, by omega⟩
  dsimp only at hk
  obtain ⟨hp, gens, drawn, toks, os⟩ := s
  dsimp only at e
  subst e
  refine KBy.slice_N (s := ⟨h₁, gens, drawn, toks, os⟩) (b := apA) F N pl pu hk.2 (by rw [hk.1]; show 1 ≤ 16777216; decide) ?_ hs ht
  rw [hk.1]
  exact h
def apF : Nat → Int → List UInt8
  | 0, _ => []
  | k + 1, a => if a = 0 then [] else apF k (a.fdiv 16) ++ [hexOf (a.fmod 16).toNat]
theorem apF_zero : ∀ k : Nat, apF k 0 = []
  | 0 => rfl
  | _ + 1 => rfl
theorem ap_does {w : World} (n : Int) (h0 : -(2 ^ 40) < n) (h1 : n < 2 ^ 40) :
    Does w 72 5 (fun news vs => ∃ t, vs = [.int n t]) (fun news r => ∃ t, r = .bytes (apF 10 (if n < 0 then -n else n)).toArray t) := by
  unfold Does
  k_fill
  w_top off
  intro loose mean mg mb dp un gd cn cs a ccd cl outer A₀ base h₀ L m news s vs Q E B F X N T hk hR hd hu hret
  obtain ⟨t, rfl⟩ := hR
  refine wpAny_call ?_
  k_dflt ktr_enter
  k_steps
  unfold Hold
  rename Fr _ _ _ _ => F9
  rename News _ _ _ _ => N9
  refine loop_while (σ := (Int × Tok) × (List UInt8 × Tok)) (fun _ => []) (fun c => [(Str.ofString "num", .int c.1.1 c.1.2), (Str.ofString "val", .bytes c.2.1.toArray c.2.2)]) [Str.ofString "mod"]
    (fun k c _ => 0 ≤ c.1.1 ∧ c.1.1 < 16 ^ k ∧ c.2.1.length + k ≤ 12 ∧ apF k c.1.1 ++ c.2.1 = apF 10 (if n < 0 then -n else n)) [] 10 (((if n < 0 then -n else n), _), ([], _)) news F9 N9 (fun p hp => hp) (fun _ => rfl) (fun _ _ _ h => nomatch h) ?_ (List.forall_mem_cons.mpr ⟨rfl, List.forall_mem_singleton.mpr rfl⟩) ?_
  · refine ⟨?_, ?_, (by show 0 + 10 ≤ 12; decide), List.append_nil _⟩
    · dsimp only
      split <;> omega
    · dsimp only
      have : (16 : Int) ^ 10 = 2 ^ 40 := by decide
      rw [this]
      split <;> omega
  · clear F9 N9
    intro k c tl h tk u hI hlt hoff F'' N''
    obtain ⟨⟨a, ta⟩, bs, tb⟩ := c
    dsimp only [names, kstB, List.nil_append] at F'' hI N''
    obtain ⟨ha0, ha1, hsz, hap⟩ := hI
    have ha1' : Hold (a < 16 ^ k) := ha1
    clear ha1
    k_steps
    · rename (_ : Int) ≠ _ => hne
      unfold Hold at ha1'
      obtain ⟨j, rfl⟩ : ∃ j, k = j + 1 := by
        cases k with
        | zero => exact absurd ha1' (by rw [Int.pow_zero]; omega)
        | succ j => exact ⟨j, rfl⟩
      rename News _ _ _ _ => N8
      rename Fr _ _ _ _ => F8
      refine turn_next ((a.fdiv 16, _), ([hexOf (a.fmod 16).toNat] ++ bs, _)) [] F8 N8 (fun _ h => nomatch h) (fun p hp => by repeat (first | exact hp | apply List.mem_cons_of_mem)) (fun _ h => nomatch h) ⟨j, Nat.lt_succ_self j, ?_, ?_, ?_, ?_⟩ (List.forall_mem_cons.mpr ⟨rfl, List.forall_mem_singleton.mpr (by simp; rfl)⟩) ?_
      · dsimp only
        rw [Int.fdiv_eq_ediv_of_nonneg _ (by decide)]
        omega
      · dsimp only
        rw [Int.fdiv_eq_ediv_of_nonneg _ (by decide)]
        rw [Int.pow_succ] at ha1'
        exact Int.ediv_lt_of_lt_mul (by decide) ha1'
      · dsimp only
        rw [List.length_append, List.length_singleton]
        omega
      · dsimp only
        rw [← hap]
        show _ = (if a = 0 then _ else _) ++ bs
        rw [if_neg hne, List.append_assoc]
      · intro z _ h2 h3
        have h4 := h3
        simp only [List.contains_cons, List.contains_nil, Bool.or_false, beq_eq_false_iff_ne] at h4
        have h5 : z ≠ Str.ofString "num" := h2 _ (.head _)
        have h6 : z ≠ Str.ofString "val" := h2 _ (.tail _ (.head _))
        repeat (first | rw [if_neg h4] | rw [if_neg h5] | rw [if_neg h6])
        rw [h3]
        rfl
    · rename (_ : Int) = _ => hz
      rename News _ _ _ _ => N8
      rename Fr _ _ _ _ => F8
      rw [hz, apF_zero, List.nil_append] at hap
      exact does_ret2 hret [] F8 N8 (fun q hq => List.mem_append.mpr (.inr hq)) (fun _ h => nomatch h) (fun _ h => nomatch h) ⟨_, by rw [hap]⟩
end
section
theorem said10 : True := by
  k_with_none
  k_with "z0 pyIter ref" => (((with_reducible show wpAny _ _ (pyIter (Value.ref _)) (fun it s₂ => LoopAtV _ _ _ _ _ _ _ _ _ it s₂) _ _); refine Hold.mk ?_))
  k_with "z range" => ((with_unfolding_all refine' range1_rows ?kF ?kN ?_); (case kF => k_asm); (case kN => k_asm))
  k_with "z0 getItem ref int" => ((k_here; (with_reducible show wpAny _ _ (getItem (Value.ref _) (Value.int (-1) _)) _ _ _); k_dflt (refine' get_last ?k1 ?k2 ?_; (case k1 => k_asm); (case k2 => k_mem); k_whole)))
  k_with "z1 setItem ref int" => ((k_here; (with_reducible show wpAny _ _ (setItem (Value.ref _) (Value.int (-1) _) _) _ _ _); k_dflt (refine' set_last ?k1 ?k2 ?k3 ?_; (case k1 => k_asm); (case k2 => k_asm); (case k3 => k_upd); k_whole)))
  k_with "z2 call builtin:list.append" => ((k_here; (with_reducible show wpAny _ _ (call (Value.builtin _) [Value.ref _, _]) _ _ _); k_dflt (refine' append_K ?k1 ?k2 ?k3 ?_ ?z; (case k1 => k_asm); (case k2 => k_asm); (case k3 => k_upd); (case z => first | assumption | size_fits | (simp only [List.size_toArray, List.length_append, List.length_cons, List.length_nil, sizeLine_eq]; omega)); k_whole)))
  k_with "z0 exec While Compare cons nil" => (((with_reducible show wpAny _ _ (exec (Stmt.While _ _ _ _) _) _ _ _); refine Hold.mk ?_))
  k_with "z kmk_list" => (exact listIn (by k_asm) (by k_mem))
  k_with "z is_list" => (exact listIn (by k_asm) (by k_mem))
  k_with "z k_mem" => (((show _ ∈ (_ : List (Addr × Obj))); with_reducible assumption))
  k_with "z3 subscriptTail" => ((k_here; (with_reducible show wpAny _ _ (subscriptTail _ (PySem.Expr.Slice none none (some _) _) (Value.ref _) (Value.ref _)) _ _ _); k_dflt (refine' rev_list ?F ?N ?l ?k ?z ?_ ?s ?t; (case F => k_asm); (case N => k_asm); (case l => k_mem); (case k => exact IsPart.int _ _); (case s => with_unfolding_all rfl); (case t => kmk_pure); (case z => (simp only [sizeLine_eq]; omega)))))
  k_with "z0 exec For Name Subscript cons nil" => ((with_unfolding_all (refine' my_For ?kF ?k1 ?k2 ?_; (case k1 => exact rfl); (case k2 => exact rfl)); (case kF => k_asm)))
  k_with "z0 exec For Name Call cons nil" => ((with_unfolding_all (refine' my_For ?kF ?k1 ?k2 ?_; (case k1 => exact rfl); (case k2 => exact rfl)); (case kF => k_asm)))
  k_with "z0 exec For Name Name cons nil" => ((with_unfolding_all (refine' my_For ?kF ?k1 ?k2 ?_; (case k1 => exact rfl); (case k2 => exact rfl)); (case kF => k_asm)))
  k_with "z enter" => (refine' code_defC ?k1 ?k2 ?k3 ?k4 ?k5 ?kA ?kF ?kK ?k6 ?k7 ?k8 ?k9 ?kB ?kD ?_ ?c2 ?c3 ?c4; (case kA => exact rfl); (case kF => exact rfl); (case kK => assumption); (case k1 => k_asm); (case k2 => k_asm); (case k3 => k_asm); (case k4 => k_asm); (case k5 => k_asm); (case k6 => k_is); (case k7 => k_is); (case k8 => ktr_room); (case k9 => exact BindsTo.of_eq rfl); (case kB => exact rfl); (case kD => decide +kernel); (case c2 => exact rfl); (case c3 => exact rfl); (case c4 => exact rfl); k_whole)
  k_with "z0 eval ListComp" => (((with_reducible show wpAny _ _ (eval (Expr.ListComp _ _ _ _) _) _ _ _); refine Hold.mk ?_))
  k_with "z0 exec Assign cons ListComp" => (((with_reducible show wpAny _ _ (exec (Stmt.Assign [_] (Expr.ListComp _ _ _ _) _) _) _ _ _); refine Hold.mk ?_))
  k_with "z0 CompSrc" => ((refine Hold.mk ?_))
  k_with "z0 CompSrcT" => ((refine Hold.mk ?_))
  k_with "z0 SrcLP" => ((refine Hold.mk ?_))
  k_with "z0 CompEnd" => ((refine Hold.mk ?_))
  k_with "z k_steps" => (repeat' (first | (k_unfold; (try dsimp only)) | (walk1; (try dsimp only)) | (dsimp only; walk1; (try dsimp only)) | (leave1; walk_say "STEP leave1"; try dsimp only) | fail "no step"))
  k_with "z4 call builtin:sum" => ((k_here; (with_reducible show wpAny _ _ (call (Value.builtin "sum") [Value.ref _]) _ _ _); k_dflt (refine' sumK ?kz ?kF ?kN ?kl ?ki ?_; (case kz => exact rfl); (case kF => k_asm); (case kN => k_asm); (case kl => exact listIn (by k_asm) (by k_mem)); (case ki => assumption); k_whole)))
  k_with "z0 eval ListComp" => ((k_here; (with_reducible show wpAny _ _ (eval (Expr.ListComp _ [Comprehension.mk (Expr.Name _ _) _ [] _] _ _) _) _ _ _); k_dflt (refine LCg.ListComp_U (F₀ := by k_asm) (by with_unfolding_all rfl) (by decide) (by rfl) (by decide) (by rfl) ?_)))
  k_with "z0 eval ListComp" => ((k_here; (with_reducible show wpAny _ _ (eval (Expr.ListComp _ [Comprehension.mk (Expr.Name _ _) _ [_] _] _ _) _) _ _ _); k_dflt (refine LCt.ListComp_T (F₀ := by k_asm) (by with_unfolding_all rfl) (by decide) (by rfl) (by decide) (by rfl) ?_)))
  k_with "z0 eval ListComp" => ((k_here; (with_reducible show wpAny _ _ (eval (Expr.ListComp _ [Comprehension.mk (Expr.Tuple [Expr.Name _ _, Expr.Name _ _] _ _) _ [] _] _ _) _) _ _ _); k_dflt (refine LCp.ListComp_P (F₀ := by k_asm) (by with_unfolding_all rfl) (by decide) (by rfl) (by decide) (by rfl) (by rfl) (by decide) ?_)))
  k_with "z0 exec Assign cons ListComp" => ((k_here; (with_reducible show wpAny _ _ (exec (Stmt.Assign [_] (Expr.ListComp _ [Comprehension.mk (Expr.Name _ _) _ [] _] _ _) _) _) _ _ _); k_dflt (refine LCg.Assign_ListComp_U (F₀ := by k_asm) (by rfl) (by with_unfolding_all rfl) (by with_unfolding_all rfl) (by decide) (by rfl) (by decide) (by rfl) (by rfl) (by rfl) ?_)))
  k_with "z0 exec Assign cons ListComp" => ((k_here; (with_reducible show wpAny _ _ (exec (Stmt.Assign [_] (Expr.ListComp _ [Comprehension.mk (Expr.Tuple [Expr.Name _ _, Expr.Name _ _] _ _) _ [] _] _ _) _) _) _ _ _); k_dflt (refine LCp.Assign_ListComp_P (F₀ := by k_asm) (by rfl) (by with_unfolding_all rfl) (by with_unfolding_all rfl) (by decide) (by rfl) (by decide) (by rfl) (by rfl) (by decide) (by rfl) (by rfl) ?_)))
  k_with "z k_mem" => (((show _ ∈ (_ : List (Addr × Obj))); first | with_reducible assumption | with_reducible exact List.Mem.head _ | (with_reducible refine List.mem_cons_of_mem _ ?_; k_mem) | (with_reducible refine List.mem_append_right _ ?_; k_mem) | (with_reducible refine List.mem_append_left _ ?_; k_mem)))
  k_with "z0 exec For Tuple Attribute cons nil" => (((with_unfolding_all (refine' For_turns ?kF ?_)); (case kF => k_asm)))
  k_with "z0 exec For Tuple Name cons nil" => (((with_unfolding_all (refine' For_turns ?kF ?_)); (case kF => k_asm)))
  k_with "z0 exec For Tuple Call cons nil" => (((with_unfolding_all (refine' For_turns ?kF ?_)); (case kF => k_asm)))
  k_with "z0 exec For Tuple Subscript cons nil" => (((with_unfolding_all (refine' For_turns ?kF ?_)); (case kF => k_asm)))
  k_with "z0 pyIter ref" => (((with_reducible show wpAny _ _ (pyIter (Value.ref _)) (fun it s₂ => TurnsAt _ _ _ _ _ _ _ _ _ it s₂) _ _); refine Hold.mk ?_))
  k_with "z0 subscriptTail" => ((k_here; (with_reducible show wpAny _ _ (subscriptTail _ _ (Value.ref _) (Value.int _ _)) _ _ _); k_dflt (refine' item_list_ints ?l ?i ?a ?b ?c ?_; (case l => exact listIn (by k_asm) (by k_mem)); (case i => with_reducible assumption); (case a => omega); (case b => omega); (case c => omega); k_whole); intro _))
  k_with "z3 subscriptTail" => ((k_here; (with_reducible show wpAny _ _ (subscriptTail _ (PySem.Expr.Slice (some _) none none _) (Value.ref _) (Value.ref _)) _ _ _); k_dflt (refine' drop_list ?dlE ?dlF ?dlN ?dlM ?dlP ?dlQ ?dlX ?dlZ ?_ ?dlS ?dlT; (case dlE => exact rfl); (case dlF => k_asm); (case dlN => k_asm); (case dlM => k_mem); (case dlP => exact IsPart.int _ _); (case dlQ => exact IsPart.none); (case dlX => omega); (case dlS => with_unfolding_all rfl); (case dlT => kmk_pure); (case dlZ => ((try simp only [sizeLine_eq, List.length_cons, List.length_nil, List.length_append, List.length_drop, List.length_replicate, List.length_dropLast]); omega)))))
  k_with "z3 subscriptTail" => ((k_here; (with_reducible show wpAny _ _ (subscriptTail _ (PySem.Expr.Slice none (some _) none _) (Value.ref _) (Value.ref _)) _ _ _); k_dflt (refine' init_list ?dlE ?dlF ?dlN ?dlM ?dlQ ?dlP ?dlZ ?_ ?dlS ?dlT; (case dlE => exact rfl); (case dlF => k_asm); (case dlN => k_asm); (case dlM => k_mem); (case dlP => exact IsPart.int _ _); (case dlQ => exact IsPart.none); (case dlS => with_unfolding_all rfl); (case dlT => kmk_pure); (case dlZ => ((try simp only [sizeLine_eq, List.length_cons, List.length_nil, List.length_append, List.length_drop, List.length_replicate, List.length_dropLast]); omega)))))
  k_with "z3 subscriptTail" => ((k_here; (with_reducible show wpAny _ _ (subscriptTail _ (PySem.Expr.Slice none none (some _) _) (Value.ref _) (Value.ref _)) _ _ _); k_dflt (refine' revv_list ?dlE ?dlF ?dlN ?dlM ?dlP ?dlZ ?_ ?dlS ?dlT; (case dlE => exact rfl); (case dlF => k_asm); (case dlN => k_asm); (case dlM => k_mem); (case dlP => exact IsPart.int _ _); (case dlS => with_unfolding_all rfl); (case dlT => kmk_pure); (case dlZ => ((try simp only [sizeLine_eq, List.length_cons, List.length_nil, List.length_append, List.length_drop, List.length_replicate, List.length_dropLast]); omega)))))
  k_with "z3 binaryOp Add ref ref" => ((k_here; (with_reducible show wpAny _ _ (binaryOp _ (Value.ref _) (Value.ref _)) _ _ _); k_dflt (refine' add_l ?alF ?alN ?alA ?alB ?alZ ?_; (case alF => k_asm); (case alN => k_asm); (case alA => k_mem); (case alB => k_mem); (case alZ => ((try simp only [sizeLine_eq, List.length_cons, List.length_nil, List.length_append, List.length_drop, List.length_replicate, List.length_dropLast]); omega)))))
  k_with "z3 binaryOp Mult ref int" => ((k_here; (with_reducible show wpAny _ _ (binaryOp Operator.Mult (Value.ref _) (Value.int _ _)) _ _ _); k_dflt (refine' mul_l ?alF ?alN ?alA ?alB ?alZ ?_; (case alF => k_asm); (case alN => k_asm); (case alA => k_mem); (case alB => omega); (case alZ => omega))))
  k_with "z0 getMethod ref" => (((with_reducible show wpAny _ _ (getMethod (Value.ref _) _ _) _ _ _); refine Hold.mk ?_))
  k_with "z0 call builtin:dict.items" => (((with_reducible show wpAny _ _ (call (Value.builtin _) [Value.ref _]) _ _ _); refine Hold.mk ?_))
  k_with "z0 setItem ref int" => (((with_reducible show wpAny _ _ (setItem (Value.ref _) _ _) _ _ _); refine Hold.mk ?_))
  k_with "z0 getItem ref int" => (((with_reducible show wpAny _ _ (getItem (Value.ref _) _) _ _ _); refine Hold.mk ?_))
  k_with "z0 compareOp In int ref" => (((with_reducible show wpAny _ _ (compareOp _ _ (Value.ref _)) _ _ _); refine Hold.mk ?_))
  trivial
def copyE (ps : List (Int × Int)) : Nat → List (Int × Int)
  | 0 => []
  | i + 1 => putE (copyE ps i) (ps.getD i (0, 0)).1 (ps.getD i (0, 0)).2
def addE (ps qs : List (Int × Int)) : Nat → List (Int × Int)
  | 0 => ps
  | i + 1 => match findE (addE ps qs i) (qs.getD i (0, 0)).1 with
    | some n => putE (addE ps qs i) (qs.getD i (0, 0)).1 (n + (qs.getD i (0, 0)).2)
    | none => putE (addE ps qs i) (qs.getD i (0, 0)).1 (qs.getD i (0, 0)).2
def addF (ps qs : List (Int × Int)) : List (Int × Int) := addE (copyE ps ps.length) qs qs.length
theorem add_does {w : World} (old : List (Addr × Obj)) (ps qs : List (Int × Int)) (hpl : ps.length < 100) (hql : qs.length < 100) :
    Does w 107 5 (fun news vs => news = old ∧ ∃ v₁ v₂, vs = [v₁, v₂] ∧ DictIn w news v₁ ps ∧ DictIn w news v₂ qs) (fun news r => ∃ tl, news = old ++ tl ∧ DictIn w tl r (addF ps qs)) := by
  unfold Does
  k_fill
  w_top off
  intro loose mean mg mb dp un gd cn cs a ccd cl outer A₀ base h₀ L m news s vs Q E B F X N T hk hR hd hu hret
  obtain ⟨hold, _, _, rfl, ⟨d₁, o₁, kv₁, rfl, hm₁, ho₁, he₁, hs₁⟩, ⟨d₂, o₂, kv₂, rfl, hm₂, ho₂, he₂, hs₂⟩⟩ := hR
  have hel₁ := he₁.length
  have hel₂ := he₂.length
  refine wpAny_call ?_
  k_dflt ktr_enter
  k_steps
  unfold Hold
  rename Fr _ _ _ _ => F9
  rename News _ _ _ _ => N9
  rename_i dn _ on lN loN _ _ hiN _ _
  refine kdl_method PySem.F.slot_dict_items rfl N9 (.tail _ hm₁) ho₁ ?_
  k_steps
  unfold Hold
  refine kta_callItems F9 N9 (.tail _ hm₁) ho₁ hs₁ ?_
  intro h2 hview F2 N2
  clear F9 N9
  k_steps
  unfold Hold
  refine kta_items (enc := PyData.int) rfl F2 N2 hview (.tail _ hm₁) ho₁ (fun k v h => Value.isInt_shape h) rfl fun Ia hlt => ?_
  refine items_loop (σ := Obj × List (Int × Value)) (fun c => [(dn, c.1)]) (fun _ => []) [Str.ofString "func", Str.ofString "caller"] (fun i c _ => c.1.IsDictOf (PySem.intKind PySem.Challenge.rw_xg0025_01.row.prog w) c.2 ∧ EntriesAre c.2 (copyE ps i) ∧ c.2.length ≤ i) [dn] (on, []) news ?_ ?_ (fun _ => rfl) ?_ ⟨hiN, .nil, Nat.le_refl _⟩ (fun _ h => nomatch h) ?_ ?_
  · exact fun nx h => And.intro (h _ hm₁) trivial
  · intro p hp w' hw'
    rw [List.mem_singleton.mp hw']
    exact Nat.ne_of_lt (hlt p hp)
  · intro p hp b hb
    rw [List.mem_singleton.mp hb]
    exact Nat.ne_of_lt (lN p hp)
  · clear F2 N2
    intro i a v c rest tail h tk u ha hv hI hrt hoff hsub F'' N''
    rw [List.getElem?_map] at ha
    obtain ⟨p, e1, rfl⟩ := Option.map_eq_some_iff.mp ha
    obtain ⟨n, tn, e2, e3⟩ := he₁.get e1
    obtain ⟨T', tk', rfl, hT⟩ := hv
    have hi1 : i < kv₁.length := (List.getElem?_eq_some_iff.mp e1).1
    rw [e2] at hT
    obtain ⟨oc, kvc⟩ := c
    obtain ⟨hI1, hI2, hI3⟩ := hI
    dsimp only [kyVal] at hT
    dsimp only [names, kstB, List.contains_nil, List.singleton_append] at F'' N'' hI1 hI2 hI3
    k_steps
    unfold Hold
    rename Fr _ _ _ _ => F9
    rename News _ _ _ _ => N9
    have hoff1 : ∀ p ∈ tail, p.1 ≠ dn := fun p hp => hoff p hp dn (.head _)
    refine kda_set F9 N9 (UpdF.head (fun p hp => hoff1 p hp)) hI1 (intKind_is _ _ _ _) (by rw [sizeLine_eq]; omega) ?_
    intro h3 o3 F3 N3 ho3
    clear F9 N9
    k_steps
    rename Fr _ _ _ _ => F8
    rename News _ _ _ _ => N8
    refine turn_next (o3, stored kvc p.1 (.int n tn)) [] F8 N8 (List.forall_mem_singleton.mpr (.head _)) (fun p hp => .tail _ hp) (fun _ h => nomatch h) ⟨ho3, ?_, ?_⟩ (fun _ h => nomatch h) ?_
    · show EntriesAre _ (putE (copyE ps i) (ps.getD i (0, 0)).1 (ps.getD i (0, 0)).2)
      rw [getD_of e3]
      exact hI2.put _ _ _
    · have := stored_len kvc p.1 (.int n tn)
      dsimp only
      omega
    · intro z _ _ h3
      have h4 := h3
      simp only [List.contains_cons, List.contains_nil, Bool.or_false, Bool.or_eq_false_iff, beq_eq_false_iff_ne] at h4
      obtain ⟨e5, e6⟩ := h4
      repeat (first | rw [if_neg e5] | rw [if_neg e6])
      rw [h3]
      rfl
  · clear F2 N2
    intro c tl h tk u ht hI F'' N''
    obtain ⟨oc, kvc⟩ := c
    rw [List.length_map, hel₁] at hI
    obtain ⟨hI1, hI2, hI3⟩ := hI
    dsimp only [names, kstB, List.contains_nil, List.singleton_append] at F'' N'' hI1 hI2 hI3
    k_steps
    unfold Hold
    rename Fr _ _ _ _ => F9
    rename News _ _ _ _ => N9
    have htl : ∀ p ∈ tl ++ news, p.1 ≠ dn := by
      intro p hp
      rcases List.mem_append.mp hp with hp | hp
      · exact Ne.symm (ht p hp (dn, on) (.head _))
      · exact Nat.ne_of_lt (lN p hp)
    have hm₂' : (d₂, o₂) ∈ tl ++ news := List.mem_append.mpr (.inr hm₂)
    refine kdl_method PySem.F.slot_dict_items rfl N9 (.tail _ hm₂') ho₂ ?_
    k_steps
    unfold Hold
    refine kta_callItems F9 N9 (.tail _ hm₂') ho₂ hs₂ ?_
    intro h2 hview F2 N2
    clear F9 N9
    k_steps
    unfold Hold
    refine kta_items (enc := PyData.int) rfl F2 N2 hview (.tail _ hm₂') ho₂ (fun k v h => Value.isInt_shape h) rfl fun Ia hlt => ?_
    refine items_loop (σ := Obj × List (Int × Value)) (fun c => [(dn, c.1)]) (fun _ => []) [Str.ofString "func", Str.ofString "caller"] (fun i c _ => c.1.IsDictOf (PySem.intKind PySem.Challenge.rw_xg0025_01.row.prog w) c.2 ∧ EntriesAre c.2 (addE (copyE ps ps.length) qs i) ∧ c.2.length ≤ ps.length + i) [dn] (oc, kvc) (tl ++ news) ?_ ?_ (fun _ => rfl) ?_ ⟨hI1, hI2, by dsimp only; omega⟩ (fun _ h => nomatch h) ?_ ?_
    · exact fun nx h => And.intro (h _ hm₂') trivial
    · intro p hp w' hw'
      rw [List.mem_singleton.mp hw']
      exact Nat.ne_of_lt (hlt p hp)
    · intro p hp b hb
      rw [List.mem_singleton.mp hb]
      exact htl p hp
    · clear F2 N2 hI1 hI2 hI3
      intro i a v c rest tail h tk u ha hv hI hrt hoff hsub F'' N''
      rw [List.getElem?_map] at ha
      obtain ⟨p, e1, rfl⟩ := Option.map_eq_some_iff.mp ha
      obtain ⟨n, tn, e2, e3⟩ := he₂.get e1
      obtain ⟨T', tk', rfl, hT⟩ := hv
      have hi1 : i < kv₂.length := (List.getElem?_eq_some_iff.mp e1).1
      rw [e2] at hT
      obtain ⟨oc, kvc⟩ := c
      obtain ⟨hI1, hI2, hI3⟩ := hI
      dsimp only [kyVal] at hT
      dsimp only [names, kstB, List.contains_nil, List.singleton_append] at F'' N'' hI1 hI2 hI3
      have hoff1 : ∀ p ∈ tail, p.1 ≠ dn := fun p hp => hoff p hp dn (.head _)
      k_steps
      unfold Hold
      rename Fr _ _ _ _ => F9
      rename News _ _ _ _ => N9
      have hval := hI2.value p.1
      cases hf : findE (addE (copyE ps ps.length) qs i) p.1 with
      | none =>
        refine kda_in N9 (.head _) hI1 loN (intKind_is _ _ _ _) false (by rw [hval.1 hf]; rfl) ?_
        k_steps
        unfold Hold
        rename Fr _ _ _ _ => F7
        rename News _ _ _ _ => N7
        refine kda_set F7 N7 (UpdF.head (fun p hp => hoff1 p hp)) hI1 (intKind_is _ _ _ _) (by rw [sizeLine_eq]; omega) ?_
        intro h3 o3 F3 N3 ho3
        clear F7 N7
        k_steps
        rename Fr _ _ _ _ => F8
        rename News _ _ _ _ => N8
        refine turn_next (o3, stored kvc p.1 (.int n _)) [] F8 N8 (List.forall_mem_singleton.mpr (.head _)) (fun p hp => .tail _ hp) (fun _ h => nomatch h) ⟨ho3, ?_, ?_⟩ (fun _ h => nomatch h) ?_
        · show EntriesAre _ (match findE (addE (copyE ps ps.length) qs i) (qs.getD i (0, 0)).1 with | some n => putE (addE (copyE ps ps.length) qs i) (qs.getD i (0, 0)).1 (n + (qs.getD i (0, 0)).2) | none => putE (addE (copyE ps ps.length) qs i) (qs.getD i (0, 0)).1 (qs.getD i (0, 0)).2)
          rw [getD_of e3]
          dsimp only
          rw [hf]
          exact hI2.put _ _ _
        · have := stored_len kvc p.1 (.int n 0)
          have h2 : ∀ t : Tok, (stored kvc p.1 (.int n t)).length ≤ kvc.length + 1 := fun t => stored_len kvc p.1 _
          exact Nat.le_trans (h2 _) (by omega)
        · intro z _ _ h3
          have h4 := h3
          simp only [List.contains_cons, List.contains_nil, Bool.or_false, Bool.or_eq_false_iff, beq_eq_false_iff_ne] at h4
          obtain ⟨e5, e6⟩ := h4
          repeat (first | rw [if_neg e5] | rw [if_neg e6])
          rw [h3]
          rfl
      | some n0 =>
        obtain ⟨t0, ht0⟩ := hval.2 n0 hf
        refine kda_in N9 (.head _) hI1 loN (intKind_is _ _ _ _) true (by rw [ht0]; rfl) ?_
        k_steps
        unfold Hold
        rename Fr _ _ _ _ => F6
        rename News _ _ _ _ => N6
        refine kdt_getItem N6 (.head _) hI1 (intKind_is _ _ _ _) ht0 ?_
        k_steps
        unfold Hold
        rename Fr _ _ _ _ => F7
        rename News _ _ _ _ => N7
        refine kda_set F7 N7 (UpdF.head (fun p hp => hoff1 p hp)) hI1 (intKind_is _ _ _ _) (by rw [sizeLine_eq]; omega) ?_
        intro h3 o3 F3 N3 ho3
        clear F7 N7
        k_steps
        rename Fr _ _ _ _ => F8
        rename News _ _ _ _ => N8
        refine turn_next (o3, stored kvc p.1 (.int (n0 + n) _)) [] F8 N8 (List.forall_mem_singleton.mpr (.head _)) (fun p hp => .tail _ hp) (fun _ h => nomatch h) ⟨ho3, ?_, ?_⟩ (fun _ h => nomatch h) ?_
        · show EntriesAre _ (match findE (addE (copyE ps ps.length) qs i) (qs.getD i (0, 0)).1 with | some n => putE (addE (copyE ps ps.length) qs i) (qs.getD i (0, 0)).1 (n + (qs.getD i (0, 0)).2) | none => putE (addE (copyE ps ps.length) qs i) (qs.getD i (0, 0)).1 (qs.getD i (0, 0)).2)
          rw [getD_of e3]
          dsimp only
          rw [hf]
          exact hI2.put _ _ _
        · have := stored_len kvc p.1 (.int (n0 + n) 0)
          have h2 : ∀ t : Tok, (stored kvc p.1 (.int (n0 + n) t)).length ≤ kvc.length + 1 := fun t => stored_len kvc p.1 _
          exact Nat.le_trans (h2 _) (by omega)
        · intro z _ _ h3
          have h4 := h3
          simp only [List.contains_cons, List.contains_nil, Bool.or_false, Bool.or_eq_false_iff, beq_eq_false_iff_ne] at h4
          obtain ⟨e5, e6⟩ := h4
          repeat (first | rw [if_neg e5] | rw [if_neg e6])
          rw [h3]
          rfl
    · clear F2 N2 hI1 hI2 hI3
      intro c tl2 h tk u ht2 hI F'' N''
      obtain ⟨oc2, kvc2⟩ := c
      rw [List.length_map, hel₂] at hI
      obtain ⟨hI1, hI2, hI3⟩ := hI
      dsimp only [names, kstB, List.contains_nil, List.singleton_append] at F'' N'' hI1 hI2 hI3
      k_steps
      rename Fr _ _ _ _ => F8
      rename News _ _ _ _ => N8
      refine does_ret2 hret [(dn, oc2)] F8 N8 ?_ (List.forall_mem_singleton.mpr (.head _)) ?_ ⟨[(dn, oc2)], by rw [hold], dn, oc2, kvc2, rfl, .head _, hI1, hI2, loN⟩
      · exact fun q hq => .tail _ (List.mem_append.mpr (.inr (List.mem_append.mpr (.inr hq))))
      · exact List.forall_mem_singleton.mpr (fun q hq => Nat.ne_of_lt (lN q hq))
end
end
section
theorem said11 : True := by
  k_with_none
  k_with "z0 pyIter ref" => (((with_reducible show wpAny _ _ (pyIter (Value.ref _)) (fun it s₂ => LoopAtV _ _ _ _ _ _ _ _ _ it s₂) _ _); refine Hold.mk ?_))
  k_with "z range" => ((with_unfolding_all refine' range1_rows ?kF ?kN ?_); (case kF => k_asm); (case kN => k_asm))
  k_with "z0 getItem ref int" => ((k_here; (with_reducible show wpAny _ _ (getItem (Value.ref _) (Value.int (-1) _)) _ _ _); k_dflt (refine' get_last ?k1 ?k2 ?_; (case k1 => k_asm); (case k2 => k_mem); k_whole)))
  k_with "z1 setItem ref int" => ((k_here; (with_reducible show wpAny _ _ (setItem (Value.ref _) (Value.int (-1) _) _) _ _ _); k_dflt (refine' set_last ?k1 ?k2 ?k3 ?_; (case k1 => k_asm); (case k2 => k_asm); (case k3 => k_upd); k_whole)))
  k_with "z2 call builtin:list.append" => ((k_here; (with_reducible show wpAny _ _ (call (Value.builtin _) [Value.ref _, _]) _ _ _); k_dflt (refine' append_K ?k1 ?k2 ?k3 ?_ ?z; (case k1 => k_asm); (case k2 => k_asm); (case k3 => k_upd); (case z => first | assumption | size_fits | (simp only [List.size_toArray, List.length_append, List.length_cons, List.length_nil, sizeLine_eq]; omega)); k_whole)))
  k_with "z0 exec While Compare cons nil" => (((with_reducible show wpAny _ _ (exec (Stmt.While _ _ _ _) _) _ _ _); refine Hold.mk ?_))
  k_with "z kmk_list" => (exact listIn (by k_asm) (by k_mem))
  k_with "z is_list" => (exact listIn (by k_asm) (by k_mem))
  k_with "z k_mem" => (((show _ ∈ (_ : List (Addr × Obj))); with_reducible assumption))
  k_with "z3 subscriptTail" => ((k_here; (with_reducible show wpAny _ _ (subscriptTail _ (PySem.Expr.Slice none none (some _) _) (Value.ref _) (Value.ref _)) _ _ _); k_dflt (refine' rev_list ?F ?N ?l ?k ?z ?_ ?s ?t; (case F => k_asm); (case N => k_asm); (case l => k_mem); (case k => exact IsPart.int _ _); (case s => with_unfolding_all rfl); (case t => kmk_pure); (case z => (simp only [sizeLine_eq]; omega)))))
  k_with "z0 exec For Name Subscript cons nil" => ((with_unfolding_all (refine' my_For ?kF ?k1 ?k2 ?_; (case k1 => exact rfl); (case k2 => exact rfl)); (case kF => k_asm)))
  k_with "z0 exec For Name Call cons nil" => ((with_unfolding_all (refine' my_For ?kF ?k1 ?k2 ?_; (case k1 => exact rfl); (case k2 => exact rfl)); (case kF => k_asm)))
  k_with "z0 exec For Name Name cons nil" => ((with_unfolding_all (refine' my_For ?kF ?k1 ?k2 ?_; (case k1 => exact rfl); (case k2 => exact rfl)); (case kF => k_asm)))
  k_with "z enter" => (refine' code_defC ?k1 ?k2 ?k3 ?k4 ?k5 ?kA ?kF ?kK ?k6 ?k7 ?k8 ?k9 ?kB ?kD ?_ ?c2 ?c3 ?c4; (case kA => exact rfl); (case kF => exact rfl); (case kK => assumption); (case k1 => k_asm); (case k2 => k_asm); (case k3 => k_asm); (case k4 => k_asm); (case k5 => k_asm); (case k6 => k_is); (case k7 => k_is); (case k8 => ktr_room); (case k9 => exact BindsTo.of_eq rfl); (case kB => exact rfl); (case kD => decide +kernel); (case c2 => exact rfl); (case c3 => exact rfl); (case c4 => exact rfl); k_whole)
  k_with "z0 eval ListComp" => (((with_reducible show wpAny _ _ (eval (Expr.ListComp _ _ _ _) _) _ _ _); refine Hold.mk ?_))
  k_with "z0 exec Assign cons ListComp" => (((with_reducible show wpAny _ _ (exec (Stmt.Assign [_] (Expr.ListComp _ _ _ _) _) _) _ _ _); refine Hold.mk ?_))
  k_with "z0 CompSrc" => ((refine Hold.mk ?_))
  k_with "z0 CompSrcT" => ((refine Hold.mk ?_))
  k_with "z0 SrcLP" => ((refine Hold.mk ?_))
  k_with "z0 CompEnd" => ((refine Hold.mk ?_))
  k_with "z k_steps" => (repeat' (first | (k_unfold; (try dsimp only)) | (walk1; (try dsimp only)) | (dsimp only; walk1; (try dsimp only)) | (leave1; walk_say "STEP leave1"; try dsimp only) | fail "no step"))
  k_with "z4 call builtin:sum" => ((k_here; (with_reducible show wpAny _ _ (call (Value.builtin "sum") [Value.ref _]) _ _ _); k_dflt (refine' sumK ?kz ?kF ?kN ?kl ?ki ?_; (case kz => exact rfl); (case kF => k_asm); (case kN => k_asm); (case kl => exact listIn (by k_asm) (by k_mem)); (case ki => assumption); k_whole)))
  k_with "z0 eval ListComp" => ((k_here; (with_reducible show wpAny _ _ (eval (Expr.ListComp _ [Comprehension.mk (Expr.Name _ _) _ [] _] _ _) _) _ _ _); k_dflt (refine LCg.ListComp_U (F₀ := by k_asm) (by with_unfolding_all rfl) (by decide) (by rfl) (by decide) (by rfl) ?_)))
  k_with "z0 eval ListComp" => ((k_here; (with_reducible show wpAny _ _ (eval (Expr.ListComp _ [Comprehension.mk (Expr.Name _ _) _ [_] _] _ _) _) _ _ _); k_dflt (refine LCt.ListComp_T (F₀ := by k_asm) (by with_unfolding_all rfl) (by decide) (by rfl) (by decide) (by rfl) ?_)))
  k_with "z0 eval ListComp" => ((k_here; (with_reducible show wpAny _ _ (eval (Expr.ListComp _ [Comprehension.mk (Expr.Tuple [Expr.Name _ _, Expr.Name _ _] _ _) _ [] _] _ _) _) _ _ _); k_dflt (refine LCp.ListComp_P (F₀ := by k_asm) (by with_unfolding_all rfl) (by decide) (by rfl) (by decide) (by rfl) (by rfl) (by decide) ?_)))
  k_with "z0 exec Assign cons ListComp" => ((k_here; (with_reducible show wpAny _ _ (exec (Stmt.Assign [_] (Expr.ListComp _ [Comprehension.mk (Expr.Name _ _) _ [] _] _ _) _) _) _ _ _); k_dflt (refine LCg.Assign_ListComp_U (F₀ := by k_asm) (by rfl) (by with_unfolding_all rfl) (by with_unfolding_all rfl) (by decide) (by rfl) (by decide) (by rfl) (by rfl) (by rfl) ?_)))
  k_with "z0 exec Assign cons ListComp" => ((k_here; (with_reducible show wpAny _ _ (exec (Stmt.Assign [_] (Expr.ListComp _ [Comprehension.mk (Expr.Tuple [Expr.Name _ _, Expr.Name _ _] _ _) _ [] _] _ _) _) _) _ _ _); k_dflt (refine LCp.Assign_ListComp_P (F₀ := by k_asm) (by rfl) (by with_unfolding_all rfl) (by with_unfolding_all rfl) (by decide) (by rfl) (by decide) (by rfl) (by rfl) (by decide) (by rfl) (by rfl) ?_)))
  k_with "z k_mem" => (((show _ ∈ (_ : List (Addr × Obj))); first | with_reducible assumption | with_reducible exact List.Mem.head _ | (with_reducible refine List.mem_cons_of_mem _ ?_; k_mem) | (with_reducible refine List.mem_append_right _ ?_; k_mem) | (with_reducible refine List.mem_append_left _ ?_; k_mem)))
  k_with "z0 exec For Tuple Attribute cons nil" => (((with_unfolding_all (refine' For_turns ?kF ?_)); (case kF => k_asm)))
  k_with "z0 exec For Tuple Name cons nil" => (((with_unfolding_all (refine' For_turns ?kF ?_)); (case kF => k_asm)))
  k_with "z0 exec For Tuple Call cons nil" => (((with_unfolding_all (refine' For_turns ?kF ?_)); (case kF => k_asm)))
  k_with "z0 exec For Tuple Subscript cons nil" => (((with_unfolding_all (refine' For_turns ?kF ?_)); (case kF => k_asm)))
  k_with "z0 pyIter ref" => (((with_reducible show wpAny _ _ (pyIter (Value.ref _)) (fun it s₂ => TurnsAt _ _ _ _ _ _ _ _ _ it s₂) _ _); refine Hold.mk ?_))
  k_with "z0 subscriptTail" => ((k_here; (with_reducible show wpAny _ _ (subscriptTail _ _ (Value.ref _) (Value.int _ _)) _ _ _); k_dflt (refine' item_list_ints ?l ?i ?a ?b ?c ?_; (case l => exact listIn (by k_asm) (by k_mem)); (case i => with_reducible assumption); (case a => omega); (case b => omega); (case c => omega); k_whole); intro _))
  k_with "z3 subscriptTail" => ((k_here; (with_reducible show wpAny _ _ (subscriptTail _ (PySem.Expr.Slice (some _) none none _) (Value.ref _) (Value.ref _)) _ _ _); k_dflt (refine' drop_list ?dlE ?dlF ?dlN ?dlM ?dlP ?dlQ ?dlX ?dlZ ?_ ?dlS ?dlT; (case dlE => exact rfl); (case dlF => k_asm); (case dlN => k_asm); (case dlM => k_mem); (case dlP => exact IsPart.int _ _); (case dlQ => exact IsPart.none); (case dlX => omega); (case dlS => with_unfolding_all rfl); (case dlT => kmk_pure); (case dlZ => ((try simp only [sizeLine_eq, List.length_cons, List.length_nil, List.length_append, List.length_drop, List.length_replicate, List.length_dropLast]); omega)))))
  k_with "z3 subscriptTail" => ((k_here; (with_reducible show wpAny _ _ (subscriptTail _ (PySem.Expr.Slice none (some _) none _) (Value.ref _) (Value.ref _)) _ _ _); k_dflt (refine' init_list ?dlE ?dlF ?dlN ?dlM ?dlQ ?dlP ?dlZ ?_ ?dlS ?dlT; (case dlE => exact rfl); (case dlF => k_asm); (case dlN => k_asm); (case dlM => k_mem); (case dlP => exact IsPart.int _ _); (case dlQ => exact IsPart.none); (case dlS => with_unfolding_all rfl); (case dlT => kmk_pure); (case dlZ => ((try simp only [sizeLine_eq, List.length_cons, List.length_nil, List.length_append, List.length_drop, List.length_replicate, List.length_dropLast]); omega)))))
  k_with "z3 subscriptTail" => ((k_here; (with_reducible show wpAny _ _ (subscriptTail _ (PySem.Expr.Slice none none (some _) _) (Value.ref _) (Value.ref _)) _ _ _); k_dflt (refine' revv_list ?dlE ?dlF ?dlN ?dlM ?dlP ?dlZ ?_ ?dlS ?dlT; (case dlE => exact rfl); (case dlF => k_asm); (case dlN => k_asm); (case dlM => k_mem); (case dlP => exact IsPart.int _ _); (case dlS => with_unfolding_all rfl); (case dlT => kmk_pure); (case dlZ => ((try simp only [sizeLine_eq, List.length_cons, List.length_nil, List.length_append, List.length_drop, List.length_replicate, List.length_dropLast]); omega)))))
  k_with "z3 binaryOp Add ref ref" => ((k_here; (with_reducible show wpAny _ _ (binaryOp _ (Value.ref _) (Value.ref _)) _ _ _); k_dflt (refine' add_l ?alF ?alN ?alA ?alB ?alZ ?_; (case alF => k_asm); (case alN => k_asm); (case alA => k_mem); (case alB => k_mem); (case alZ => ((try simp only [sizeLine_eq, List.length_cons, List.length_nil, List.length_append, List.length_drop, List.length_replicate, List.length_dropLast]); omega)))))
  k_with "z3 binaryOp Mult ref int" => ((k_here; (with_reducible show wpAny _ _ (binaryOp Operator.Mult (Value.ref _) (Value.int _ _)) _ _ _); k_dflt (refine' mul_l ?alF ?alN ?alA ?alB ?alZ ?_; (case alF => k_asm); (case alN => k_asm); (case alA => k_mem); (case alB => omega); (case alZ => omega))))
  k_with "z3 subscriptTail" => ((k_here; (with_reducible show wpAny _ _ (subscriptTail (PySem.Expr.Subscript _ _ _) (PySem.Expr.Slice none none (some _) _) (Value.ref _) (Value.ref _)) _ _ _); k_dflt (refine' revt_list ?dlE ?dlF ?dlN ?dlM ?dlP ?dlZ ?_ ?dlS; (case dlE => exact rfl); (case dlF => k_asm); (case dlN => k_asm); (case dlM => k_mem); (case dlP => exact IsPart.int _ _); (case dlS => with_unfolding_all rfl); (case dlZ => ((try simp only [sizeLine_eq, List.length_dropLast]); omega)))))
  k_with "z0 call ref" => (((with_reducible show wpAny _ _ (call (Value.ref _) _) _ _ _); refine Hold.mk ?_))
  k_with "z0 eval DictComp" => (((with_reducible show wpAny _ _ (eval (Expr.DictComp _ _ _ _ _) _) _ _ _); refine Hold.mk ?_))
  k_with "z0 subscriptTail" => (((with_reducible show wpAny _ _ (subscriptTail _ _ (Value.ref _) (Value.int _ _)) _ _ _); refine Hold.mk ?_))
  trivial
/-- values that are dicts of the ledger's -/
inductive DictsAre (w : World) (news : List (Addr × Obj)) : List Value → List (List (Int × Int)) → Prop
  | nil : DictsAre w news [] []
  | cons {v : Value} {ps : List (Int × Int)} {vs : List Value} {qs : List (List (Int × Int))} : DictIn w news v ps → DictsAre w news vs qs → DictsAre w news (v :: vs) (ps :: qs)
theorem DictIn.mono {w : World} {news news' : List (Addr × Obj)} {v : Value} {ps : List (Int × Int)} (h : DictIn w news v ps) (hs : ∀ p ∈ news, p ∈ news') : DictIn w news' v ps := by
  obtain ⟨d, o, kvs, rfl, hm, r⟩ := h
  exact ⟨d, o, kvs, rfl, hs _ hm, r⟩
theorem DictsAre.mono {w : World} {news news' : List (Addr × Obj)} {vs : List Value} {qs : List (List (Int × Int))} (h : DictsAre w news vs qs) (hs : ∀ p ∈ news, p ∈ news') : DictsAre w news' vs qs := by
  induction h with
  | nil => exact .nil
  | cons h1 _ ih => exact .cons (h1.mono hs) ih
theorem DictsAre.length {w : World} {news : List (Addr × Obj)} {vs : List Value} {qs : List (List (Int × Int))} (h : DictsAre w news vs qs) : vs.length = qs.length := by
  induction h with
  | nil => rfl
  | cons _ _ ih => rw [List.length_cons, List.length_cons, ih]
theorem DictsAre.snoc {w : World} {news : List (Addr × Obj)} {vs : List Value} {qs : List (List (Int × Int))} {v : Value} {ps : List (Int × Int)} (h : DictsAre w news vs qs) (k : DictIn w news v ps) : DictsAre w news (vs ++ [v]) (qs ++ [ps]) := by
  induction h with
  | nil => exact .cons k .nil
  | cons h1 _ ih => exact .cons h1 ih
theorem DictsAre.get {w : World} {news : List (Addr × Obj)} {vs : List Value} {qs : List (List (Int × Int))} (h : DictsAre w news vs qs) : ∀ {i : Nat}, i < qs.length → ∃ v, vs[i]? = some v ∧ DictIn w news v (qs.getD i []) := by
  induction h with
  | nil => intro i hi; cases hi
  | cons h1 _ ih =>
    intro i hi
    cases i with
    | zero => exact ⟨_, rfl, h1⟩
    | succ i =>
      obtain ⟨v, e, h2⟩ := ih (Nat.lt_of_succ_lt_succ hi)
      exact ⟨v, e, h2⟩
theorem PairsAre.rev {news : List (Addr × Obj)} {vs : List Value} {ps : List (Int × Int)} (h : PairsAre news vs ps) : PairsAre news vs.reverse ps.reverse := by
  induction h with
  | nil => exact .nil
  | cons hm _ ih => rw [List.reverse_cons, List.reverse_cons]; exact ih.append (.cons hm .nil)
theorem PairsAre.dropLast {news : List (Addr × Obj)} {vs : List Value} {ps : List (Int × Int)} (h : PairsAre news vs ps) : PairsAre news vs.dropLast ps.dropLast := by
  induction h with
  | nil => exact .nil
  | cons hm h ih =>
    cases h with
    | nil => exact .nil
    | cons hm' h' => exact .cons hm ih
theorem item_neg {prog : Program} {w : World} {A : Around} {E : Value → Shared → Prop} {s : Shared} {h₀ : Heap} {L l : Addr} {news : List (Addr × Obj)} {value slice : PySem.Expr} {vs : List Value} {n : Nat} {x : Int} {t : Tok} {v : Value} {Q : Value → Shared → Prop} {ops : List Value}
    (N : News h₀ L s.heap news) (hm : (l, W.listOf vs.toArray n) ∈ news) (h0 : x < 0) (h1 : -(vs.length : Int) ≤ x) (h2 : -(2 ^ 63) ≤ x) (hv : vs[(x + vs.length).toNat]? = some v) (h : Q v s)
    (hs : subscripted slice false (.ref l) (.int x t) = operate ops (getItem (.ref l) (.int x t))) : wpAny (model prog w) A (subscriptTail value slice (.ref l) (.int x t)) Q E s := by
  have hl := listIn N hm
  exact tail_any hl.typeIs slot_list_getitem.lookup (wpAny_getItem_list_neg hl h0 (by simpa using h1) h2 (by simpa using hv) h) hs
def wholeF (tabs : List (List (Int × Int))) : Nat → List (Int × Int)
  | 0 => []
  | k + 1 => addF (wholeF tabs k) (tabs.getD (tabs.length - (k + 1)) [])
def shiftF (ps : List (Int × Int)) : List (Int × Int) := compE ps (fun k => k + 1) (fun k => (findE ps k).getD 0)
def movesF (p : Int × Int) : Nat := ((p.1 - 1).fdiv p.2).toNat
def tabsF (qs : List (Int × Int)) : Nat → List (List (Int × Int))
  | 0 => [[(0, 1)]]
  | i + 1 => tabsF qs i ++ [shiftF (wholeF (tabsF qs i) (movesF (qs.getD i (0, 0))))]
theorem tabsF_len (qs : List (Int × Int)) : ∀ i, (tabsF qs i).length = i + 1
  | 0 => rfl
  | i + 1 => by show (tabsF qs i ++ [_]).length = _; rw [List.length_append, tabsF_len qs i]; rfl
def playsF (ps : List (Int × Int)) : List (Int × Int) := (tabsF ps.dropLast.reverse (ps.length - 1)).getD (ps.length - 1) []
theorem plays_does {w : World} (ps : List (Int × Int)) (hp : ∀ p ∈ ps, 1 ≤ p.2 ∧ p.2 ≤ p.1 ∧ p.1 < 2 ^ 22) (hpl : ps.length < 20) (hp1 : 1 ≤ ps.length)
    (hmv : ∀ i, i < ps.length - 1 → movesF (ps.dropLast.reverse.getD i (0, 0)) ≤ i + 1) (hsz : ∀ i k, i < ps.length → (wholeF (tabsF ps.dropLast.reverse i) k).length < 100)
    (hsz2 : ∀ i, i < ps.length → ∀ t ∈ tabsF ps.dropLast.reverse i, t.length < 100) :
    Does w 162 9 (fun news vs => ∃ v, vs = [v] ∧ PairsIn news v ps) (fun news r => DictIn w news r (playsF ps)) := by
  unfold Does
  k_fill
  w_top off
  intro loose mean mg mb dp un gd cn cs a ccd cl outer A₀ base h₀ L m news s vs Q E B F X N T hk hR hd hu hret
  obtain ⟨_, rfl, ra, xs, nx, rfl, hm, hx⟩ := hR
  have hxl := hx.length
  refine wpAny_call ?_
  k_dflt ktr_enter
  k_steps
  unfold Hold
  rename Fr _ _ _ _ => F9
  rename News _ _ _ _ => N9
  rename_i g' L' h1 tk' FG' B' X' T' l1a oc d1 h2 od lo hdd hff ap' l1b l' h3 l1c h4 D1 h5 l1d D2 h6 l1e
  have hoc : ∃ v₀, oc.data = Data.cell v₀ := ⟨_, d1⟩
  clear d1 hff
  obtain ⟨v₀, d1⟩ := hoc
  have hmod : sysModules < g'.objs.size := modules_low (Top.nolimit T')
  have hxr := (hx.dropLast).rev
  generalize hqs : ps.dropLast.reverse = qs at hxr hmv hsz hsz2
  have hql : qs.length = ps.length - 1 := by rw [← hqs, List.length_reverse, List.length_dropLast]
  refine loop_pat (σ := (Obj × Option Value) × (List Value × Nat)) (fun c => [(L' + 1, c.1.1), (l', W.listOf c.2.1.toArray c.2.2)]) (fun _ => []) [Str.ofString "more", Str.ofString "less", Str.ofString "k"] (fun i c rest => c.1.1.data = .cell c.1.2 ∧ DictsAre w rest c.2.1 (tabsF qs i)) [L' + 1, l'] ((oc, v₀), ([.ref _], 0)) ((D2, W.listOf xs.dropLast.reverse.toArray 0) :: (D1, W.listOf xs.dropLast.toArray 0) :: (_, od) :: news) rfl (.head _) F9 N9 ?_ (fun _ => rfl) ?_ ⟨d1, .cons ⟨_, od, _, rfl, .tail _ (.tail _ (.head _)), hdd, .cons 0 1 _ .nil, lo⟩ .nil⟩ (fun _ h => nomatch h) ?_ ?_
  · intro p hp
    simp only [List.cons_append, List.nil_append, List.mem_cons] at hp ⊢
    rcases hp with h | h | h | h | h | h
    all_goals simp only [h, true_or, or_true]
  · intro p hp b hb
    have hb' : b = L' + 1 ∨ b = l' := by simpa using hb
    simp only [List.mem_cons] at hp
    rcases hp with rfl | rfl | rfl | hp
    · rcases hb' with rfl | rfl
      · exact Ne.symm (Nat.ne_of_lt (l1e _ (.tail _ (.tail _ (.tail _ (.head _))))))
      · exact Ne.symm (Nat.ne_of_lt (l1e _ (.tail _ (.head _))))
    · rcases hb' with rfl | rfl
      · exact Ne.symm (Nat.ne_of_lt (l1d _ (.tail _ (.tail _ (.head _)))))
      · exact Ne.symm (Nat.ne_of_lt (l1d _ (.head _)))
    · rcases hb' with rfl | rfl
      · exact Ne.symm (Nat.ne_of_lt l1b.1)
      · exact Nat.ne_of_lt l1c.1
    · rcases hb' with rfl | rfl
      · exact Nat.ne_of_lt (Nat.lt_succ_of_lt (l1a p hp))
      · exact Nat.ne_of_lt (AllLt.mem' l1c.2.2 p hp)
  · intro i v c rest tail h tk u hv hI hrt hoff hsub F'' N''
    refine hideT ?_
    intro Qh1 hQt1
    obtain ⟨p, a1, b1, t1, u1, n1, rfl, hpm, hpi⟩ := hxr.get hv
    have hpq : (a1, b1) ∈ ps := by
      have h1 := List.mem_of_getElem? hpi
      rw [← hqs] at h1
      exact List.dropLast_subset _ (List.mem_reverse.mp h1)
    obtain ⟨hp0, hp1', hp2⟩ := hp (a1, b1) hpq
    have hi : i < qs.length := (List.getElem?_eq_some_iff.mp hpi).1
    dsimp only at hp0 hp1' hp2
    obtain ⟨⟨ocell, vcell⟩, ts, nt⟩ := c
    obtain ⟨hI1, hI2⟩ := hI
    dsimp only at hI1 hI2
    have hsubT : ∀ p ∈ news, p ∈ tail := fun p hp => hrt p (hsub p (.tail _ (.tail _ (.tail _ hp))))
    have m1 := hsubT _ hpm
    have o1 : ∀ p ∈ tail, p.1 ≠ L' + 1 := fun p hp => hoff p hp _ (.head _)
    have o2 : ∀ p ∈ tail, p.1 ≠ l' := fun p hp => hoff p hp _ (.tail _ (.head _))
    dsimp only [names, kstB, List.contains_nil, List.cons_append, List.nil_append] at F'' N''
    clear F9 N9
    k_steps
    rename_i dn hn1 on lon hsn fsn hin fin l1n hn2 oc2 Fa Na dc2 hn3 tkn t9 u9 v9 R9 F9 N9 K9
    unfold Hold
    clear Fa Na K9 hsn fsn fin
    have hfd : Int.fdiv (a1 - 1) b1 = (a1 - 1) / b1 := Int.fdiv_eq_ediv_of_nonneg _ (by omega)
    have hq0 : 0 ≤ Int.fdiv (a1 - 1) b1 := by rw [hfd]; exact Int.ediv_nonneg (by omega) (by omega)
    have hq1 : Int.fdiv (a1 - 1) b1 ≤ a1 - 1 := by rw [hfd]; exact Int.ediv_le_self _ (by omega)
    have hmvi := hmv i (by omega)
    rw [getD_of hpi] at hmvi
    have hmn : ((movesF (a1, b1) : Nat) : Int) = Int.fdiv (a1 - 1) b1 := by unfold movesF; dsimp only; omega
    have hl1 : L' + 1 < dn ∧ l' < dn ∧ ∀ p ∈ tail, p.1 < dn := ⟨l1n.1, l1n.2.1, AllLt.mem' l1n.2.2⟩
    have hll : l' ≠ L' + 1 := Ne.symm (Nat.ne_of_lt l1c.2.1)
    refine loop_range (σ := Obj × Value) (n := movesF (a1, b1)) (fun c => [(L' + 1, c.1)]) (fun _ => []) [] (fun k c rest => c.1.data = .cell (some c.2) ∧ DictIn w rest c.2 (wholeF (tabsF qs i) k)) [L' + 1] (oc2, .ref dn) ((dn, on) :: (l', W.listOf ts.toArray nt) :: tail) rfl R9
      (small_one (by omega) (by omega) (by omega) (by omega)) (by rw [rangeSize_one, hmn]; split <;> omega) F9 N9 ?_ (fun _ => rfl) ?_ ⟨dc2, ⟨dn, on, [], rfl, .head _, hin, .nil, lon⟩⟩ (fun _ h => nomatch h) ?_ ?_
    · intro p hp
      simp only [List.cons_append, List.nil_append, List.mem_cons] at hp ⊢
      rcases hp with h | h | h | h
      all_goals simp only [h, true_or, or_true]
    · intro p hp b hb
      rw [List.mem_singleton.mp hb]
      rcases List.mem_cons.mp hp with rfl | hp
      · exact Ne.symm (Nat.ne_of_lt hl1.1)
      · rcases List.mem_cons.mp hp with rfl | hp
        · exact hll
        · exact o1 p hp
    · clear F9 N9 R9
      intro k c rest2 tail2 h tk t' u' hk2 hI hrt2 hoff2 hsub2 F'' N''
      refine hideQ ?_
      intro Qh2 hQt2
      obtain ⟨ock, vk⟩ := c
      obtain ⟨hc1, hDI⟩ := hI
      dsimp only at hc1 hDI
      have o3 : ∀ p ∈ tail2, p.1 ≠ L' + 1 := fun p hp => hoff2 p hp _ (.head _)
      have hsubT2 := fun p hp => hrt2 p (hsub2 p hp)
      have mt := hsubT2 _ (.tail _ (.head _))
      have htl := hI2.length
      rw [tabsF_len] at htl
      have hk3 : k < movesF (a1, b1) := hk2
      dsimp only [names, kstB, List.contains_nil, List.cons_append, List.nil_append] at F'' N''
      k_steps
      unfold Hold
      obtain ⟨v2, hv2, hD2⟩ := hI2.get (i := (tabsF qs i).length - (k + 1)) (by rw [tabsF_len]; omega)
      have e2 : (-(1 + (k : Int)) + (ts.length : Int)).toNat = (tabsF qs i).length - (k + 1) := by rw [tabsF_len]; omega
      refine item_neg (v := v2) N'' (.tail _ mt) (by omega) (by omega) (by omega) (by rw [e2]; exact hv2) ?_ (by with_unfolding_all rfl)
      k_steps
      unfold Hold
      rename Fr _ _ _ _ => F9
      rename News _ _ _ _ => N9
      have hsubT3 : ∀ p ∈ rest, p ∈ (L' + 1, ock) :: tail2 := fun p hp => .tail _ (hsubT2 _ (.tail _ (.tail _ (hrt p hp))))
      with_unfolding_all refine' use_does (add_does _ (wholeF (tabsF qs i) k) ((tabsF qs i).getD ((tabsF qs i).length - (k + 1)) []) ?h1 ?h2) ?k1 F9 ?k3 N9 ?k5 ?k6 ⟨rfl, _, _, rfl, hDI.mono (fun p hp => .tail _ (hrt2 p hp)), hD2.mono hsubT3⟩ ?k8 ?k9 ?_
      case h1 => exact hsz i k (by omega)
      case h2 =>
        rw [List.getD_eq_getElem?_getD, List.getElem?_eq_getElem (by rw [tabsF_len]; omega)]
        exact hsz2 i (by omega) _ (List.getElem_mem _)
      case k1 => k_asm
      case k3 => k_asm
      case k5 => k_asm
      case k6 => exact rfl
      case k8 => ktr_room
      case k9 => ktr_units
      intro v tl' h' tk' F1 N1 ho hout
      have N2 : News _ _ h' ((L' + 1, ock) :: (tail2 ++ tl')) := N1
      have o4 : ∀ p ∈ tail2 ++ tl', p.1 ≠ L' + 1 := fun p hp => by
        rcases List.mem_append.mp hp with hp | hp
        · exact o3 p hp
        · exact Ne.symm (ho _ (.head _) p hp)
      clear N1 N9 F9
      k_steps
      rename Fr _ _ _ _ => F8
      rename News _ _ _ _ => N8
      rename_i h8 o8 d8
      obtain ⟨tl9, e9, hout⟩ := hout
      obtain rfl := List.append_cancel_left e9
      refine hQt2 _ _ ?_
      refine turn_next (o8, v) tl' F8 N8 ?_ (fun p hp => .tail _ (List.mem_append.mpr (.inl hp))) (fun p hp q hq => ho q hq p hp) ⟨d8, hout.mono (fun p hp => List.mem_append.mpr (.inl hp))⟩ (fun _ h => nomatch h) ?_
      · intro p hp
        rcases List.mem_cons.mp hp with rfl | hp
        · exact .head _
        · exact .tail _ (List.mem_append.mpr (.inr hp))
      · intro z h1 _ _
        rw [if_neg h1]
        rfl
    · clear F9 N9 R9
      intro c tl2 h tk u2 ht2 hI F'' N''
      obtain ⟨ock, vk⟩ := c
      obtain ⟨hc1, hDI⟩ := hI
      dsimp only at hc1 hDI
      have o3 : ∀ p ∈ tl2, p.1 ≠ L' + 1 := fun p hp => Ne.symm (ht2 p hp (L' + 1, oc2) (.head _))
      have o4 : ∀ p ∈ tl2, p.1 ≠ l' := fun p hp => Ne.symm (ht2 p hp (l', _) (.tail _ (.tail _ (.head _))))
      obtain ⟨dw, odw, kvw, rfl, hmw, hdw, hew, hlow⟩ := hDI
      dsimp only [names, kstB, List.contains_nil, List.cons_append, List.nil_append] at F'' N''
      have hdwl : dw ≠ l' := by
        rintro rfl
        have e1 := (N'' _ (.tail _ hmw)).1
        rw [(N'' _ (.tail _ (List.mem_append.mpr (.inr (.tail _ (.head _)))))).1] at e1
        cases e1
        obtain ⟨es, ep, _, h2, _⟩ := hdw
        cases h2
      generalize hrl : tl2 ++ (dn, on) :: tail = rl
      have o5 : ∀ p ∈ rl, p.1 ≠ l' := by
        rw [← hrl]
        intro p hp
        rcases List.mem_append.mp hp with hp | hp
        · exact o4 p hp
        · rcases List.mem_cons.mp hp with rfl | hp
          · exact Ne.symm (Nat.ne_of_lt hl1.2.1)
          · exact o2 p hp
      have o6 : ∀ p ∈ rl, p.1 ≠ L' + 1 := by
        rw [← hrl]
        intro p hp
        rcases List.mem_append.mp hp with hp | hp
        · exact o3 p hp
        · rcases List.mem_cons.mp hp with rfl | hp
          · exact Ne.symm (Nat.ne_of_lt hl1.1)
          · exact o1 p hp
      have hmw2 : (dw, odw) ∈ rl := by
        rw [← hrl]
        rcases List.mem_append.mp hmw with hp | hp
        · exact List.mem_append.mpr (.inl hp)
        · rcases List.mem_cons.mp hp with hp | hp
          · exact List.mem_append.mpr (.inr (hp ▸ .head _))
          · rcases List.mem_cons.mp hp with hp | hp
            · exact absurd (congrArg Prod.fst hp) hdwl
            · exact List.mem_append.mpr (.inr (.tail _ hp))
      have hrt3 : ∀ p ∈ tail, p ∈ rl := fun p hp => hrl ▸ List.mem_append.mpr (.inr (.tail _ hp))
      have N2 : News g' L' h ((l', W.listOf ts.toArray nt) :: (L' + 1, ock) :: rl) := by
        intro p hp
        refine N'' p ?_
        rcases List.mem_cons.mp hp with rfl | hp
        · exact .tail _ (List.mem_append.mpr (.inr (.tail _ (.head _))))
        · rcases List.mem_cons.mp hp with rfl | hp
          · exact .head _
          · rw [← hrl] at hp
            rcases List.mem_append.mp hp with hp | hp
            · exact .tail _ (List.mem_append.mpr (.inl hp))
            · rcases List.mem_cons.mp hp with rfl | hp
              · exact .tail _ (List.mem_append.mpr (.inr (.head _)))
              · exact .tail _ (List.mem_append.mpr (.inr (.tail _ (.tail _ hp))))
      clear N'' hmw hsub ht2
      k_steps
      unfold Hold
      rename Fr _ _ _ _ => F9
      refine DictComp_I (w := w) F9 (wholeF (tabsF qs i) (movesF (a1, b1))) (fun k => k + 1) (fun k => (findE (wholeF (tabsF qs i) (movesF (a1, b1))) k).getD 0) (by with_unfolding_all rfl) (by decide) (by rfl) (by decide) (by rfl) ?_
      k_steps
      refine ⟨dw, odw, kvw, _, rfl, rfl, F9, N2, .tail _ (.tail _ hmw2), hdw, hew, hlow, ?_, hmod, ?_, ?_, ?_⟩
      · have := hsz i (movesF (a1, b1)) (by omega)
        rw [hew.length, sizeLine_eq]
        omega
      · intro C oC j k n t m₃ s₃ E' hpj hoC hx3 F3 N3 hlt
        clear F9 N2
        k_steps
        exact ⟨⟨_, rfl⟩, _, _, rfl, fun _ _ e => e⟩
      · intro C oC j k n t m₃ s₃ E' hpj hoC hx3 F3 N3 hlt
        clear F9 N2
        k_steps
        unfold Hold
        obtain ⟨n', hn'⟩ := findE_mem hpj
        obtain ⟨t', ht'⟩ := (hew.value k).2 n' hn'
        refine kda_item N3 (.tail _ (.tail _ (.tail _ hmw2))) hdw (intKind_is _ _ _ _) ht' ?_
        k_steps
        refine ⟨⟨t', by rw [hn']; rfl⟩, _, _, rfl, fun _ _ e => e⟩
      · intro D oD kvs' h tk F3 N3 hdD heD hDlow hltD
        clear F9 N2
        have htl := hI2.length
        rw [tabsF_len] at htl
        generalize ht7 : (D, oD) :: (L' + 1, ock) :: rl = t7
        have o7 : ∀ p ∈ t7, p.1 ≠ l' := by
          rw [← ht7]
          intro p hp
          rcases List.mem_cons.mp hp with rfl | hp
          · exact Ne.symm (Nat.ne_of_lt (hltD _ (.head _)))
          · rcases List.mem_cons.mp hp with rfl | hp
            · exact Ne.symm hll
            · exact o5 p hp
        have N4 : News g' L' h ((l', W.listOf ts.toArray nt) :: t7) := by
          intro p hp
          refine N3 p ?_
          rcases List.mem_cons.mp hp with rfl | hp
          · exact .tail _ (.head _)
          · rw [← ht7] at hp
            rcases List.mem_cons.mp hp with rfl | hp
            · exact .head _
            · exact .tail _ (.tail _ hp)
        clear N3
        k_steps
        rename Fr _ _ _ _ => F8
        rename News _ _ _ _ => N8
        refine hQt1 _ _ ?_
        refine turn_next ((ock, some (.ref dw)), (ts ++ [.ref D], nt + 1)) [(D, oD)] F8 N8 ?_ ?_ ?_ ⟨hc1, ?_⟩ (fun _ h => nomatch h) ?_
        · rw [← ht7]
          intro p hp
          simp only [List.cons_append, List.nil_append, List.mem_cons, List.not_mem_nil, or_false] at hp ⊢
          rcases hp with h | h | h
          all_goals simp only [h, true_or, or_true]
        · intro p hp
          rw [← ht7]
          exact .tail _ (.tail _ (.tail _ (hrt3 p hp)))
        · refine List.forall_mem_singleton.mpr ?_
          intro q hq
          simp only [List.cons_append, List.nil_append, List.mem_cons] at hq
          rcases hq with rfl | rfl | hq
          · exact Nat.ne_of_lt (hltD (L' + 1, ock) (.tail _ (.head _)) : L' + 1 < D)
          · exact Nat.ne_of_lt (hltD _ (.head _))
          · exact Nat.ne_of_lt (hltD _ (.tail _ (.tail _ (hrt3 q hq))))
        · show DictsAre w ([(D, oD)] ++ rest) (ts ++ [.ref D]) (tabsF qs i ++ [shiftF (wholeF (tabsF qs i) (movesF (qs.getD i (0, 0))))])
          rw [getD_of hpi]
          exact (hI2.mono (fun p hp => .tail _ hp)).snoc ⟨D, oD, kvs', rfl, .head _, hdD, heD, hDlow⟩
        · intro z _ _ h3
          have h4 := h3
          simp only [List.contains_cons, List.contains_nil, Bool.or_false, Bool.or_eq_false_iff, beq_eq_false_iff_ne] at h4
          obtain ⟨e3, e4, e5⟩ := h4
          have h6 : ([] : List Str).contains z = false := rfl
          repeat (first | rw [if_neg e3] | rw [if_neg e4] | rw [if_neg e5] | rw [h6])
          rw [h3]
          rfl
  · intro c tl h tk u ht hI F'' N''
    obtain ⟨⟨ocell, vcell⟩, ts, nt⟩ := c
    obtain ⟨hI1, hI2⟩ := hI
    have hlen2 : xs.dropLast.reverse.length = ps.length - 1 := by rw [List.length_reverse, List.length_dropLast, hxl]
    rw [hlen2] at hI2
    dsimp only at hI1 hI2
    dsimp only [names, kstB, List.contains_nil, List.cons_append, List.nil_append] at F'' N''
    clear F9 N9
    have htl := hI2.length
    rw [tabsF_len] at htl
    k_steps
    unfold Hold
    obtain ⟨v2, hv2, hD2⟩ := hI2.get (i := ps.length - 1) (by rw [tabsF_len]; omega)
    have e2 : (-1 + (ts.length : Int)).toNat = ps.length - 1 := by omega
    refine item_neg (v := v2) N'' (.tail _ (.head _)) (by omega) (by omega) (by omega) (by rw [e2]; exact hv2) ?_ (by with_unfolding_all rfl)
    k_steps
    rename Fr _ _ _ _ => F8
    rename News _ _ _ _ => N8
    refine does_ret2 hret (tl ++ [(D2, W.listOf xs.dropLast.reverse.toArray 0), (D1, W.listOf xs.dropLast.toArray 0), (h1.objs.size, od)]) F8 N8 ?_ ?_ ?_ ?_
    · exact fun q hq => .tail _ (.tail _ (List.mem_append.mpr (.inr (.tail _ (.tail _ (.tail _ hq))))))
    · intro p hp
      rcases List.mem_append.mp hp with hp | hp
      · exact .tail _ (.tail _ (List.mem_append.mpr (.inl hp)))
      · refine .tail _ (.tail _ (List.mem_append.mpr (.inr ?_)))
        simp only [List.mem_cons, List.not_mem_nil, or_false] at hp ⊢
        rcases hp with h | h | h
        all_goals simp only [h, true_or, or_true]
    · intro p hp q hq
      rcases List.mem_append.mp hp with hp | hp
      · exact ht p hp q (.tail _ (.tail _ (.tail _ (.tail _ (.tail _ hq)))))
      · simp only [List.mem_cons, List.not_mem_nil, or_false] at hp
        rcases hp with rfl | rfl | rfl
        · exact Nat.ne_of_lt (l1e q (.tail _ (.tail _ (.tail _ (.tail _ hq)))))
        · exact Nat.ne_of_lt (l1d q (.tail _ (.tail _ (.tail _ hq))))
        · exact Nat.ne_of_lt (AllLt.mem' l1b.2 q hq)
    · unfold playsF
      rw [hqs]
      refine hD2.mono fun p hp => ?_
      rcases List.mem_append.mp hp with hp | hp
      · exact List.mem_append.mpr (.inr (List.mem_append.mpr (.inl hp)))
      · simp only [List.mem_cons] at hp
        rcases hp with h | h | h | h
        · exact List.mem_append.mpr (.inr (List.mem_append.mpr (.inr (h ▸ .head _))))
        · exact List.mem_append.mpr (.inr (List.mem_append.mpr (.inr (h ▸ .tail _ (.head _)))))
        · exact List.mem_append.mpr (.inr (List.mem_append.mpr (.inr (h ▸ .tail _ (.tail _ (.head _))))))
        · exact List.mem_append.mpr (.inl h)
end
section
theorem said12 : True := by
  k_with_none
  k_with "z0 pyIter ref" => (((with_reducible show wpAny _ _ (pyIter (Value.ref _)) (fun it s₂ => LoopAtV _ _ _ _ _ _ _ _ _ it s₂) _ _); refine Hold.mk ?_))
  k_with "z range" => ((with_unfolding_all refine' range1_rows ?kF ?kN ?_); (case kF => k_asm); (case kN => k_asm))
  k_with "z0 getItem ref int" => ((k_here; (with_reducible show wpAny _ _ (getItem (Value.ref _) (Value.int (-1) _)) _ _ _); k_dflt (refine' get_last ?k1 ?k2 ?_; (case k1 => k_asm); (case k2 => k_mem); k_whole)))
  k_with "z1 setItem ref int" => ((k_here; (with_reducible show wpAny _ _ (setItem (Value.ref _) (Value.int (-1) _) _) _ _ _); k_dflt (refine' set_last ?k1 ?k2 ?k3 ?_; (case k1 => k_asm); (case k2 => k_asm); (case k3 => k_upd); k_whole)))
  k_with "z2 call builtin:list.append" => ((k_here; (with_reducible show wpAny _ _ (call (Value.builtin _) [Value.ref _, _]) _ _ _); k_dflt (refine' append_K ?k1 ?k2 ?k3 ?_ ?z; (case k1 => k_asm); (case k2 => k_asm); (case k3 => k_upd); (case z => first | assumption | size_fits | (simp only [List.size_toArray, List.length_append, List.length_cons, List.length_nil, sizeLine_eq]; omega)); k_whole)))
  k_with "z0 exec While Compare cons nil" => (((with_reducible show wpAny _ _ (exec (Stmt.While _ _ _ _) _) _ _ _); refine Hold.mk ?_))
  k_with "z kmk_list" => (exact listIn (by k_asm) (by k_mem))
  k_with "z is_list" => (exact listIn (by k_asm) (by k_mem))
  k_with "z k_mem" => (((show _ ∈ (_ : List (Addr × Obj))); with_reducible assumption))
  k_with "z3 subscriptTail" => ((k_here; (with_reducible show wpAny _ _ (subscriptTail _ (PySem.Expr.Slice none none (some _) _) (Value.ref _) (Value.ref _)) _ _ _); k_dflt (refine' rev_list ?F ?N ?l ?k ?z ?_ ?s ?t; (case F => k_asm); (case N => k_asm); (case l => k_mem); (case k => exact IsPart.int _ _); (case s => with_unfolding_all rfl); (case t => kmk_pure); (case z => (simp only [sizeLine_eq]; omega)))))
  k_with "z0 exec For Name Subscript cons nil" => ((with_unfolding_all (refine' my_For ?kF ?k1 ?k2 ?_; (case k1 => exact rfl); (case k2 => exact rfl)); (case kF => k_asm)))
  k_with "z0 exec For Name Call cons nil" => ((with_unfolding_all (refine' my_For ?kF ?k1 ?k2 ?_; (case k1 => exact rfl); (case k2 => exact rfl)); (case kF => k_asm)))
  k_with "z0 exec For Name Name cons nil" => ((with_unfolding_all (refine' my_For ?kF ?k1 ?k2 ?_; (case k1 => exact rfl); (case k2 => exact rfl)); (case kF => k_asm)))
  k_with "z enter" => (refine' code_defC ?k1 ?k2 ?k3 ?k4 ?k5 ?kA ?kF ?kK ?k6 ?k7 ?k8 ?k9 ?kB ?kD ?_ ?c2 ?c3 ?c4; (case kA => exact rfl); (case kF => exact rfl); (case kK => assumption); (case k1 => k_asm); (case k2 => k_asm); (case k3 => k_asm); (case k4 => k_asm); (case k5 => k_asm); (case k6 => k_is); (case k7 => k_is); (case k8 => ktr_room); (case k9 => exact BindsTo.of_eq rfl); (case kB => exact rfl); (case kD => decide +kernel); (case c2 => exact rfl); (case c3 => exact rfl); (case c4 => exact rfl); k_whole)
  k_with "z0 eval ListComp" => (((with_reducible show wpAny _ _ (eval (Expr.ListComp _ _ _ _) _) _ _ _); refine Hold.mk ?_))
  k_with "z0 exec Assign cons ListComp" => (((with_reducible show wpAny _ _ (exec (Stmt.Assign [_] (Expr.ListComp _ _ _ _) _) _) _ _ _); refine Hold.mk ?_))
  k_with "z0 CompSrc" => ((refine Hold.mk ?_))
  k_with "z0 CompSrcT" => ((refine Hold.mk ?_))
  k_with "z0 SrcLP" => ((refine Hold.mk ?_))
  k_with "z0 CompEnd" => ((refine Hold.mk ?_))
  k_with "z k_steps" => (repeat' (first | (k_unfold; (try dsimp only)) | (walk1; (try dsimp only)) | (dsimp only; walk1; (try dsimp only)) | (leave1; walk_say "STEP leave1"; try dsimp only) | fail "no step"))
  k_with "z4 call builtin:sum" => ((k_here; (with_reducible show wpAny _ _ (call (Value.builtin "sum") [Value.ref _]) _ _ _); k_dflt (refine' sumK ?kz ?kF ?kN ?kl ?ki ?_; (case kz => exact rfl); (case kF => k_asm); (case kN => k_asm); (case kl => exact listIn (by k_asm) (by k_mem)); (case ki => assumption); k_whole)))
  k_with "z0 eval ListComp" => ((k_here; (with_reducible show wpAny _ _ (eval (Expr.ListComp _ [Comprehension.mk (Expr.Name _ _) _ [] _] _ _) _) _ _ _); k_dflt (refine LCg.ListComp_U (F₀ := by k_asm) (by with_unfolding_all rfl) (by decide) (by rfl) (by decide) (by rfl) ?_)))
  k_with "z0 eval ListComp" => ((k_here; (with_reducible show wpAny _ _ (eval (Expr.ListComp _ [Comprehension.mk (Expr.Name _ _) _ [_] _] _ _) _) _ _ _); k_dflt (refine LCt.ListComp_T (F₀ := by k_asm) (by with_unfolding_all rfl) (by decide) (by rfl) (by decide) (by rfl) ?_)))
  k_with "z0 eval ListComp" => ((k_here; (with_reducible show wpAny _ _ (eval (Expr.ListComp _ [Comprehension.mk (Expr.Tuple [Expr.Name _ _, Expr.Name _ _] _ _) _ [] _] _ _) _) _ _ _); k_dflt (refine LCp.ListComp_P (F₀ := by k_asm) (by with_unfolding_all rfl) (by decide) (by rfl) (by decide) (by rfl) (by rfl) (by decide) ?_)))
  k_with "z0 exec Assign cons ListComp" => ((k_here; (with_reducible show wpAny _ _ (exec (Stmt.Assign [_] (Expr.ListComp _ [Comprehension.mk (Expr.Name _ _) _ [] _] _ _) _) _) _ _ _); k_dflt (refine LCg.Assign_ListComp_U (F₀ := by k_asm) (by rfl) (by with_unfolding_all rfl) (by with_unfolding_all rfl) (by decide) (by rfl) (by decide) (by rfl) (by rfl) (by rfl) ?_)))
  k_with "z0 exec Assign cons ListComp" => ((k_here; (with_reducible show wpAny _ _ (exec (Stmt.Assign [_] (Expr.ListComp _ [Comprehension.mk (Expr.Tuple [Expr.Name _ _, Expr.Name _ _] _ _) _ [] _] _ _) _) _) _ _ _); k_dflt (refine LCp.Assign_ListComp_P (F₀ := by k_asm) (by rfl) (by with_unfolding_all rfl) (by with_unfolding_all rfl) (by decide) (by rfl) (by decide) (by rfl) (by rfl) (by decide) (by rfl) (by rfl) ?_)))
  k_with "z k_mem" => (((show _ ∈ (_ : List (Addr × Obj))); first | with_reducible assumption | with_reducible exact List.Mem.head _ | (with_reducible refine List.mem_cons_of_mem _ ?_; k_mem) | (with_reducible refine List.mem_append_right _ ?_; k_mem) | (with_reducible refine List.mem_append_left _ ?_; k_mem)))
  k_with "z0 exec For Tuple Attribute cons nil" => (((with_unfolding_all (refine' For_turns ?kF ?_)); (case kF => k_asm)))
  k_with "z0 exec For Tuple Name cons nil" => (((with_unfolding_all (refine' For_turns ?kF ?_)); (case kF => k_asm)))
  k_with "z0 exec For Tuple Call cons nil" => (((with_unfolding_all (refine' For_turns ?kF ?_)); (case kF => k_asm)))
  k_with "z0 exec For Tuple Subscript cons nil" => (((with_unfolding_all (refine' For_turns ?kF ?_)); (case kF => k_asm)))
  k_with "z0 pyIter ref" => (((with_reducible show wpAny _ _ (pyIter (Value.ref _)) (fun it s₂ => TurnsAt _ _ _ _ _ _ _ _ _ it s₂) _ _); refine Hold.mk ?_))
  k_with "z0 subscriptTail" => ((k_here; (with_reducible show wpAny _ _ (subscriptTail _ _ (Value.ref _) (Value.int _ _)) _ _ _); k_dflt (refine' item_list_ints ?l ?i ?a ?b ?c ?_; (case l => exact listIn (by k_asm) (by k_mem)); (case i => with_reducible assumption); (case a => omega); (case b => omega); (case c => omega); k_whole); intro _))
  k_with "z3 subscriptTail" => ((k_here; (with_reducible show wpAny _ _ (subscriptTail _ (PySem.Expr.Slice (some _) none none _) (Value.ref _) (Value.ref _)) _ _ _); k_dflt (refine' drop_list ?dlE ?dlF ?dlN ?dlM ?dlP ?dlQ ?dlX ?dlZ ?_ ?dlS ?dlT; (case dlE => exact rfl); (case dlF => k_asm); (case dlN => k_asm); (case dlM => k_mem); (case dlP => exact IsPart.int _ _); (case dlQ => exact IsPart.none); (case dlX => omega); (case dlS => with_unfolding_all rfl); (case dlT => kmk_pure); (case dlZ => ((try simp only [sizeLine_eq, List.length_cons, List.length_nil, List.length_append, List.length_drop, List.length_replicate, List.length_dropLast]); omega)))))
  k_with "z3 subscriptTail" => ((k_here; (with_reducible show wpAny _ _ (subscriptTail _ (PySem.Expr.Slice none (some _) none _) (Value.ref _) (Value.ref _)) _ _ _); k_dflt (refine' init_list ?dlE ?dlF ?dlN ?dlM ?dlQ ?dlP ?dlZ ?_ ?dlS ?dlT; (case dlE => exact rfl); (case dlF => k_asm); (case dlN => k_asm); (case dlM => k_mem); (case dlP => exact IsPart.int _ _); (case dlQ => exact IsPart.none); (case dlS => with_unfolding_all rfl); (case dlT => kmk_pure); (case dlZ => ((try simp only [sizeLine_eq, List.length_cons, List.length_nil, List.length_append, List.length_drop, List.length_replicate, List.length_dropLast]); omega)))))
  k_with "z3 subscriptTail" => ((k_here; (with_reducible show wpAny _ _ (subscriptTail _ (PySem.Expr.Slice none none (some _) _) (Value.ref _) (Value.ref _)) _ _ _); k_dflt (refine' revv_list ?dlE ?dlF ?dlN ?dlM ?dlP ?dlZ ?_ ?dlS ?dlT; (case dlE => exact rfl); (case dlF => k_asm); (case dlN => k_asm); (case dlM => k_mem); (case dlP => exact IsPart.int _ _); (case dlS => with_unfolding_all rfl); (case dlT => kmk_pure); (case dlZ => ((try simp only [sizeLine_eq, List.length_cons, List.length_nil, List.length_append, List.length_drop, List.length_replicate, List.length_dropLast]); omega)))))
  k_with "z3 binaryOp Add ref ref" => ((k_here; (with_reducible show wpAny _ _ (binaryOp _ (Value.ref _) (Value.ref _)) _ _ _); k_dflt (refine' add_l ?alF ?alN ?alA ?alB ?alZ ?_; (case alF => k_asm); (case alN => k_asm); (case alA => k_mem); (case alB => k_mem); (case alZ => ((try simp only [sizeLine_eq, List.length_cons, List.length_nil, List.length_append, List.length_drop, List.length_replicate, List.length_dropLast]); omega)))))
  k_with "z3 binaryOp Mult ref int" => ((k_here; (with_reducible show wpAny _ _ (binaryOp Operator.Mult (Value.ref _) (Value.int _ _)) _ _ _); k_dflt (refine' mul_l ?alF ?alN ?alA ?alB ?alZ ?_; (case alF => k_asm); (case alN => k_asm); (case alA => k_mem); (case alB => omega); (case alZ => omega))))
  k_with "z0 call ref" => (((with_reducible show wpAny _ _ (call (Value.ref _) _) _ _ _); refine Hold.mk ?_))
  k_with "z turns exec For Name Call cons nil" => (skip)
  k_with "z0 subscriptTail" => (((with_reducible show wpAny _ _ (subscriptTail _ (PySem.Expr.Name _ _) (Value.ref _) (Value.int _ _)) _ _ _); refine Hold.mk ?_))
  k_with "z0 subscriptTail" => (((with_reducible show wpAny _ _ (subscriptTail _ (PySem.Expr.BinOp _ _ _ _) (Value.ref _) (Value.int _ _)) _ _ _); refine Hold.mk ?_))
  k_with "z0 subscriptTail Name Name ref int" => (((with_reducible show wpAny _ _ (subscriptTail _ _ (Value.ref _) (Value.int _ _)) _ _ _); refine Hold.mk ?_))
  k_with "z0 subscriptTail Name BinOp ref int" => (((with_reducible show wpAny _ _ (subscriptTail _ _ (Value.ref _) (Value.int _ _)) _ _ _); refine Hold.mk ?_))
  k_with "z0 subscriptTail Subscript" => (((with_reducible show wpAny _ _ (subscriptTail _ (PySem.Expr.Name _ _) (Value.ref _) (Value.int _ _)) _ _ _); refine Hold.mk ?_))
  k_with "z0 subscriptTail Subscript" => (((with_reducible show wpAny _ _ (subscriptTail _ (PySem.Expr.BinOp _ _ _ _) (Value.ref _) (Value.int _ _)) _ _ _); refine Hold.mk ?_))
  k_with "z0 compareOp In int ref" => (((with_reducible show wpAny _ _ (compareOp _ _ (Value.ref _)) _ _ _); refine Hold.mk ?_))
  k_with "z0 setItem ref int" => (((with_reducible show wpAny _ _ (setItem (Value.ref _) _ _) _ _ _); refine Hold.mk ?_))
  k_with "z0 subscriptTail" => ((k_here; (with_reducible show wpAny _ _ (subscriptTail _ (PySem.Expr.Constant _ _ _) (Value.ref _) (Value.int 0 _)) _ _ _); k_dflt (refine' pair_0 ?pN ?pM ?_ ?pS; (case pN => k_asm); (case pM => k_mem); (case pS => with_unfolding_all rfl); k_whole)))
  k_with "z0 subscriptTail" => ((k_here; (with_reducible show wpAny _ _ (subscriptTail _ (PySem.Expr.Constant _ _ _) (Value.ref _) (Value.int 1 _)) _ _ _); k_dflt (refine' pair_1 ?pN ?pM ?_ ?pS; (case pN => k_asm); (case pM => k_mem); (case pS => with_unfolding_all rfl); k_whole)))
  k_with "z0 call builtin:len" => ((k_here; (with_reducible show wpAny _ _ (call (Value.builtin "len") [Value.ref _]) _ _ _); k_dflt (refine len_list (listIn (by k_asm) (by k_mem)) (by (simp only [List.size_toArray]; first | grind | omega)) ?_)))
  trivial
section
variable {prog : Program} {w : World} {A : Around} {E : Value → Shared → Prop} {s : Shared} {h₀ : Heap} {L p : Addr} {news : List (Addr × Obj)} {value slice : PySem.Expr} {a b : Int} {ta tb t : Tok} {n : Nat} {Q : Value → Shared → Prop}
theorem pair_0 (N : News h₀ L s.heap news) (hm : (p, pairObj a b ta tb n) ∈ news) (h : Q (.int a ta) s)
    (hs : subscripted slice false (.ref p) (.int 0 t) = operate [.ref p, .int 0 t] (getItem (.ref p) (.int 0 t))) : wpAny (model prog w) A (subscriptTail value slice (.ref p) (.int 0 t)) Q E s :=
  item_tupleT (l := [.int a ta, .int b tb]) (j := 0) (News.isTup N hm) (by decide) (by decide) rfl rfl h hs
theorem pair_1 (N : News h₀ L s.heap news) (hm : (p, pairObj a b ta tb n) ∈ news) (h : Q (.int b tb) s)
    (hs : subscripted slice false (.ref p) (.int 1 t) = operate [.ref p, .int 1 t] (getItem (.ref p) (.int 1 t))) : wpAny (model prog w) A (subscriptTail value slice (.ref p) (.int 1 t)) Q E s :=
  item_tupleT (l := [.int a ta, .int b tb]) (j := 1) (News.isTup N hm) (by decide) (by decide) rfl rfl h hs
end
/-- the values of a table's rows after the turns down to (i, j) -/
def tabV (g : Nat → Nat → Int) (i j r c : Nat) : Int := if i < r ∨ (r = i ∧ j ≤ c) then g r c else 0
def mv (p : Int × Int) : Nat := (Int.fdiv (p.1 - 1) p.2).toNat
/-- what the turn at (i, j) looks at -/
def thereF (one other : List (Int × Int)) (g : Nat → Nat → Int) (i j : Nat) : List Int :=
  (List.range (mv (one.getD i (0, 0)))).map (fun k => g (i + 1 + k) j) ++ (List.range (mv (other.getD j (0, 0)))).map (fun k => g i (j + 1 + k))
/-- the least number from nought on that is not in a list -/
def IsMex (l : List Int) (x : Int) : Prop := 0 ≤ x ∧ x ∉ l ∧ ∀ y, 0 ≤ y → y < x → y ∈ l
def rowsL (ra : Nat → Addr) (n : Nat) (f : Nat → List Value × Nat) : List (Addr × Obj) := (List.range n).map fun r => (ra r, W.listOf (f r).1.toArray (f r).2)
theorem rowsL_mem {ra : Nat → Addr} {n : Nat} {f : Nat → List Value × Nat} {r : Nat} (h : r < n) : (ra r, W.listOf (f r).1.toArray (f r).2) ∈ rowsL ra n f := List.mem_map.mpr ⟨r, List.mem_range.mpr h, rfl⟩
theorem rowsL_adr (ra : Nat → Addr) (n : Nat) (f : Nat → List Value × Nat) : (rowsL ra n f).map (·.1) = (List.range n).map ra := by unfold rowsL; rw [List.map_map]; rfl
theorem rowsL_of {ra : Nat → Addr} {n : Nat} {f : Nat → List Value × Nat} {p : Addr × Obj} (h : p ∈ rowsL ra n f) : ∃ r, r < n ∧ p = (ra r, W.listOf (f r).1.toArray (f r).2) := by
  obtain ⟨r, hr, rfl⟩ := List.mem_map.mp h
  exact ⟨r, List.mem_range.mp hr, rfl⟩
theorem PairsAre.at' {news : List (Addr × Obj)} {vs : List Value} {ps : List (Int × Int)} (h : PairsAre news vs ps) {i : Nat} (hi : i < ps.length) : ∃ p a b t u n, vs[i]? = some (.ref p) ∧ (p, pairObj a b t u n) ∈ news ∧ ps[i]? = some (a, b) := by
  have hl := h.length
  obtain ⟨v, hv⟩ : ∃ v, vs[i]? = some v := ⟨vs[i], List.getElem?_eq_getElem (by first | grind | omega)⟩
  obtain ⟨p, a, b, t, u, n, rfl, h1, h2⟩ := h.get hv
  exact ⟨p, a, b, t, u, n, hv, h1, h2⟩
theorem item_pos {prog : Program} {w : World} {A : Around} {E : Value → Shared → Prop} {s : Shared} {h₀ : Heap} {L l : Addr} {news : List (Addr × Obj)} {value slice : PySem.Expr} {vs : List Value} {n : Nat} {x : Int} {t : Tok} {v : Value} {Q : Value → Shared → Prop} {ops : List Value} (i : Nat)
    (N : News h₀ L s.heap news) (hm : (l, W.listOf vs.toArray n) ∈ news) (hx : x = (i : Int)) (hi : i < 1000) (hv : vs[i]? = some v) (h : Q v s)
    (hs : subscripted slice false (.ref l) (.int x t) = operate ops (getItem (.ref l) (.int x t))) : wpAny (model prog w) A (subscriptTail value slice (.ref l) (.int x t)) Q E s := by
  subst hx
  have hl := listIn N hm
  exact tail_any hl.typeIs slot_list_getitem.lookup (wpAny_getItem_list hl (by first | grind | omega) (by first | grind | omega) (by simpa using hv) h) hs
theorem upd_map {rd : Nat → Addr} {f : Nat → List Value × Nat} {i : Nat} {vs : List Value} {T : List (Addr × Obj)} (off : ∀ p ∈ T, p.1 ≠ rd i) : ∀ l : List Nat, l.Nodup → i ∈ l → (∀ r ∈ l, r ≠ i → rd r ≠ rd i) →
    Upd (rd i) (W.listOf (f i).1.toArray (f i).2) (W.listOf vs.toArray (f i).2) (l.map (fun r => (rd r, W.listOf (f r).1.toArray (f r).2)) ++ T) (l.map (fun r => (rd r, W.listOf (if r = i then (vs, (f i).2) else f r).1.toArray (if r = i then (vs, (f i).2) else f r).2)) ++ T)
  | [], _, h, _ => nomatch h
  | r :: l, hn, hi, hr => by
    obtain ⟨h1, h2⟩ := List.nodup_cons.mp hn
    by_cases e : r = i
    · subst e
      have e2 : l.map (fun t => (rd t, W.listOf (if t = r then (vs, (f r).2) else f t).1.toArray (if t = r then (vs, (f r).2) else f t).2)) = l.map (fun t => (rd t, W.listOf (f t).1.toArray (f t).2)) := by
        refine List.map_congr_left fun t ht => ?_
        rw [if_neg (fun c : t = r => h1 (c ▸ ht))]
      rw [List.map_cons, List.map_cons, List.cons_append, List.cons_append, e2, if_pos rfl]
      refine .head fun p hp => ?_
      rcases List.mem_append.mp hp with hp | hp
      · obtain ⟨t, ht, rfl⟩ := List.mem_map.mp hp
        exact hr t (.tail _ ht) (fun c => h1 (c ▸ ht))
      · exact off p hp
    · rw [List.map_cons, List.map_cons, List.cons_append, List.cons_append, if_neg e]
      refine .tail (hr r (.head _) e) (upd_map off l h2 ?_ fun t ht => hr t (.tail _ ht))
      rcases List.mem_cons.mp hi with h | h
      · exact absurd h.symm e
      · exact h
theorem ki_setL_eq : ∀ (l : List Value) (k : Nat) (v : Value), k < l.length → ki_setL l k v = some (l.set k v)
  | [], k, v, h => by cases h
  | x :: r, 0, v, _ => rfl
  | x :: r, k + 1, v, h => by
    unfold ki_setL
    rw [ki_setL_eq r k v (Nat.lt_of_succ_lt_succ h)]
    rfl
theorem ints_set {vs : List Value} {ns : List Int} (h : IntsAre vs ns) (x : Int) (t : Tok) : ∀ k : Nat, IntsAre (vs.set k (.int x t)) (ns.set k x) := by
  induction h with
  | nil => intro k; exact .nil
  | cons n u h ih =>
    intro k
    cases k with
    | zero => exact .cons x t h
    | succ k => exact .cons n u (ih k)
/-- values that are lists of ints of the ledger's -/
inductive RowsAre (news : List (Addr × Obj)) : List Value → List (List Int) → Prop
  | nil : RowsAre news [] []
  | cons {a : Addr} {xs : List Value} {n : Nat} {ns : List Int} {vs : List Value} {nss : List (List Int)} : (a, W.listOf xs.toArray n) ∈ news → IntsAre xs ns → RowsAre news vs nss → RowsAre news (.ref a :: vs) (ns :: nss)
def RowsIn (news : List (Addr × Obj)) (v : Value) (nss : List (List Int)) : Prop := ∃ a xs n, v = .ref a ∧ (a, W.listOf xs.toArray n) ∈ news ∧ RowsAre news xs nss
theorem rows_of_map {news : List (Addr × Obj)} {rd : Nat → Addr} {f : Nat → List Value × Nat} {G : Nat → List Int} : ∀ l : List Nat, (∀ r ∈ l, (rd r, W.listOf (f r).1.toArray (f r).2) ∈ news ∧ IntsAre (f r).1 (G r)) → RowsAre news (l.map fun r => Value.ref (rd r)) (l.map G)
  | [], _ => .nil
  | r :: l, h => .cons (h r (.head _)).1 (h r (.head _)).2 (rows_of_map l fun t ht => h t (.tail _ ht))
theorem filter_step : ∀ (l : List Int) (c : Int), (l.filter fun x => decide (c + 1 ≤ x)).length ≤ (l.filter fun x => decide (c ≤ x)).length ∧ (c ∈ l → (l.filter fun x => decide (c + 1 ≤ x)).length < (l.filter fun x => decide (c ≤ x)).length)
  | [], c => ⟨Nat.le_refl _, fun h => nomatch h⟩
  | x :: l, c => by
    obtain ⟨h1, h2⟩ := filter_step l c
    by_cases hx : c + 1 ≤ x
    · have hx2 : c ≤ x := by first | grind | omega
      simp only [List.filter_cons, hx, hx2, decide_true, if_true, List.length_cons]
      refine ⟨by first | grind | omega, fun h => ?_⟩
      rcases List.mem_cons.mp h with rfl | h
      · first | grind | omega
      · have := h2 h; first | grind | omega
    · by_cases hx2 : c ≤ x
      · simp only [List.filter_cons, hx, hx2, decide_true, decide_false, if_true, List.length_cons]
        exact ⟨by simpa using by first | grind | omega, fun h => by simpa using by first | grind | omega⟩
      · simp only [List.filter_cons, hx, hx2, decide_false]
        refine ⟨by simpa using h1, fun h => ?_⟩
        rcases List.mem_cons.mp h with rfl | h
        · first | grind | omega
        · simpa using h2 h
theorem mex_uniq {l : List Int} {x y : Int} (h : IsMex l x) (k : IsMex l y) : x = y := by
  rcases Int.lt_trichotomy x y with c | c | c
  · exact absurd (k.2.2 x h.1 c) h.2.1
  · exact c
  · exact absurd (h.2.2 y k.1 c) k.2.1
theorem ints_get {vs : List Value} {ns : List Int} (h : IntsAre vs ns) : ∀ {i : Nat} {n : Int}, ns[i]? = some n → ∃ t, vs[i]? = some (.int n t) := by
  induction h with
  | nil => intro i n e; cases e
  | cons n t _ ih =>
    intro i m e
    cases i with
    | zero => cases e; exact ⟨t, rfl⟩
    | succ i => exact ih e
theorem beside_does {w : World} (one other : List (Int × Int)) (g : Nat → Nat → Int)
    (h1 : ∀ p ∈ one, 1 ≤ p.2 ∧ p.2 ≤ p.1 ∧ p.1 < 2 ^ 22) (h2 : ∀ p ∈ other, 1 ≤ p.2 ∧ p.2 ≤ p.1 ∧ p.1 < 2 ^ 22) (l1 : one.length < 50) (l2 : other.length < 50)
    (m1 : ∀ i, i < one.length → i + mv (one.getD i (0, 0)) < one.length) (m2 : ∀ i, i < other.length → i + mv (other.getD i (0, 0)) < other.length)
    (hg : ∀ i j, i < one.length → j < other.length → IsMex (thereF one other g i j) (g i j)) :
    Does w 152 9 (fun news vs => ∃ v u, vs = [v, u] ∧ PairsIn news v one ∧ PairsIn news u other) (fun news r => RowsIn news r ((List.range one.length).map fun i => (List.range other.length).map (g i))) := by
  unfold Does
  k_fill
  w_top off
  intro loose mean mg mb dp un gd cn cs a ccd cl outer A₀ base h₀ L m news s vs Q E B F X N T hk hR hd hu hret
  obtain ⟨_, _, rfl, ⟨ra, xs, nx, rfl, hma, hxa⟩, ⟨rb, ys, ny, rfl, hmb, hyb⟩⟩ := hR
  have hxl := hxa.length
  have hyl := hyb.length
  refine wpAny_call ?_
  k_dflt ktr_enter
  k_steps
  unfold Hold
  rename_i g' L' hp1 tk1 FG' F9 B' X' T' l1a oj oi ot oo dj di dt do' N9
  have do2 : oo.data = Data.cell (some (.ref rb)) := do'
  clear do'
  have dt2 : ∃ v, ot.data = Data.cell v := ⟨_, dt⟩
  have di2 : ∃ v, oi.data = Data.cell v := ⟨_, di⟩
  have dj2 : ∃ v, oj.data = Data.cell v := ⟨_, dj⟩
  clear dt di dj
  obtain ⟨vt, dt⟩ := dt2
  obtain ⟨vi, di⟩ := di2
  obtain ⟨vj, dj⟩ := dj2
  refine wpAny_Assign_Name ?_ (by with_unfolding_all rfl)
  k_steps
  unfold Hold
  rename Fr _ _ _ _ => F9
  rename News _ _ _ _ => N9
  generalize hn0 : (L' + 1 + 1 + 1 + 1, oj) :: (L' + 1 + 1 + 1, oi) :: (L' + 1 + 1, ot) :: (L' + 1, oo) :: news = nw at N9
  have mo : (L' + 1, oo) ∈ nw := hn0 ▸ .tail _ (.tail _ (.tail _ (.head _)))
  have ma : (ra, W.listOf xs.toArray nx) ∈ nw := hn0 ▸ .tail _ (.tail _ (.tail _ (.tail _ hma)))
  have mb : (rb, W.listOf ys.toArray ny) ∈ nw := hn0 ▸ .tail _ (.tail _ (.tail _ (.tail _ hmb)))
  refine LCg.CompSrc.ledger rfl F9 N9 ma (by rw [List.size_toArray, sizeLine_eq]; first | grind | omega) ?_
  intro gg
  refine rest_U (n := xs.toArray.size) (fun i vs led => ∃ tl, ∃ rows : List (Addr × (List Value × Nat)), led = tl ++ nw ∧ (∀ p ∈ tl, ∀ q ∈ nw, q.1 ≠ p.1) ∧ vs = rows.map (fun p => Value.ref p.1) ∧ rows.length = i ∧ (rows.map (·.1)).Nodup ∧
    ∀ p ∈ rows, (p.1, W.listOf p.2.1.toArray p.2.2) ∈ tl ∧ IntsAre p.2.1 (List.replicate other.length 0)) ?_ ?_ _ 0 [] _ (by first | grind | omega) ⟨[], [], rfl, (fun _ h => nomatch h), rfl, rfl, List.nodup_nil, (fun _ h => nomatch h)⟩
  · intro i vs led v I oI C oC D m₂ h tk E' hi hJ hv hC hx F N off ne
    refine hideQ ?_
    intro Qh1 hQt1
    obtain ⟨tl, rows, rfl, htl, rfl, hrl, hnd, hrows⟩ := hJ
    clear F9 N9
    have mo' : (L' + 1, oo) ∈ tl ++ nw := List.mem_append.mpr (.inr mo)
    have mb' : (rb, W.listOf ys.toArray ny) ∈ tl ++ nw := List.mem_append.mpr (.inr mb)
    have ma' : (ra, W.listOf xs.toArray nx) ∈ tl ++ nw := List.mem_append.mpr (.inr ma)
    generalize hld : tl ++ nw = led at N off mo' mb' ma'
    dsimp only
    k_steps
    rename News _ _ _ _ => N8
    rename_i l' h8 F8 l8 D' h9 F9 i1 n1 s1 e1 e2 e3 l9
    clear F8
    obtain ⟨lq, li, lc, ld, la⟩ := l9
    have la' := AllLt.mem' la
    rw [← hld] at N8 off la'
    refine hQt1 _ _ ?_
    refine cend_new [(D', _)] (by assumption) N8 ?_ (List.forall_mem_singleton.mpr (.head _)) off ?_ ?_ ⟨(D', _) :: tl, rows ++ [(D', ((List.replicate ((ys.toArray.size : Nat) : Int).toNat [Value.int 0 tk]).flatten, 0))], rfl, ?_, ?_, ?_, ?_, ?_⟩
    · exact fun p hp => .tail _ (.tail _ hp)
    · exact List.forall_mem_singleton.mpr (List.forall_mem_cons.mpr ⟨Nat.ne_of_lt li, List.forall_mem_cons.mpr ⟨Nat.ne_of_lt lc, List.forall_mem_cons.mpr ⟨Nat.ne_of_lt ld, fun q hq => Nat.ne_of_lt (la' q hq)⟩⟩⟩)
    · exact .inr ⟨W.listOf xs.toArray nx, List.mem_append.mpr (.inr (List.mem_append.mpr (.inr ma))), rfl, nx, rfl⟩
    · exact List.forall_mem_cons.mpr ⟨fun q hq => Nat.ne_of_lt (la' q (List.mem_append.mpr (.inr hq))), htl⟩
    · rw [List.map_append]; rfl
    · rw [List.length_append, hrl]; rfl
    · rw [List.map_append, List.nodup_append]
      refine ⟨hnd, by simp, fun x hx y hy => ?_⟩
      rw [List.mem_singleton.mp hy]
      obtain ⟨q, hq, rfl⟩ := List.mem_map.mp hx
      exact Nat.ne_of_lt (la' (q.1, _) (List.mem_append.mpr (.inl (hrows q hq).1)))
    · intro p hp
      rcases List.mem_append.mp hp with hp | hp
      · exact ⟨.tail _ (hrows p hp).1, (hrows p hp).2⟩
      · rw [List.mem_singleton.mp hp]
        refine ⟨.head _, ?_⟩
        have e9 : ((other.length : Nat) : Int).toNat = other.length := Int.toNat_natCast _
        simp only [List.flatten_replicate_singleton, List.size_toArray, hyl, e9] at i1 ⊢
        exact i1
  · rintro vs led ⟨tl, rows, rfl, htl, rfl, hrl, hnd, hrows⟩
    unfold LCg.FinE
    intro D h' tk F' N' o1
    have o1' := Off1.mem o1
    clear F9 N9
    dsimp only
    rw [List.size_toArray, hxl] at hrl
    have hc : ∀ p ∈ news, p.1 ≠ L' + 1 ∧ p.1 ≠ L' + 1 + 1 ∧ p.1 ≠ L' + 1 + 1 + 1 ∧ p.1 ≠ L' + 1 + 1 + 1 + 1 := fun p hp => by
      have h1 : p.1 < L' := l1a p hp
      exact ⟨Nat.ne_of_lt (Nat.lt_succ_of_lt h1), Nat.ne_of_lt (Nat.lt_succ_of_lt (Nat.lt_succ_of_lt h1)), Nat.ne_of_lt (Nat.lt_succ_of_lt (Nat.lt_succ_of_lt (Nat.lt_succ_of_lt h1))), Nat.ne_of_lt (Nat.lt_succ_of_lt (Nat.lt_succ_of_lt (Nat.lt_succ_of_lt (Nat.lt_succ_of_lt h1))))⟩
    have ra9 : ∃ ra9 : Nat → Addr, ∃ f9 : Nat → List Value × Nat, (∀ r, r < one.length → (ra9 r, W.listOf (f9 r).1.toArray (f9 r).2) ∈ tl ∧ IntsAre (f9 r).1 (List.replicate other.length 0)) ∧ (∀ r t, r < one.length → t < one.length → r ≠ t → ra9 r ≠ ra9 t) ∧
        rows.map (fun p => Value.ref p.1) = (List.range one.length).map (fun r => Value.ref (ra9 r)) := by
      refine ⟨fun r => (rows.getD r (0, [], 0)).1, fun r => (rows.getD r (0, [], 0)).2, ?_, ?_, ?_⟩
      · intro r hr
        dsimp only
        rw [List.getD_eq_getElem?_getD, List.getElem?_eq_getElem (by first | grind | omega)]
        exact hrows _ (List.getElem_mem _)
      · intro r t hr ht hne e
        dsimp only at e
        rw [List.getD_eq_getElem?_getD, List.getD_eq_getElem?_getD, List.getElem?_eq_getElem (by first | grind | omega), List.getElem?_eq_getElem (by first | grind | omega)] at e
        have h1 : (rows.map (·.1))[r]'(by rw [List.length_map]; first | grind | omega) = (rows.map (·.1))[t]'(by rw [List.length_map]; first | grind | omega) := by
          rw [List.getElem_map, List.getElem_map]
          exact e
        exact hne ((List.getElem_inj hnd).mp h1)
      · apply List.ext_getElem
        · simp only [List.length_map, List.length_range]; exact hrl
        · intro x hx1 hx2
          rw [List.length_map] at hx1
          rw [List.getElem_map, List.getElem_map, List.getElem_range]
          dsimp only
          rw [List.getD_eq_getElem?_getD, List.getElem?_eq_getElem hx1]
          rfl
    obtain ⟨rd, f9, hf9, hrd, hrf⟩ := ra9
    rw [hrf] at N'
    clear hrf hrows hnd hrl
    obtain ⟨cj, hcj⟩ : ∃ c, c = L' + 1 + 1 + 1 + 1 := ⟨_, rfl⟩
    obtain ⟨ci, hci⟩ : ∃ c, c = L' + 1 + 1 + 1 := ⟨_, rfl⟩
    have hn1 := hn0
    rw [← hcj] at hn1
    rw [← hci] at hn1
    have dcji : cj ≠ ci := by rw [hcj, hci]; exact Nat.succ_ne_self _
    have dcit : ci ≠ L' + 1 + 1 := by rw [hci]; exact Nat.succ_ne_self _
    have dcjt : cj ≠ L' + 1 + 1 := by rw [hcj]; exact Nat.ne_of_gt (Nat.lt_succ_of_lt (Nat.lt_succ_self _))
    have dcio : ci ≠ L' + 1 := by rw [hci]; exact Nat.ne_of_gt (Nat.lt_succ_of_lt (Nat.lt_succ_self _))
    have dcjo : cj ≠ L' + 1 := by rw [hcj]; exact Nat.ne_of_gt (Nat.lt_succ_of_lt (Nat.lt_succ_of_lt (Nat.lt_succ_self _)))
    have dcto : L' + 1 + 1 ≠ L' + 1 := Nat.succ_ne_self _
    generalize ht9 : (D, LCg.lst ((List.range one.length).map (fun r => Value.ref (rd r)))) :: (cj, oj) :: (ci, oi) :: (L' + 1, oo) :: (rowsL rd one.length f9 ++ news) = t9
    have o9 : ∀ p ∈ t9, p.1 ≠ L' + 1 + 1 := by
      rw [← ht9]
      refine List.forall_mem_cons.mpr ⟨?_, List.forall_mem_cons.mpr ⟨dcjt, List.forall_mem_cons.mpr ⟨dcit, List.forall_mem_cons.mpr ⟨Ne.symm dcto, fun p hp => ?_⟩⟩⟩⟩
      · exact Ne.symm (o1' (L' + 1 + 1, ot) (List.mem_append.mpr (.inr (hn0 ▸ .tail _ (.tail _ (.head _))))))
      · rcases List.mem_append.mp hp with hp | hp
        · obtain ⟨r, hr, rfl⟩ := rowsL_of hp
          exact Ne.symm (htl _ (hf9 r hr).1 (L' + 1 + 1, ot) (hn0 ▸ .tail _ (.tail _ (.head _))))
        · exact (hc p hp).2.1
    have N2 : News g' L' h' ((L' + 1 + 1, ot) :: t9) := by
      intro p hp
      refine N' p ?_
      rcases List.mem_cons.mp hp with rfl | hp
      · exact .tail _ (List.mem_append.mpr (.inr (hn0 ▸ .tail _ (.tail _ (.head _)))))
      · rw [← ht9] at hp
        simp only [List.mem_cons, List.mem_append] at hp
        rcases hp with rfl | rfl | rfl | rfl | hp | hp
        · exact .head _
        · exact .tail _ (List.mem_append.mpr (.inr (hn1 ▸ .head _)))
        · exact .tail _ (List.mem_append.mpr (.inr (hn1 ▸ .tail _ (.head _))))
        · exact .tail _ (List.mem_append.mpr (.inr mo))
        · obtain ⟨r, hr, rfl⟩ := rowsL_of hp
          exact .tail _ (List.mem_append.mpr (.inl (hf9 r hr).1))
        · exact .tail _ (List.mem_append.mpr (.inr (hn0 ▸ .tail _ (.tail _ (.tail _ (.tail _ hp))))))
    clear N'
    have ma9 : (ra, W.listOf xs.toArray nx) ∈ t9 := ht9 ▸ .tail _ (.tail _ (.tail _ (.tail _ (List.mem_append.mpr (.inr hma)))))
    k_steps
    unfold Hold
    rename_i hp2 ot2 Fa Na dt2 hp3 tk3 tt1 tt2 tt3 R9 F9 N9 K9
    clear Fa Na K9
    generalize hrefs : (List.range one.length).map (fun r => Value.ref (rd r)) = refs at ht9
    have hrl : refs.length = one.length := by rw [← hrefs]; simp
    have hrg : ∀ r, r < one.length → refs[r]? = some (Value.ref (rd r)) := by
      intro r hr
      rw [← hrefs, List.getElem?_map, List.getElem?_range hr]
      rfl
    have hsubN : ∀ p ∈ (ci, oi) :: (cj, oj) :: (rowsL rd one.length f9 ++ ((L' + 1 + 1, ot2) :: (D, LCg.lst refs) :: (L' + 1, oo) :: news)), p ∈ (L' + 1 + 1, ot2) :: t9 := by
      rw [← ht9]
      intro p hp
      simp only [List.mem_cons, List.mem_append] at hp ⊢
      rcases hp with h | h | h | h | h | h | h
      all_goals simp only [h, true_or, or_true]
    have hoffN : ∀ p ∈ (L' + 1 + 1, ot2) :: (D, LCg.lst refs) :: (L' + 1, oo) :: news, ∀ b ∈ ci :: cj :: (List.range one.length).map rd, p.1 ≠ b := by
      intro p hp b hb
      have hb' : b = ci ∨ b = cj ∨ ∃ r, r < one.length ∧ rd r = b := by
        simpa using hb
      have hpq : p.1 = D ∨ ∃ q ∈ nw, q.1 = p.1 ∧ p.1 ≠ ci ∧ p.1 ≠ cj := by
        simp only [List.mem_cons] at hp
        rcases hp with rfl | rfl | rfl | hp
        · exact .inr ⟨(L' + 1 + 1, ot), hn0 ▸ .tail _ (.tail _ (.head _)), rfl, Ne.symm dcit, Ne.symm dcjt⟩
        · exact .inl rfl
        · exact .inr ⟨_, mo, rfl, Ne.symm dcio, Ne.symm dcjo⟩
        · exact .inr ⟨p, hn0 ▸ .tail _ (.tail _ (.tail _ (.tail _ hp))), rfl, hci ▸ (hc p hp).2.2.1, hcj ▸ (hc p hp).2.2.2⟩
      rcases hb' with rfl | rfl | ⟨r, hr, rfl⟩
      · rcases hpq with h | ⟨_, _, _, h, _⟩
        · rw [h]; exact Ne.symm (o1' (b, oi) (List.mem_append.mpr (.inr (hn1 ▸ .tail _ (.head _)))))
        · exact h
      · rcases hpq with h | ⟨_, _, _, _, h⟩
        · rw [h]; exact Ne.symm (o1' (b, oj) (List.mem_append.mpr (.inr (hn1 ▸ .head _))))
        · exact h
      · rcases hpq with h | ⟨q, hq, h, _⟩
        · rw [h]; exact Ne.symm (o1' _ (List.mem_append.mpr (.inl (hf9 r hr).1)))
        · rw [← h]; exact htl _ (hf9 r hr).1 q hq
    have dci : ∀ r, r < one.length → rd r ≠ ci := fun r hr => Ne.symm (htl _ (hf9 r hr).1 (ci, oi) (hn1 ▸ .tail _ (.head _)))
    have dcj : ∀ r, r < one.length → rd r ≠ cj := fun r hr => Ne.symm (htl _ (hf9 r hr).1 (cj, oj) (hn1 ▸ .head _))
    have hz0 : (xs.toArray.size : Int) = one.length := by rw [List.size_toArray, hxl]
    rw [hz0] at R9
    subst hci hcj
    refine loop_rangeT (σ := Obj × Obj × (Nat → List Value × Nat)) (n := one.length) (fun c => (L' + 1 + 1 + 1, c.1) :: (L' + 1 + 1 + 1 + 1, c.2.1) :: rowsL rd one.length c.2.2) (fun _ => []) [Str.ofString "there", Str.ofString "least"]
      (fun t c rest => (∃ v, c.1.data = Data.cell v) ∧ (∃ v, c.2.1.data = Data.cell v) ∧ ∀ r, r < one.length → IntsAre (c.2.2 r).1 ((List.range other.length).map fun q => if one.length - t ≤ r then g r q else 0)) ((L' + 1 + 1 + 1) :: (L' + 1 + 1 + 1 + 1) :: (List.range one.length).map rd) (oi, oj, f9)
      ((L' + 1 + 1, ot2) :: (D, LCg.lst refs) :: (L' + 1, oo) :: news) rfl R9 (small_down (by first | grind | omega) (by first | grind | omega) (by first | grind | omega) (by first | grind | omega)) (by rw [rangeSize_downNat]; first | grind | omega) F9 N9 hsubN ?_ hoffN ⟨⟨_, di⟩, ⟨_, dj⟩, ?_⟩ (fun _ h => nomatch h) ?_ ?_
    · intro c
      show _ :: _ :: (rowsL rd one.length c.2.2).map (·.1) = _
      rw [rowsL_adr]
    · intro r hr
      have : (List.range other.length).map (fun q => if one.length - 0 ≤ r then g r q else 0) = List.replicate other.length 0 := by
        rw [List.eq_replicate_iff]
        refine ⟨by simp, fun x hx => ?_⟩
        obtain ⟨q, _, rfl⟩ := List.mem_map.mp hx
        exact if_neg (by first | grind | omega)
      rw [this]
      exact (hf9 r hr).2
    · clear F9 N9 R9 hsubN
      intro t c rest tail h tk tt u ht hI hrt hoff hsub F'' N''
      refine hideT ?_
      intro Qh2 hQt2
      obtain ⟨oi1, oj1, f⟩ := c
      obtain ⟨⟨vi1, di1⟩, ⟨vj1, dj1⟩, hrows⟩ := hI
      dsimp only at di1 dj1 hrows
      dsimp only [names, kstB, List.contains_nil, List.cons_append, List.nil_append] at F'' N''
      have hsubT := fun p hp => hrt p (hsub p hp)
      have mt1 : (L' + 1 + 1, ot2) ∈ tail := hsubT _ (.head _)
      have mt2 : (D, LCg.lst refs) ∈ tail := hsubT _ (.tail _ (.head _))
      have mt3 : (L' + 1, oo) ∈ tail := hsubT _ (.tail _ (.tail _ (.head _)))
      have mt4 : (ra, W.listOf xs.toArray nx) ∈ tail := hsubT _ (.tail _ (.tail _ (.tail _ hma)))
      have mt5 : (rb, W.listOf ys.toArray ny) ∈ tail := hsubT _ (.tail _ (.tail _ (.tail _ hmb)))
      have oci : ∀ p ∈ (L' + 1 + 1 + 1 + 1, oj1) :: (rowsL rd one.length f ++ tail), p.1 ≠ L' + 1 + 1 + 1 := by
        refine List.forall_mem_cons.mpr ⟨dcji, fun p hp => ?_⟩
        rcases List.mem_append.mp hp with hp | hp
        · obtain ⟨r, hr, rfl⟩ := rowsL_of hp
          exact dci r hr
        · exact hoff p hp _ (.head _)
      k_steps
      unfold Hold
      rename_i hq1 oi2 Fa Na di2 hq2 tk2 tr1 tr2 tr3 R9 F9 N9 K9
      clear Fa Na K9 di1
      obtain ⟨i, hi0⟩ : ∃ i, i = one.length - 1 - t := ⟨_, rfl⟩
      have ei : (one.length : Int) - 1 + (t : Int) * -1 = (i : Int) := by first | grind | omega
      have hin : i < one.length := by first | grind | omega
      have hit : one.length - t = i + 1 := by first | grind | omega
      rw [ei] at di2
      have hz1 : (ys.toArray.size : Int) = other.length := by rw [List.size_toArray, hyl]
      rw [hz1] at R9
      refine loop_rangeT (σ := Obj × Obj × (Nat → List Value × Nat)) (n := other.length) (fun c => (L' + 1 + 1 + 1, c.1) :: (L' + 1 + 1 + 1 + 1, c.2.1) :: rowsL rd one.length c.2.2) (fun _ => []) [Str.ofString "there", Str.ofString "least"]
        (fun q c rest => c.1.data = Data.cell (some (.int (i : Int) tt)) ∧ (∃ v, c.2.1.data = Data.cell v) ∧ ∀ r, r < one.length → IntsAre (c.2.2 r).1 ((List.range other.length).map fun x => if i < r ∨ (r = i ∧ other.length - q ≤ x) then g r x else 0)) ((L' + 1 + 1 + 1) :: (L' + 1 + 1 + 1 + 1) :: (List.range one.length).map rd) (oi2, oj1, f)
        tail rfl R9 (small_down (by first | grind | omega) (by first | grind | omega) (by first | grind | omega) (by first | grind | omega)) (by rw [rangeSize_downNat]; first | grind | omega) F9 N9 (fun p hp => hp) ?_ hoff ⟨di2, ⟨_, dj1⟩, ?_⟩ (fun _ h => nomatch h) ?_ ?_
      · intro c
        show _ :: _ :: (rowsL rd one.length c.2.2).map (·.1) = _
        rw [rowsL_adr]
      · intro r hr
        have e9 : (List.range other.length).map (fun x => if i < r ∨ (r = i ∧ other.length - 0 ≤ x) then g r x else 0) = (List.range other.length).map fun q => if one.length - t ≤ r then g r q else 0 := by
          refine List.map_congr_left fun x hx => ?_
          have := List.mem_range.mp hx
          by_cases hr2 : i < r
          · rw [if_pos (.inl hr2), if_pos (by first | grind | omega)]
          · rw [if_neg (by first | grind | omega), if_neg (by first | grind | omega)]
        rw [e9]
        exact hrows r hr
      · clear F9 N9 R9 hrows di2 dj1
        intro q c rest2 tail2 h tk tq u2 hq hI hrt2 hoff2 hsub2 F'' N''
        refine hideT ?_
        intro Qh3 hQt3
        obtain ⟨oi3, oj3, f⟩ := c
        obtain ⟨di3, ⟨vj3, dj3⟩, hrows⟩ := hI
        dsimp only at di3 dj3 hrows
        dsimp only [names, kstB, List.contains_nil, List.cons_append, List.nil_append] at F'' N''
        have hsubT2 := fun p hp => hrt2 p (hsub2 p hp)
        replace mt1 := hsubT2 _ mt1
        replace mt2 := hsubT2 _ mt2
        replace mt3 := hsubT2 _ mt3
        replace mt4 := hsubT2 _ mt4
        replace mt5 := hsubT2 _ mt5
        have ocj : ∀ p ∈ rowsL rd one.length f ++ tail2, p.1 ≠ L' + 1 + 1 + 1 + 1 := by
          intro p hp
          rcases List.mem_append.mp hp with hp | hp
          · obtain ⟨r, hr, rfl⟩ := rowsL_of hp
            exact dcj r hr
          · exact hoff2 p hp _ (.tail _ (.head _))
        obtain ⟨j, hj0⟩ : ∃ j, j = other.length - 1 - q := ⟨_, rfl⟩
        have ej : (other.length : Int) - 1 + (q : Int) * -1 = (j : Int) := by first | grind | omega
        have hjn : j < other.length := by first | grind | omega
        rw [ej]
        obtain ⟨p1, a1, b1, t1, u1, n1, hp1i, hp1m, hp1o⟩ := hxa.at' hin
        obtain ⟨p2, a2, b2, t2, u2', n2, hp2i, hp2m, hp2o⟩ := hyb.at' hjn
        have hsubN : ∀ p ∈ news, p ∈ tail2 := fun p hp => hsubT2 _ (hsubT _ (.tail _ (.tail _ (.tail _ hp))))
        replace hp1m := hsubN _ hp1m
        replace hp2m := hsubN _ hp2m
        obtain ⟨q1, q2, q3⟩ := h1 _ (List.mem_of_getElem? hp1o)
        obtain ⟨q4, q5, q6⟩ := h2 _ (List.mem_of_getElem? hp2o)
        dsimp only at q1 q2 q3 q4 q5 q6
        clear hsubN
        have keep : Hold (i < one.length ∧ one.length - t = i + 1 ∧ j = other.length - 1 - q ∧ j < other.length ∧ refs.length = one.length ∧ t < one.length ∧ q < other.length ∧ one.length < 50 ∧ other.length < 50 ∧ xs.length = one.length ∧ ys.length = other.length) := ⟨hin, hit, hj0, hjn, hrl, ht, hq, l1, l2, hxl, hyl⟩
        have hi50 : i < 50 := by first | grind | omega
        have hj50 : j < 50 := by first | grind | omega
        clear hin hit hj0 hjn hrl ht hq l1 l2 hxl hyl hd hu hi0 ei ej hz0 hz1
        k_steps
        unfold Hold
        rename Fr _ _ _ _ => F9
        rename News _ _ _ _ => N9
        refine item_pos i N9 (List.mem_cons_of_mem _ (List.mem_cons_of_mem _ (List.mem_append.mpr (.inr mt4)))) rfl (by first | grind | omega) hp1i ?_ (by with_unfolding_all rfl)
        have mt4' := List.mem_cons_of_mem (L' + 1 + 1 + 1, oi3) (List.mem_cons_of_mem (L' + 1 + 1 + 1 + 1, oj3) (List.mem_append.mpr (.inr mt4) : _ ∈ rowsL rd one.length f ++ tail2))
        k_steps
        unfold Hold
        rename News _ _ _ _ => N9
        refine item_pos i N9 (List.mem_cons_of_mem _ (List.mem_cons_of_mem _ (List.mem_append.mpr (.inr mt4)))) rfl (by first | grind | omega) hp1i ?_ (by with_unfolding_all rfl)
        k_steps
        unfold Hold
        rename_i hr1 oj4 Fa Na dj4 hr2 tk5 tv1 tv2 tv3 R8 F8 N8 K8
        clear Fa Na K8 dj3
        obtain ⟨hin, hit, hj0, hjn, hrl, ht, hq, l1, l2, hxl, hyl⟩ := keep
        have mv1 := m1 i hin
        rw [getD_of hp1o] at mv1
        have mv2 := m2 j hjn
        rw [getD_of hp2o] at mv2
        have fd1 : Int.fdiv (a1 - 1) b1 = (a1 - 1) / b1 := Int.fdiv_eq_ediv_of_nonneg _ (by first | grind | omega)
        have fd1n : 0 ≤ Int.fdiv (a1 - 1) b1 := by rw [fd1]; exact Int.ediv_nonneg (by first | grind | omega) (by first | grind | omega)
        have fd2 : Int.fdiv (a2 - 1) b2 = (a2 - 1) / b2 := Int.fdiv_eq_ediv_of_nonneg _ (by first | grind | omega)
        have fd2n : 0 ≤ Int.fdiv (a2 - 1) b2 := by rw [fd2]; exact Int.ediv_nonneg (by first | grind | omega) (by first | grind | omega)
        have emv1 : ((mv (a1, b1) : Nat) : Int) = Int.fdiv (a1 - 1) b1 := by unfold mv; dsimp only; first | grind | omega
        have emv2 : ((mv (a2, b2) : Nat) : Int) = Int.fdiv (a2 - 1) b2 := by unfold mv; dsimp only; first | grind | omega
        have hrow : ∀ r x, r < one.length → x < other.length → i < r ∨ (r = i ∧ j < x) → ∃ t, (f r).1[x]? = some (.int (g r x) t) := by
          intro r x hr hx hc
          obtain ⟨t, ht⟩ := ints_get (hrows r hr) (i := x) (n := g r x) (by
            rw [List.getElem?_map, List.getElem?_range hx, Option.map_some]
            rw [if_pos (by first | grind | omega)])
          exact ⟨t, ht⟩
        have mt2' : (D, W.listOf refs.toArray refs.length) ∈ tail2 := mt2
        generalize hLED : (L' + 1 + 1 + 1, oi3) :: (L' + 1 + 1 + 1 + 1, oj4) :: (rowsL rd one.length f ++ tail2) = LED at N8
        have lm : ∀ p ∈ tail2, p ∈ LED := fun p hp => hLED ▸ .tail _ (.tail _ (List.mem_append.mpr (.inr hp)))
        have lr : ∀ r, r < one.length → (rd r, W.listOf (f r).1.toArray (f r).2) ∈ LED := fun r hr => hLED ▸ .tail _ (.tail _ (List.mem_append.mpr (.inl (rowsL_mem hr))))
        have li : (L' + 1 + 1 + 1, oi3) ∈ LED := hLED ▸ .head _
        have lj : (L' + 1 + 1 + 1 + 1, oj4) ∈ LED := hLED ▸ .tail _ (.head _)
        have lt := lm _ mt1
        have lD := lm _ mt2'
        have lo := lm _ mt3
        have la2 := lm _ mt4
        have lb2 := lm _ mt5
        have lp1 := lm _ hp1m
        have lp2 := lm _ hp2m
        refine LCg.CompSrc.range (n := mv (a1, b1)) rfl F8 N8 R8 (small_one (by first | grind | omega) (by first | grind | omega) (by first | grind | omega) (by first | grind | omega)) (by rw [rangeSize_nat]; first | grind | omega) (by rw [sizeLine_eq]; first | grind | omega) ?_
        intro gg2
        refine rest_U (n := mv (a1, b1)) (fun k vs led => led = LED ∧ IntsAre vs ((List.range k).map fun x => g (i + 1 + x) j)) ?_ ?_ _ 0 [] _ (by first | grind | omega) ⟨rfl, .nil⟩
        · intro k vs led v I oI C oC D9 m₂ h tk E' hk hJ hv hC hx F N off ne
          refine hideQ ?_
          intro Qh4 hQt4
          obtain ⟨rfl, hvs⟩ := hJ
          obtain ⟨tv, rfl⟩ := hv
          clear F8 N8 R8
          have hk0 : k < 50 := by first | grind | omega
          have keep : Hold (i < one.length ∧ refs.length = one.length ∧ j < other.length ∧ i + mv (a1, b1) < one.length ∧ k < mv (a1, b1)) := ⟨hin, hrl, hjn, mv1, hk⟩
          clear hin hit hj0 hjn hrl ht hq l1 l2 hxl hyl mv1 mv2 fd1 fd1n fd2 fd2n emv1 emv2 q1 q2 q3 q4 q5 q6 hk
          dsimp only
          k_steps
          obtain ⟨hin, hrl, hjn, mv1, hk⟩ := keep
          unfold Hold
          rename News _ _ _ _ => N7
          refine item_pos (i + 1 + k) N7 (List.mem_cons_of_mem _ (List.mem_cons_of_mem _ (List.mem_cons_of_mem _ lD))) (by first | grind | omega) (by first | grind | omega) (hrg _ (by first | grind | omega)) ?_ (by with_unfolding_all rfl)
          k_steps
          unfold Hold
          obtain ⟨t8, ht8⟩ := hrow (i + 1 + k) j (by first | grind | omega) hjn (.inl (by first | grind | omega))
          refine item_pos j N7 (List.mem_cons_of_mem _ (List.mem_cons_of_mem _ (List.mem_cons_of_mem _ (lr _ (by first | grind | omega))))) rfl (by first | grind | omega) ht8 ?_ (by with_unfolding_all rfl)
          k_steps
          refine hQt4 _ _ ?_
          refine cend_same (by assumption) N7 off trivial ⟨rfl, ?_⟩
          rw [List.range_succ, List.map_append]
          exact ints_app hvs (.cons _ _ .nil)
        · rintro vs led ⟨rfl, hvs⟩
          unfold LCg.FinA
          intro D9 h' tk F' N' o9'
          clear F8 N8 R8
          dsimp only
          have hthere := hvs
          have keep2 : Hold (i < one.length ∧ one.length - t = i + 1 ∧ j = other.length - 1 - q ∧ j < other.length ∧ refs.length = one.length ∧ t < one.length ∧ q < other.length ∧ one.length < 50 ∧ other.length < 50 ∧ xs.length = one.length ∧ ys.length = other.length ∧ i + mv (a1, b1) < one.length ∧ j + mv (a2, b2) < other.length ∧ Int.fdiv (a2 - 1) b2 ≤ 50 ∧ 0 ≤ Int.fdiv (a2 - 1) b2 ∧ ((mv (a2, b2) : Nat) : Int) = Int.fdiv (a2 - 1) b2) :=
            ⟨hin, hit, hj0, hjn, hrl, ht, hq, l1, l2, hxl, hyl, mv1, mv2, by first | grind | omega, fd2n, emv2⟩
          clear hin hit hj0 hjn hrl ht hq l1 l2 hxl hyl mv1 mv2 fd1 fd1n fd2 fd2n emv1 emv2 q1 q2 q3
          k_steps
          unfold Hold
          rename News _ _ _ _ => N7
          refine item_pos j N7 (List.mem_cons_of_mem _ lb2) rfl (by first | grind | omega) hp2i ?_ (by with_unfolding_all rfl)
          k_steps
          unfold Hold
          refine item_pos j N7 (List.mem_cons_of_mem _ lb2) rfl (by first | grind | omega) hp2i ?_ (by with_unfolding_all rfl)
          k_steps
          unfold Hold
          rename IsRange _ _ _ _ _ _ _ _ => R8
          rename Fr _ _ _ _ => F8
          rename News _ _ _ _ => N8
          obtain ⟨hin, hit, hj0, hjn, hrl, ht, hq, l1, l2, hxl, hyl, mv1, mv2, fdb, fd2n, emv2⟩ := keep2
          refine LCg.CompSrc.range (n := mv (a2, b2)) rfl F8 N8 R8 (small_one (by first | grind | omega) (by first | grind | omega) (by first | grind | omega) (by first | grind | omega)) (by rw [rangeSize_nat]; first | grind | omega) (by rw [sizeLine_eq]; first | grind | omega) ?_
          intro gg3
          refine rest_U (n := mv (a2, b2)) (fun k vs' led' => led' = (D9, LCg.lst vs) :: led ∧ IntsAre vs' ((List.range k).map fun x => g i (j + 1 + x))) ?_ ?_ _ 0 [] _ (by first | grind | omega) ⟨rfl, .nil⟩
          · intro k vs' led' v I oI C oC D8 m₂ h tk E' hk hJ hv hC hx F N off ne
            refine hideQ ?_
            intro Qh5 hQt5
            obtain ⟨rfl, hvs'⟩ := hJ
            obtain ⟨tv, rfl⟩ := hv
            clear F8 N8 R8
            have hk0 : k < 50 := by first | grind | omega
            have keep : Hold (i < one.length ∧ refs.length = one.length ∧ j < other.length ∧ j + mv (a2, b2) < other.length ∧ k < mv (a2, b2)) := ⟨hin, hrl, hjn, mv2, hk⟩
            clear hin hit hj0 hjn hrl ht hq l1 l2 hxl hyl mv1 mv2 fdb fd2n emv2 hk
            dsimp only
            k_steps
            obtain ⟨hin, hrl, hjn, mv2, hk⟩ := keep
            unfold Hold
            rename News _ _ _ _ => N7
            have lmm : ∀ {b1 b2 b3 b4 : Addr × Obj}, ∀ p ∈ led, p ∈ b1 :: b2 :: b3 :: b4 :: led := fun p hp => .tail _ (.tail _ (.tail _ (.tail _ hp)))
            refine item_pos i N7 (lmm _ lD) rfl (by first | grind | omega) (hrg _ (by first | grind | omega)) ?_ (by with_unfolding_all rfl)
            k_steps
            unfold Hold
            obtain ⟨t8, ht8⟩ := hrow i (j + 1 + k) hin (by first | grind | omega) (.inr ⟨rfl, by first | grind | omega⟩)
            refine item_pos (j + 1 + k) N7 (lmm _ (lr _ hin)) (by first | grind | omega) (by first | grind | omega) ht8 ?_ (by with_unfolding_all rfl)
            k_steps
            refine hQt5 _ _ ?_
            refine cend_same (by assumption) N7 off trivial ⟨rfl, ?_⟩
            rw [List.range_succ, List.map_append]
            exact ints_app hvs' (.cons _ _ .nil)
          · rintro vs' led' ⟨rfl, hvs'⟩
            unfold LCg.FinE
            intro D8 h' tk F' N' o8'
            clear F8 N8 R8
            have keep3 : Hold (i < one.length ∧ one.length - t = i + 1 ∧ j = other.length - 1 - q ∧ j < other.length ∧ refs.length = one.length ∧ t < one.length ∧ q < other.length ∧ one.length < 50 ∧ other.length < 50 ∧ xs.length = one.length ∧ ys.length = other.length ∧ i + mv (a1, b1) < one.length ∧ j + mv (a2, b2) < other.length) := ⟨hin, hit, hj0, hjn, hrl, ht, hq, l1, l2, hxl, hyl, mv1, mv2⟩
            clear hin hit hj0 hjn hrl ht hq l1 l2 hxl hyl mv1 mv2 fdb fd2n emv2
            dsimp only
            k_steps
            rename Fr _ _ _ _ => F8
            rename News _ _ _ _ => N8
            generalize hT : thereF one other g i j = TH
            have hTe : ((List.range (mv (a1, b1))).map fun x => g (i + 1 + x) j) ++ ((List.range (mv (a2, b2))).map fun x => g i (j + 1 + x)) = TH := by
              rw [← hT]; unfold thereF; rw [getD_of hp1o, getD_of hp2o]
            have od9 := Off1.mem o9'
            have od8 := Off1.mem o8'
            have hvl := hvs.length
            have hvl' := hvs'.length
            rw [List.length_map, List.length_range] at hvl hvl'
            obtain ⟨hin, hit, hj0, hjn, hrl, ht, hq, l1, l2, hxl, hyl, mv1, mv2⟩ := keep3
            refine iadd_list F8 N8 (.head _) (.tail (Ne.symm (od8 _ (.head _))) (.head od9)) (by first | grind | omega) ?_
            have hTi : IntsAre (vs ++ vs') TH := by rw [← hTe]; exact ints_app hvs hvs'
            clear F8 N8
            intro h' F8 N8
            have keep3 : Hold (i < one.length ∧ one.length - t = i + 1 ∧ j = other.length - 1 - q ∧ j < other.length ∧ refs.length = one.length ∧ t < one.length ∧ q < other.length ∧ one.length < 50 ∧ other.length < 50 ∧ xs.length = one.length ∧ ys.length = other.length ∧ i + mv (a1, b1) < one.length ∧ j + mv (a2, b2) < other.length) := ⟨hin, hit, hj0, hjn, hrl, ht, hq, l1, l2, hxl, hyl, mv1, mv2⟩
            clear hin hit hj0 hjn hrl ht hq l1 l2 hxl hyl mv1 mv2 hvl hvl'
            k_steps
            unfold Hold
            rename Fr _ _ _ _ => F8
            rename News _ _ _ _ => N8
            generalize hNL : (D8, LCg.lst vs') :: (D9, _) :: led = NL at N8
            have lTH : ∃ n9, (D9, W.listOf (vs ++ vs').toArray n9) ∈ NL := by rw [← hNL]; exact ⟨_, .tail _ (.head _)⟩
            have lNL : ∀ p ∈ led, p ∈ NL := fun p hp => hNL ▸ .tail _ (.tail _ hp)
            obtain ⟨n9, lTH⟩ := lTH
            refine loop_while (σ := Int × Tok) (fun _ => []) (fun c => [(Str.ofString "least", .int c.1 c.2)]) [] (fun k c _ => 0 ≤ c.1 ∧ (∀ y, 0 ≤ y → y < c.1 → y ∈ TH) ∧ k = (TH.filter fun x => decide (c.1 ≤ x)).length) [] _ (0, _) NL F8 N8 (fun p hp => hp) (fun _ => rfl) (fun _ _ _ h => nomatch h) ⟨Int.le_refl 0, fun y h1 h2 => by first | grind | omega, rfl⟩ (List.forall_mem_singleton.mpr rfl) ?_
            clear F8 N8
            intro k c tl2 h tk u4 hI hlt4 hoff4 F'' N''
            obtain ⟨lst, tl9⟩ := c
            obtain ⟨hI0, hI1, hI2⟩ := hI
            dsimp only [names, kstB, List.nil_append] at F'' N'' hI0 hI1 hI2
            have lTH2 : (D9, W.listOf (vs ++ vs').toArray n9) ∈ tl2 ++ NL := List.mem_append.mpr (.inr lTH)
            k_steps
            unfold Hold
            refine in_list_ints (listIn N'' lTH2) hTi ?_
            cases hb : TH.any (· == lst) with
            | true =>
              k_steps
              rename Fr _ _ _ _ => F8
              rename News _ _ _ _ => N8
              obtain ⟨x9, hx9, hx9'⟩ := List.any_eq_true.mp hb
              have hmem : lst ∈ TH := by
                rw [beq_iff_eq] at hx9'
                rw [← hx9']; exact hx9
              refine turn_next (lst + 1, _) [] F8 N8 (fun _ h => nomatch h) (fun p hp => hp) (fun _ h => nomatch h) ⟨_, ?_, by dsimp only; first | grind | omega, ?_, rfl⟩ (List.forall_mem_singleton.mpr rfl) ?_
              · rw [hI2]; exact (filter_step TH lst).2 hmem
              · intro y h1 h2
                rcases Int.lt_or_eq_of_le (Int.le_of_lt_add_one h2) with h | h
                · exact hI1 y h1 h
                · rw [h]; exact hmem
              · intro z _ h2 h3
                have h5 : z ≠ Str.ofString "least" := h2 _ (.head _)
                repeat (first | rw [if_neg h5])
                rw [h3]
                rfl
            | false =>
              have hnm : lst ∉ TH := fun c => by
                have := List.any_eq_false.mp hb lst c
                simp at this
              have hmex : lst = g i j := mex_uniq ⟨hI0, hnm, hI1⟩ (by rw [← hT]; exact hg i j keep3.1 keep3.2.2.2.1)
              have l2i : (L' + 1 + 1 + 1, oi3) ∈ tl2 ++ NL := List.mem_append.mpr (.inr (lNL _ li))
              have l2j : (L' + 1 + 1 + 1 + 1, oj4) ∈ tl2 ++ NL := List.mem_append.mpr (.inr (lNL _ lj))
              have l2t : (L' + 1 + 1, ot2) ∈ tl2 ++ NL := List.mem_append.mpr (.inr (lNL _ lt))
              have l2D : (D, W.listOf refs.toArray refs.length) ∈ tl2 ++ NL := List.mem_append.mpr (.inr (lNL _ lD))
              k_steps
              unfold Hold
              obtain ⟨hin, hit, hj0, hjn, hrl, ht, hq, l1, l2, hxl, hyl, mv1, mv2⟩ := keep3
              refine item_pos i N'' l2D rfl (by first | grind | omega) (hrg _ hin) ?_ (by with_unfolding_all rfl)
              k_steps
              unfold Hold
              have o9a : ∀ p ∈ tl2 ++ ((D8, LCg.lst vs') :: (D9, W.listOf (vs ++ vs').toArray n9) :: tail2), p.1 ≠ rd i := by
                intro p hp
                have hri := hoff2
                rcases List.mem_append.mp hp with hp | hp
                · exact Ne.symm (hlt4 p hp (rd i, _) (lNL _ (lr i hin)))
                · rcases List.mem_cons.mp hp with rfl | hp
                  · exact Ne.symm (od8 (rd i, _) (.tail _ (lr i hin)))
                  · rcases List.mem_cons.mp hp with rfl | hp
                    · exact Ne.symm (od9 (rd i, _) (lr i hin))
                    · exact hoff2 p hp _ (.tail _ (.tail _ (List.mem_map.mpr ⟨i, List.mem_range.mpr hin, rfl⟩)))
              have N9 : News g' L' h ((L' + 1 + 1 + 1, oi3) :: (L' + 1 + 1 + 1 + 1, oj4) :: (rowsL rd one.length f ++ (tl2 ++ ((D8, LCg.lst vs') :: (D9, W.listOf (vs ++ vs').toArray n9) :: tail2)))) := by
                intro p hp
                refine N'' p ?_
                rcases List.mem_cons.mp hp with rfl | hp
                · exact l2i
                · rcases List.mem_cons.mp hp with rfl | hp
                  · exact l2j
                  · rcases List.mem_append.mp hp with hp | hp
                    · obtain ⟨r, hr, rfl⟩ := rowsL_of hp
                      exact List.mem_append.mpr (.inr (lNL _ (lr r hr)))
                    · rcases List.mem_append.mp hp with hp | hp
                      · exact List.mem_append.mpr (.inl hp)
                      · rcases List.mem_cons.mp hp with rfl | hp
                        · exact List.mem_append.mpr (.inr (hNL ▸ .head _))
                        · rcases List.mem_cons.mp hp with rfl | hp
                          · exact List.mem_append.mpr (.inr lTH)
                          · exact List.mem_append.mpr (.inr (lNL _ (lm _ hp)))
              have hrli := (hrows i hin).length
              rw [List.length_map, List.length_range] at hrli
              rename Fr _ _ _ _ => F8
              refine ki_set F8 N9 (q := (f i).1.set j (.int lst tl9)) (by first | grind | omega) (by first | grind | omega) (ki_setL_eq _ _ _ (by show (f i).1.length > _; first | grind | omega)) (.tail (Ne.symm (dci i hin)) (.tail (Ne.symm (dcj i hin)) (upd_map o9a (List.range one.length) List.nodup_range (List.mem_range.mpr hin) fun r hr hne => hrd r i (List.mem_range.mp hr) hin hne))) ?_
              clear F8
              intro h9 F8 N8
              k_steps
              rename Fr _ _ _ _ => F8
              refine hQt3 _ _ ?_
              refine turn_next (oi3, oj4, fun r => if r = i then ((f i).1.set j (.int lst tl9), (f i).2) else f r) [] F8 N8 ?_ ?_ (fun _ h => nomatch h) ⟨di3, ⟨_, dj4⟩, ?_⟩ (fun _ h => nomatch h) ?_
              · intro p hp
                rw [List.append_nil] at hp
                rcases List.mem_cons.mp hp with rfl | hp
                · exact .head _
                · rcases List.mem_cons.mp hp with rfl | hp
                  · exact .tail _ (.head _)
                  · exact .tail _ (.tail _ (List.mem_append.mpr (.inl hp)))
              · exact fun p hp => .tail _ (.tail _ (List.mem_append.mpr (.inr (List.mem_append.mpr (.inr (.tail _ (.tail _ hp)))))))
              · intro r hr
                dsimp only
                have hbase := hrows r hr
                by_cases hri : r = i
                · subst hri
                  rw [if_pos rfl]
                  have e9 : ((List.range other.length).map fun x => if r < r ∨ (r = r ∧ other.length - (q + 1) ≤ x) then g r x else 0) = ((List.range other.length).map fun x => if r < r ∨ (r = r ∧ other.length - q ≤ x) then g r x else 0).set j (g r j) := by
                    apply List.ext_getElem
                    · simp
                    · intro x hx1 hx2
                      rw [List.length_map, List.length_range] at hx1
                      rw [List.getElem_map, List.getElem_range, List.getElem_set, List.getElem_map, List.getElem_range]
                      by_cases hxj : j = x
                      · rw [if_pos hxj, if_pos (by first | grind | omega), hxj]
                      · rw [if_neg hxj]
                        by_cases hc : other.length - q ≤ x
                        · rw [if_pos (by first | grind | omega), if_pos (by first | grind | omega)]
                        · rw [if_neg (by first | grind | omega), if_neg (by first | grind | omega)]
                  rw [e9, hmex]
                  exact ints_set hbase _ _ _
                · rw [if_neg hri]
                  have e9 : ((List.range other.length).map fun x => if i < r ∨ (r = i ∧ other.length - (q + 1) ≤ x) then g r x else 0) = ((List.range other.length).map fun x => if i < r ∨ (r = i ∧ other.length - q ≤ x) then g r x else 0) := by
                    refine List.map_congr_left fun x hx => ?_
                    by_cases hc : i < r
                    · rw [if_pos (.inl hc), if_pos (.inl hc)]
                    · rw [if_neg (by first | grind | omega), if_neg (by first | grind | omega)]
                  rw [e9]
                  exact hbase
              · intro z _ _ h3
                have h4 := h3
                simp only [List.contains_cons, List.contains_nil, Bool.or_false, Bool.or_eq_false_iff, beq_eq_false_iff_ne] at h4
                obtain ⟨e3, e4⟩ := h4
                have h6 : ([] : List Str).contains z = false := rfl
                repeat (first | rw [if_neg e3] | rw [if_neg e4] | rw [h6])
                rw [h3]
                rfl
      · clear F9 N9 R9 hrows di2 dj1
        intro c tl2 h tk u2 ht2 hI F'' N''
        obtain ⟨oi3, oj3, f⟩ := c
        obtain ⟨di3, ⟨vj3, dj3⟩, hrows⟩ := hI
        dsimp only at di3 dj3 hrows
        dsimp only [names, kstB, List.contains_nil, List.cons_append, List.nil_append] at F'' N''
        k_steps
        rename Fr _ _ _ _ => F8
        rename News _ _ _ _ => N8
        refine hQt2 _ _ ?_
        refine turn_next (oi3, oj3, f) [] F8 N8 ?_ ?_ (fun _ h => nomatch h) ⟨⟨_, di3⟩, ⟨_, dj3⟩, ?_⟩ (fun _ h => nomatch h) ?_
        · intro p hp
          rw [List.append_nil] at hp
          rcases List.mem_cons.mp hp with rfl | hp
          · exact .head _
          · rcases List.mem_cons.mp hp with rfl | hp
            · exact .tail _ (.head _)
            · exact .tail _ (.tail _ (List.mem_append.mpr (.inl hp)))
        · exact fun p hp => .tail _ (.tail _ (List.mem_append.mpr (.inr (List.mem_append.mpr (.inr hp)))))
        · intro r hr
          have e9 : ((List.range other.length).map fun q => if one.length - (t + 1) ≤ r then g r q else 0) = (List.range other.length).map fun x => if i < r ∨ (r = i ∧ other.length - other.length ≤ x) then g r x else 0 := by
            refine List.map_congr_left fun x hx => ?_
            by_cases hc : i ≤ r
            · rw [if_pos (by first | grind | omega), if_pos (by first | grind | omega)]
            · rw [if_neg (by first | grind | omega), if_neg (by first | grind | omega)]
          rw [e9]
          exact hrows r hr
        · intro z _ _ h3
          have h4 := h3
          simp only [List.contains_cons, List.contains_nil, Bool.or_false, Bool.or_eq_false_iff, beq_eq_false_iff_ne] at h4
          obtain ⟨e3, e4⟩ := h4
          repeat (first | rw [if_neg e3] | rw [if_neg e4])
          rw [h3]
          rfl
    · clear F9 N9 R9 hsubN
      intro c tl2 h tk u2 ht2 hI F'' N''
      obtain ⟨oi3, oj3, f⟩ := c
      obtain ⟨⟨vi3, di3⟩, ⟨vj3, dj3⟩, hrows⟩ := hI
      dsimp only at di3 dj3 hrows
      dsimp only [names, kstB, List.contains_nil, List.cons_append, List.nil_append] at F'' N''
      have l2t : (L' + 1 + 1, ot2) ∈ (L' + 1 + 1 + 1, oi3) :: (L' + 1 + 1 + 1 + 1, oj3) :: (rowsL rd one.length f ++ (tl2 ++ ((L' + 1 + 1, ot2) :: (D, LCg.lst refs) :: (L' + 1, oo) :: news))) :=
        .tail _ (.tail _ (List.mem_append.mpr (.inr (List.mem_append.mpr (.inr (.head _))))))
      k_steps
      rename_i kF kN _ _
      refine does_ret2 hret (rowsL rd one.length f ++ [(D, LCg.lst refs)]) kF kN ?_ ?_ ?_ ⟨D, refs, refs.length, rfl, List.mem_append.mpr (.inr (List.mem_append.mpr (.inr (.head _)))), ?_⟩
      · exact fun q hq => .tail _ (.tail _ (List.mem_append.mpr (.inr (List.mem_append.mpr (.inr (.tail _ (.tail _ (.tail _ hq))))))))
      · intro p hp
        rcases List.mem_append.mp hp with hp | hp
        · exact .tail _ (.tail _ (List.mem_append.mpr (.inl hp)))
        · rw [List.mem_singleton.mp hp]
          exact .tail _ (.tail _ (List.mem_append.mpr (.inr (List.mem_append.mpr (.inr (.tail _ (.head _)))))))
      · intro p hp q hq
        have hqn : q ∈ nw := hn0 ▸ .tail _ (.tail _ (.tail _ (.tail _ hq)))
        rcases List.mem_append.mp hp with hp | hp
        · obtain ⟨r, hr, rfl⟩ := rowsL_of hp
          exact htl _ (hf9 r hr).1 q hqn
        · rw [List.mem_singleton.mp hp]
          exact o1' q (List.mem_append.mpr (.inr hqn))
      · rw [← hrefs]
        refine rows_of_map _ fun r hr => ⟨List.mem_append.mpr (.inr (List.mem_append.mpr (.inl (rowsL_mem (List.mem_range.mp hr))))), ?_⟩
        have e9 : (List.range other.length).map (g r) = (List.range other.length).map fun q => if one.length - one.length ≤ r then g r q else 0 := by
          refine List.map_congr_left fun x hx => ?_
          rw [if_pos (by first | grind | omega)]
        rw [e9]
        exact hrows r (List.mem_range.mp hr)
end
section
local macro_rules | `(tactic| omega) => `(tactic| grind)
section
theorem said13 : True := by
  k_with_none
  k_with "z0 pyIter ref" => (((with_reducible show wpAny _ _ (pyIter (Value.ref _)) (fun it s₂ => LoopAtV _ _ _ _ _ _ _ _ _ it s₂) _ _); refine Hold.mk ?_))
  k_with "z range" => ((with_unfolding_all refine' range1_rows ?kF ?kN ?_); (case kF => k_asm); (case kN => k_asm))
  k_with "z0 getItem ref int" => ((k_here; (with_reducible show wpAny _ _ (getItem (Value.ref _) (Value.int (-1) _)) _ _ _); k_dflt (refine' get_last ?k1 ?k2 ?_; (case k1 => k_asm); (case k2 => k_mem); k_whole)))
  k_with "z1 setItem ref int" => ((k_here; (with_reducible show wpAny _ _ (setItem (Value.ref _) (Value.int (-1) _) _) _ _ _); k_dflt (refine' set_last ?k1 ?k2 ?k3 ?_; (case k1 => k_asm); (case k2 => k_asm); (case k3 => k_upd); k_whole)))
  k_with "z2 call builtin:list.append" => ((k_here; (with_reducible show wpAny _ _ (call (Value.builtin _) [Value.ref _, _]) _ _ _); k_dflt (refine' append_K ?k1 ?k2 ?k3 ?_ ?z; (case k1 => k_asm); (case k2 => k_asm); (case k3 => k_upd); (case z => first | assumption | size_fits | (simp only [List.size_toArray, List.length_append, List.length_cons, List.length_nil, sizeLine_eq]; omega)); k_whole)))
  k_with "z0 exec While Compare cons nil" => (((with_reducible show wpAny _ _ (exec (Stmt.While _ _ _ _) _) _ _ _); refine Hold.mk ?_))
  k_with "z kmk_list" => (exact listIn (by k_asm) (by k_mem))
  k_with "z is_list" => (exact listIn (by k_asm) (by k_mem))
  k_with "z k_mem" => (((show _ ∈ (_ : List (Addr × Obj))); with_reducible assumption))
  k_with "z3 subscriptTail" => ((k_here; (with_reducible show wpAny _ _ (subscriptTail _ (PySem.Expr.Slice none none (some _) _) (Value.ref _) (Value.ref _)) _ _ _); k_dflt (refine' rev_list ?F ?N ?l ?k ?z ?_ ?s ?t; (case F => k_asm); (case N => k_asm); (case l => k_mem); (case k => exact IsPart.int _ _); (case s => with_unfolding_all rfl); (case t => kmk_pure); (case z => (simp only [sizeLine_eq]; omega)))))
  k_with "z0 exec For Name Subscript cons nil" => ((with_unfolding_all (refine' my_For ?kF ?k1 ?k2 ?_; (case k1 => exact rfl); (case k2 => exact rfl)); (case kF => k_asm)))
  k_with "z0 exec For Name Call cons nil" => ((with_unfolding_all (refine' my_For ?kF ?k1 ?k2 ?_; (case k1 => exact rfl); (case k2 => exact rfl)); (case kF => k_asm)))
  k_with "z0 exec For Name Name cons nil" => ((with_unfolding_all (refine' my_For ?kF ?k1 ?k2 ?_; (case k1 => exact rfl); (case k2 => exact rfl)); (case kF => k_asm)))
  k_with "z enter" => (refine' code_defC ?k1 ?k2 ?k3 ?k4 ?k5 ?kA ?kF ?kK ?k6 ?k7 ?k8 ?k9 ?kB ?kD ?_ ?c2 ?c3 ?c4; (case kA => exact rfl); (case kF => exact rfl); (case kK => assumption); (case k1 => k_asm); (case k2 => k_asm); (case k3 => k_asm); (case k4 => k_asm); (case k5 => k_asm); (case k6 => k_is); (case k7 => k_is); (case k8 => ktr_room); (case k9 => exact BindsTo.of_eq rfl); (case kB => exact rfl); (case kD => decide +kernel); (case c2 => exact rfl); (case c3 => exact rfl); (case c4 => exact rfl); k_whole)
  k_with "z0 eval ListComp" => (((with_reducible show wpAny _ _ (eval (Expr.ListComp _ _ _ _) _) _ _ _); refine Hold.mk ?_))
  k_with "z0 exec Assign cons ListComp" => (((with_reducible show wpAny _ _ (exec (Stmt.Assign [_] (Expr.ListComp _ _ _ _) _) _) _ _ _); refine Hold.mk ?_))
  k_with "z0 CompSrc" => ((refine Hold.mk ?_))
  k_with "z0 CompSrcT" => ((refine Hold.mk ?_))
  k_with "z0 SrcLP" => ((refine Hold.mk ?_))
  k_with "z0 CompEnd" => ((refine Hold.mk ?_))
  k_with "z k_steps" => (repeat' (first | (k_unfold; (try dsimp only)) | (walk1; (try dsimp only)) | (dsimp only; walk1; (try dsimp only)) | (leave1; walk_say "STEP leave1"; try dsimp only) | fail "no step"))
  k_with "z4 call builtin:sum" => ((k_here; (with_reducible show wpAny _ _ (call (Value.builtin "sum") [Value.ref _]) _ _ _); k_dflt (refine' sumK ?kz ?kF ?kN ?kl ?ki ?_; (case kz => exact rfl); (case kF => k_asm); (case kN => k_asm); (case kl => exact listIn (by k_asm) (by k_mem)); (case ki => assumption); k_whole)))
  k_with "z0 eval ListComp" => ((k_here; (with_reducible show wpAny _ _ (eval (Expr.ListComp _ [Comprehension.mk (Expr.Name _ _) _ [] _] _ _) _) _ _ _); k_dflt (refine LCg.ListComp_U (F₀ := by k_asm) (by with_unfolding_all rfl) (by decide) (by rfl) (by decide) (by rfl) ?_)))
  k_with "z0 eval ListComp" => ((k_here; (with_reducible show wpAny _ _ (eval (Expr.ListComp _ [Comprehension.mk (Expr.Name _ _) _ [_] _] _ _) _) _ _ _); k_dflt (refine LCt.ListComp_T (F₀ := by k_asm) (by with_unfolding_all rfl) (by decide) (by rfl) (by decide) (by rfl) ?_)))
  k_with "z0 eval ListComp" => ((k_here; (with_reducible show wpAny _ _ (eval (Expr.ListComp _ [Comprehension.mk (Expr.Tuple [Expr.Name _ _, Expr.Name _ _] _ _) _ [] _] _ _) _) _ _ _); k_dflt (refine LCp.ListComp_P (F₀ := by k_asm) (by with_unfolding_all rfl) (by decide) (by rfl) (by decide) (by rfl) (by rfl) (by decide) ?_)))
  k_with "z0 exec Assign cons ListComp" => ((k_here; (with_reducible show wpAny _ _ (exec (Stmt.Assign [_] (Expr.ListComp _ [Comprehension.mk (Expr.Name _ _) _ [] _] _ _) _) _) _ _ _); k_dflt (refine LCg.Assign_ListComp_U (F₀ := by k_asm) (by rfl) (by with_unfolding_all rfl) (by with_unfolding_all rfl) (by decide) (by rfl) (by decide) (by rfl) (by rfl) (by rfl) ?_)))
  k_with "z0 exec Assign cons ListComp" => ((k_here; (with_reducible show wpAny _ _ (exec (Stmt.Assign [_] (Expr.ListComp _ [Comprehension.mk (Expr.Tuple [Expr.Name _ _, Expr.Name _ _] _ _) _ [] _] _ _) _) _) _ _ _); k_dflt (refine LCp.Assign_ListComp_P (F₀ := by k_asm) (by rfl) (by with_unfolding_all rfl) (by with_unfolding_all rfl) (by decide) (by rfl) (by decide) (by rfl) (by rfl) (by decide) (by rfl) (by rfl) ?_)))
  k_with "z k_mem" => (((show _ ∈ (_ : List (Addr × Obj))); first | with_reducible assumption | with_reducible exact List.Mem.head _ | (with_reducible refine List.mem_cons_of_mem _ ?_; k_mem) | (with_reducible refine List.mem_append_right _ ?_; k_mem) | (with_reducible refine List.mem_append_left _ ?_; k_mem)))
  k_with "z0 exec For Tuple Attribute cons nil" => (((with_unfolding_all (refine' For_turns ?kF ?_)); (case kF => k_asm)))
  k_with "z0 exec For Tuple Name cons nil" => (((with_unfolding_all (refine' For_turns ?kF ?_)); (case kF => k_asm)))
  k_with "z0 exec For Tuple Call cons nil" => (((with_unfolding_all (refine' For_turns ?kF ?_)); (case kF => k_asm)))
  k_with "z0 exec For Tuple Subscript cons nil" => (((with_unfolding_all (refine' For_turns ?kF ?_)); (case kF => k_asm)))
  k_with "z0 pyIter ref" => (((with_reducible show wpAny _ _ (pyIter (Value.ref _)) (fun it s₂ => TurnsAt _ _ _ _ _ _ _ _ _ it s₂) _ _); refine Hold.mk ?_))
  k_with "z0 subscriptTail" => ((k_here; (with_reducible show wpAny _ _ (subscriptTail _ _ (Value.ref _) (Value.int _ _)) _ _ _); k_dflt (refine' item_list_ints ?l ?i ?a ?b ?c ?_; (case l => exact listIn (by k_asm) (by k_mem)); (case i => with_reducible assumption); (case a => omega); (case b => omega); (case c => omega); k_whole); intro _))
  k_with "z3 subscriptTail" => ((k_here; (with_reducible show wpAny _ _ (subscriptTail _ (PySem.Expr.Slice (some _) none none _) (Value.ref _) (Value.ref _)) _ _ _); k_dflt (refine' drop_list ?dlE ?dlF ?dlN ?dlM ?dlP ?dlQ ?dlX ?dlZ ?_ ?dlS ?dlT; (case dlE => exact rfl); (case dlF => k_asm); (case dlN => k_asm); (case dlM => k_mem); (case dlP => exact IsPart.int _ _); (case dlQ => exact IsPart.none); (case dlX => omega); (case dlS => with_unfolding_all rfl); (case dlT => kmk_pure); (case dlZ => ((try simp only [sizeLine_eq, List.length_cons, List.length_nil, List.length_append, List.length_drop, List.length_replicate, List.length_dropLast]); omega)))))
  k_with "z3 subscriptTail" => ((k_here; (with_reducible show wpAny _ _ (subscriptTail _ (PySem.Expr.Slice none (some _) none _) (Value.ref _) (Value.ref _)) _ _ _); k_dflt (refine' init_list ?dlE ?dlF ?dlN ?dlM ?dlQ ?dlP ?dlZ ?_ ?dlS ?dlT; (case dlE => exact rfl); (case dlF => k_asm); (case dlN => k_asm); (case dlM => k_mem); (case dlP => exact IsPart.int _ _); (case dlQ => exact IsPart.none); (case dlS => with_unfolding_all rfl); (case dlT => kmk_pure); (case dlZ => ((try simp only [sizeLine_eq, List.length_cons, List.length_nil, List.length_append, List.length_drop, List.length_replicate, List.length_dropLast]); omega)))))
  k_with "z3 subscriptTail" => ((k_here; (with_reducible show wpAny _ _ (subscriptTail _ (PySem.Expr.Slice none none (some _) _) (Value.ref _) (Value.ref _)) _ _ _); k_dflt (refine' revv_list ?dlE ?dlF ?dlN ?dlM ?dlP ?dlZ ?_ ?dlS ?dlT; (case dlE => exact rfl); (case dlF => k_asm); (case dlN => k_asm); (case dlM => k_mem); (case dlP => exact IsPart.int _ _); (case dlS => with_unfolding_all rfl); (case dlT => kmk_pure); (case dlZ => ((try simp only [sizeLine_eq, List.length_cons, List.length_nil, List.length_append, List.length_drop, List.length_replicate, List.length_dropLast]); omega)))))
  k_with "z3 binaryOp Add ref ref" => ((k_here; (with_reducible show wpAny _ _ (binaryOp _ (Value.ref _) (Value.ref _)) _ _ _); k_dflt (refine' add_l ?alF ?alN ?alA ?alB ?alZ ?_; (case alF => k_asm); (case alN => k_asm); (case alA => k_mem); (case alB => k_mem); (case alZ => ((try simp only [sizeLine_eq, List.length_cons, List.length_nil, List.length_append, List.length_drop, List.length_replicate, List.length_dropLast]); omega)))))
  k_with "z3 binaryOp Mult ref int" => ((k_here; (with_reducible show wpAny _ _ (binaryOp Operator.Mult (Value.ref _) (Value.int _ _)) _ _ _); k_dflt (refine' mul_l ?alF ?alN ?alA ?alB ?alZ ?_; (case alF => k_asm); (case alN => k_asm); (case alA => k_mem); (case alB => omega); (case alZ => omega))))
  k_with "z6 call builtin:max" => ((k_here; (with_reducible show wpAny _ _ (call (Value.builtin "max") [Value.float _ _, Value.float _ _, Value.float _ _]) _ _ _); k_dflt (refine' max_three_ff rfl ?fF ?fN ?_; (case fF => k_asm); (case fN => k_asm); k_whole)))
  k_with "z6 call builtin:min" => ((k_here; (with_reducible show wpAny _ _ (call (Value.builtin "min") [Value.float _ _, Value.float _ _, Value.float _ _]) _ _ _); k_dflt (refine' min_three_ff rfl ?fF ?fN ?_; (case fF => k_asm); (case fN => k_asm); k_whole)))
  trivial
def fEq (x y : UInt64) : Bool := Float64.cmp x y == some .eq
def fLe (x y : UInt64) : Bool := Float64.cmp x y == some .lt || Float64.cmp x y == some .eq
def hlsSum (r g b : UInt64) : UInt64 := Float64.add (fmax3 r g b) (fmin3 r g b)
def hlsRange (r g b : UInt64) : UInt64 := Float64.sub (fmax3 r g b) (fmin3 r g b)
def hlsL (r g b : UInt64) : UInt64 := Float64.div (hlsSum r g b) 4611686018427387904
def hlsRest (r g b : UInt64) : UInt64 := Float64.sub (Float64.sub 4611686018427387904 (fmax3 r g b)) (fmin3 r g b)
def hlsS (r g b : UInt64) : UInt64 := if fLe (hlsL r g b) 4602678819172646912 then Float64.div (hlsRange r g b) (hlsSum r g b) else Float64.div (hlsRange r g b) (hlsRest r g b)
def hlsC (r g b x : UInt64) : UInt64 := Float64.div (Float64.sub (fmax3 r g b) x) (hlsRange r g b)
def hlsRaw (r g b : UInt64) : UInt64 :=
  if fEq r (fmax3 r g b) then Float64.sub (hlsC r g b b) (hlsC r g b g)
  else if fEq g (fmax3 r g b) then Float64.sub (Float64.add 4611686018427387904 (hlsC r g b r)) (hlsC r g b b)
  else Float64.sub (Float64.add 4616189618054758400 (hlsC r g b g)) (hlsC r g b r)
def hlsH (r g b : UInt64) : UInt64 := (Float64.divmod (Float64.div (hlsRaw r g b) 4618441417868443648) 4607182418800017408).2
abbrev triObj (x y z : UInt64) (t u v : Tok) (n : Nat) : Obj := { cls := .type "tuple", data := .seq #[.float x t, .float y u, .float z v] n }
theorem hls_does {w : World} (r g b : UInt64) (hne : fEq (fmin3 r g b) (fmax3 r g b) = false) (hz1 : fLe (hlsL r g b) 4602678819172646912 = true → Float64.isZero (hlsSum r g b) = false) (hz2 : fLe (hlsL r g b) 4602678819172646912 = false → Float64.isZero (hlsRest r g b) = false) (hz3 : Float64.isZero (hlsRange r g b) = false) :
    Does w 21 5 (fun news vs => ∃ t u v, vs = [.float r t, .float g u, .float b v]) (fun news r' => ∃ D xh xs th tl ts n, r' = .ref D ∧ (D, triObj xh (hlsL r g b) xs th tl ts n) ∈ news ∧ xh = hlsH r g b ∧ xs = hlsS r g b) := by
  unfold Does
  k_fill
  w_top off
  intro loose mean mg mb dp un gd cn cs a ccd cl outer A₀ base h₀ L m news s vs Q E B F X N T hk hR hd hu hret
  obtain ⟨t, u, v, rfl⟩ := hR
  have hz1' : Float64.isZero (Float64.add (fmax3 r g b) (fmin3 r g b)) = true → (Float64.cmp (Float64.div (Float64.add (fmax3 r g b) (fmin3 r g b)) 4611686018427387904) 4602678819172646912 == some Ordering.lt || Float64.cmp (Float64.div (Float64.add (fmax3 r g b) (fmin3 r g b)) 4611686018427387904) 4602678819172646912 == some Ordering.eq) = true → False := fun a c => by
    rw [show Float64.isZero (Float64.add (fmax3 r g b) (fmin3 r g b)) = false from hz1 c] at a; cases a
  have hz2' : Float64.isZero (Float64.sub (Float64.sub 4611686018427387904 (fmax3 r g b)) (fmin3 r g b)) = true → (Float64.cmp (Float64.div (Float64.add (fmax3 r g b) (fmin3 r g b)) 4611686018427387904) 4602678819172646912 == some Ordering.lt || Float64.cmp (Float64.div (Float64.add (fmax3 r g b) (fmin3 r g b)) 4611686018427387904) 4602678819172646912 == some Ordering.eq) = false → False := fun a c => by
    rw [show Float64.isZero (Float64.sub (Float64.sub 4611686018427387904 (fmax3 r g b)) (fmin3 r g b)) = false from hz2 c] at a; cases a
  have hz3' : Float64.isZero (Float64.sub (fmax3 r g b) (fmin3 r g b)) = true → False := fun a => by
    rw [show Float64.isZero (Float64.sub (fmax3 r g b) (fmin3 r g b)) = false from hz3] at a; cases a
  have hne' : (Float64.cmp (fmin3 r g b) (fmax3 r g b) == some Ordering.eq) = true → False := fun a => by
    rw [show (Float64.cmp (fmin3 r g b) (fmax3 r g b) == some Ordering.eq) = false from hne] at a; cases a
  have fin : ∀ (D : Addr) (xh xs : UInt64) (th tl ts : Tok) (n : Nat) (h' : Heap) (tk : Nat), Fr h₀ L h' m → News h₀ L h' ((D, triObj xh (hlsL r g b) xs th tl ts n) :: news) → (∀ p ∈ news, p.1 < D) → xh = hlsH r g b → xs = hlsS r g b → Q (.ref D) { s with heap := h', toks := tk } := by
    intro D xh xs th tl ts n h' tk kF kN l1 e1 e2
    exact does_ret2 hret [(D, _)] kF kN (fun q hq => .tail _ hq) (List.forall_mem_singleton.mpr (.head _)) (List.forall_mem_singleton.mpr fun q hq => Nat.ne_of_lt (l1 q hq)) ⟨D, xh, xs, th, tl, ts, n, rfl, List.mem_append.mpr (.inr (.head _)), e1, e2⟩
  clear hz1 hz2 hz3 hne
  refine wpAny_call ?_
  k_dflt ktr_enter
  k_steps
  all_goals first
    | exact (hne' (by assumption)).elim
    | exact (hz3' (by assumption)).elim
    | exact (hz1' (by assumption) (by assumption)).elim
    | exact (hz2' (by assumption) (by assumption)).elim
    | (rename News _ _ _ _ => kN
       refine fin _ _ _ _ _ _ _ _ _ (by assumption) kN (by assumption) ?_ ?_
       · unfold hlsH hlsRaw fEq
         first
           | (rw [if_pos (by assumption)]; rfl)
           | (rw [if_neg (Bool.eq_false_iff.mp (by assumption)), if_pos (by assumption)]; rfl)
           | (rw [if_neg (Bool.eq_false_iff.mp (by assumption)), if_neg (Bool.eq_false_iff.mp (by assumption))]; rfl)
       · unfold hlsS fLe
         first
           | (rw [if_pos (by assumption)]; rfl)
           | (rw [if_neg (Bool.eq_false_iff.mp (by assumption))]; rfl))
end
section
theorem said14 : True := by
  k_with_none
  k_with "z0 pyIter ref" => (((with_reducible show wpAny _ _ (pyIter (Value.ref _)) (fun it s₂ => LoopAtV _ _ _ _ _ _ _ _ _ it s₂) _ _); refine Hold.mk ?_))
  k_with "z range" => ((with_unfolding_all refine' range1_rows ?kF ?kN ?_); (case kF => k_asm); (case kN => k_asm))
  k_with "z0 getItem ref int" => ((k_here; (with_reducible show wpAny _ _ (getItem (Value.ref _) (Value.int (-1) _)) _ _ _); k_dflt (refine' get_last ?k1 ?k2 ?_; (case k1 => k_asm); (case k2 => k_mem); k_whole)))
  k_with "z1 setItem ref int" => ((k_here; (with_reducible show wpAny _ _ (setItem (Value.ref _) (Value.int (-1) _) _) _ _ _); k_dflt (refine' set_last ?k1 ?k2 ?k3 ?_; (case k1 => k_asm); (case k2 => k_asm); (case k3 => k_upd); k_whole)))
  k_with "z2 call builtin:list.append" => ((k_here; (with_reducible show wpAny _ _ (call (Value.builtin _) [Value.ref _, _]) _ _ _); k_dflt (refine' append_K ?k1 ?k2 ?k3 ?_ ?z; (case k1 => k_asm); (case k2 => k_asm); (case k3 => k_upd); (case z => first | assumption | size_fits | (simp only [List.size_toArray, List.length_append, List.length_cons, List.length_nil, sizeLine_eq]; omega)); k_whole)))
  k_with "z0 exec While Compare cons nil" => (((with_reducible show wpAny _ _ (exec (Stmt.While _ _ _ _) _) _ _ _); refine Hold.mk ?_))
  k_with "z kmk_list" => (exact listIn (by k_asm) (by k_mem))
  k_with "z is_list" => (exact listIn (by k_asm) (by k_mem))
  k_with "z k_mem" => (((show _ ∈ (_ : List (Addr × Obj))); with_reducible assumption))
  k_with "z3 subscriptTail" => ((k_here; (with_reducible show wpAny _ _ (subscriptTail _ (PySem.Expr.Slice none none (some _) _) (Value.ref _) (Value.ref _)) _ _ _); k_dflt (refine' rev_list ?F ?N ?l ?k ?z ?_ ?s ?t; (case F => k_asm); (case N => k_asm); (case l => k_mem); (case k => exact IsPart.int _ _); (case s => with_unfolding_all rfl); (case t => kmk_pure); (case z => (simp only [sizeLine_eq]; omega)))))
  k_with "z0 exec For Name Subscript cons nil" => ((with_unfolding_all (refine' my_For ?kF ?k1 ?k2 ?_; (case k1 => exact rfl); (case k2 => exact rfl)); (case kF => k_asm)))
  k_with "z0 exec For Name Call cons nil" => ((with_unfolding_all (refine' my_For ?kF ?k1 ?k2 ?_; (case k1 => exact rfl); (case k2 => exact rfl)); (case kF => k_asm)))
  k_with "z0 exec For Name Name cons nil" => ((with_unfolding_all (refine' my_For ?kF ?k1 ?k2 ?_; (case k1 => exact rfl); (case k2 => exact rfl)); (case kF => k_asm)))
  k_with "z enter" => (refine' code_defC ?k1 ?k2 ?k3 ?k4 ?k5 ?kA ?kF ?kK ?k6 ?k7 ?k8 ?k9 ?kB ?kD ?_ ?c2 ?c3 ?c4; (case kA => exact rfl); (case kF => exact rfl); (case kK => assumption); (case k1 => k_asm); (case k2 => k_asm); (case k3 => k_asm); (case k4 => k_asm); (case k5 => k_asm); (case k6 => k_is); (case k7 => k_is); (case k8 => ktr_room); (case k9 => exact BindsTo.of_eq rfl); (case kB => exact rfl); (case kD => decide +kernel); (case c2 => exact rfl); (case c3 => exact rfl); (case c4 => exact rfl); k_whole)
  k_with "z0 eval ListComp" => (((with_reducible show wpAny _ _ (eval (Expr.ListComp _ _ _ _) _) _ _ _); refine Hold.mk ?_))
  k_with "z0 exec Assign cons ListComp" => (((with_reducible show wpAny _ _ (exec (Stmt.Assign [_] (Expr.ListComp _ _ _ _) _) _) _ _ _); refine Hold.mk ?_))
  k_with "z0 CompSrc" => ((refine Hold.mk ?_))
  k_with "z0 CompSrcT" => ((refine Hold.mk ?_))
  k_with "z0 SrcLP" => ((refine Hold.mk ?_))
  k_with "z0 CompEnd" => ((refine Hold.mk ?_))
  k_with "z k_steps" => (repeat' (first | (k_unfold; (try dsimp only)) | (walk1; (try dsimp only)) | (dsimp only; walk1; (try dsimp only)) | (leave1; walk_say "STEP leave1"; try dsimp only) | fail "no step"))
  k_with "z4 call builtin:sum" => ((k_here; (with_reducible show wpAny _ _ (call (Value.builtin "sum") [Value.ref _]) _ _ _); k_dflt (refine' sumK ?kz ?kF ?kN ?kl ?ki ?_; (case kz => exact rfl); (case kF => k_asm); (case kN => k_asm); (case kl => exact listIn (by k_asm) (by k_mem)); (case ki => assumption); k_whole)))
  k_with "z0 eval ListComp" => ((k_here; (with_reducible show wpAny _ _ (eval (Expr.ListComp _ [Comprehension.mk (Expr.Name _ _) _ [] _] _ _) _) _ _ _); k_dflt (refine LCg.ListComp_U (F₀ := by k_asm) (by with_unfolding_all rfl) (by decide) (by rfl) (by decide) (by rfl) ?_)))
  k_with "z0 eval ListComp" => ((k_here; (with_reducible show wpAny _ _ (eval (Expr.ListComp _ [Comprehension.mk (Expr.Name _ _) _ [_] _] _ _) _) _ _ _); k_dflt (refine LCt.ListComp_T (F₀ := by k_asm) (by with_unfolding_all rfl) (by decide) (by rfl) (by decide) (by rfl) ?_)))
  k_with "z0 eval ListComp" => ((k_here; (with_reducible show wpAny _ _ (eval (Expr.ListComp _ [Comprehension.mk (Expr.Tuple [Expr.Name _ _, Expr.Name _ _] _ _) _ [] _] _ _) _) _ _ _); k_dflt (refine LCp.ListComp_P (F₀ := by k_asm) (by with_unfolding_all rfl) (by decide) (by rfl) (by decide) (by rfl) (by rfl) (by decide) ?_)))
  k_with "z0 exec Assign cons ListComp" => ((k_here; (with_reducible show wpAny _ _ (exec (Stmt.Assign [_] (Expr.ListComp _ [Comprehension.mk (Expr.Name _ _) _ [] _] _ _) _) _) _ _ _); k_dflt (refine LCg.Assign_ListComp_U (F₀ := by k_asm) (by rfl) (by with_unfolding_all rfl) (by with_unfolding_all rfl) (by decide) (by rfl) (by decide) (by rfl) (by rfl) (by rfl) ?_)))
  k_with "z0 exec Assign cons ListComp" => ((k_here; (with_reducible show wpAny _ _ (exec (Stmt.Assign [_] (Expr.ListComp _ [Comprehension.mk (Expr.Tuple [Expr.Name _ _, Expr.Name _ _] _ _) _ [] _] _ _) _) _) _ _ _); k_dflt (refine LCp.Assign_ListComp_P (F₀ := by k_asm) (by rfl) (by with_unfolding_all rfl) (by with_unfolding_all rfl) (by decide) (by rfl) (by decide) (by rfl) (by rfl) (by decide) (by rfl) (by rfl) ?_)))
  k_with "z k_mem" => (((show _ ∈ (_ : List (Addr × Obj))); first | with_reducible assumption | with_reducible exact List.Mem.head _ | (with_reducible refine List.mem_cons_of_mem _ ?_; k_mem) | (with_reducible refine List.mem_append_right _ ?_; k_mem) | (with_reducible refine List.mem_append_left _ ?_; k_mem)))
  k_with "z0 exec For Tuple Attribute cons nil" => (((with_unfolding_all (refine' For_turns ?kF ?_)); (case kF => k_asm)))
  k_with "z0 exec For Tuple Name cons nil" => (((with_unfolding_all (refine' For_turns ?kF ?_)); (case kF => k_asm)))
  k_with "z0 exec For Tuple Call cons nil" => (((with_unfolding_all (refine' For_turns ?kF ?_)); (case kF => k_asm)))
  k_with "z0 exec For Tuple Subscript cons nil" => (((with_unfolding_all (refine' For_turns ?kF ?_)); (case kF => k_asm)))
  k_with "z0 pyIter ref" => (((with_reducible show wpAny _ _ (pyIter (Value.ref _)) (fun it s₂ => TurnsAt _ _ _ _ _ _ _ _ _ it s₂) _ _); refine Hold.mk ?_))
  k_with "z0 subscriptTail" => ((k_here; (with_reducible show wpAny _ _ (subscriptTail _ _ (Value.ref _) (Value.int _ _)) _ _ _); k_dflt (refine' item_list_ints ?l ?i ?a ?b ?c ?_; (case l => exact listIn (by k_asm) (by k_mem)); (case i => with_reducible assumption); (case a => omega); (case b => omega); (case c => omega); k_whole); intro _))
  k_with "z3 subscriptTail" => ((k_here; (with_reducible show wpAny _ _ (subscriptTail _ (PySem.Expr.Slice (some _) none none _) (Value.ref _) (Value.ref _)) _ _ _); k_dflt (refine' drop_list ?dlE ?dlF ?dlN ?dlM ?dlP ?dlQ ?dlX ?dlZ ?_ ?dlS ?dlT; (case dlE => exact rfl); (case dlF => k_asm); (case dlN => k_asm); (case dlM => k_mem); (case dlP => exact IsPart.int _ _); (case dlQ => exact IsPart.none); (case dlX => omega); (case dlS => with_unfolding_all rfl); (case dlT => kmk_pure); (case dlZ => ((try simp only [sizeLine_eq, List.length_cons, List.length_nil, List.length_append, List.length_drop, List.length_replicate, List.length_dropLast]); omega)))))
  k_with "z3 subscriptTail" => ((k_here; (with_reducible show wpAny _ _ (subscriptTail _ (PySem.Expr.Slice none (some _) none _) (Value.ref _) (Value.ref _)) _ _ _); k_dflt (refine' init_list ?dlE ?dlF ?dlN ?dlM ?dlQ ?dlP ?dlZ ?_ ?dlS ?dlT; (case dlE => exact rfl); (case dlF => k_asm); (case dlN => k_asm); (case dlM => k_mem); (case dlP => exact IsPart.int _ _); (case dlQ => exact IsPart.none); (case dlS => with_unfolding_all rfl); (case dlT => kmk_pure); (case dlZ => ((try simp only [sizeLine_eq, List.length_cons, List.length_nil, List.length_append, List.length_drop, List.length_replicate, List.length_dropLast]); omega)))))
  k_with "z3 subscriptTail" => ((k_here; (with_reducible show wpAny _ _ (subscriptTail _ (PySem.Expr.Slice none none (some _) _) (Value.ref _) (Value.ref _)) _ _ _); k_dflt (refine' revv_list ?dlE ?dlF ?dlN ?dlM ?dlP ?dlZ ?_ ?dlS ?dlT; (case dlE => exact rfl); (case dlF => k_asm); (case dlN => k_asm); (case dlM => k_mem); (case dlP => exact IsPart.int _ _); (case dlS => with_unfolding_all rfl); (case dlT => kmk_pure); (case dlZ => ((try simp only [sizeLine_eq, List.length_cons, List.length_nil, List.length_append, List.length_drop, List.length_replicate, List.length_dropLast]); omega)))))
  k_with "z3 binaryOp Add ref ref" => ((k_here; (with_reducible show wpAny _ _ (binaryOp _ (Value.ref _) (Value.ref _)) _ _ _); k_dflt (refine' add_l ?alF ?alN ?alA ?alB ?alZ ?_; (case alF => k_asm); (case alN => k_asm); (case alA => k_mem); (case alB => k_mem); (case alZ => ((try simp only [sizeLine_eq, List.length_cons, List.length_nil, List.length_append, List.length_drop, List.length_replicate, List.length_dropLast]); omega)))))
  k_with "z3 binaryOp Mult ref int" => ((k_here; (with_reducible show wpAny _ _ (binaryOp Operator.Mult (Value.ref _) (Value.int _ _)) _ _ _); k_dflt (refine' mul_l ?alF ?alN ?alA ?alB ?alZ ?_; (case alF => k_asm); (case alN => k_asm); (case alA => k_mem); (case alB => omega); (case alZ => omega))))
  k_with "z0 call ref" => (((with_reducible show wpAny _ _ (call (Value.ref _) _) _ _ _); refine Hold.mk ?_))
  k_with "z0 subscriptTail Name Name ref int" => (((with_reducible show wpAny _ _ (subscriptTail _ _ (Value.ref _) (Value.int _ _)) _ _ _); refine Hold.mk ?_))
  k_with "z0 subscriptTail Name BinOp ref int" => (((with_reducible show wpAny _ _ (subscriptTail _ _ (Value.ref _) (Value.int _ _)) _ _ _); refine Hold.mk ?_))
  k_with "z0 subscriptTail Name Constant ref int" => (((with_reducible show wpAny _ _ (subscriptTail _ _ (Value.ref _) (Value.int _ _)) _ _ _); refine Hold.mk ?_))
  k_with "z0 setItem ref int" => (((with_reducible show wpAny _ _ (setItem (Value.ref _) _ _) _ _ _); refine Hold.mk ?_))
  k_with "z0 getItem ref int" => (((with_reducible show wpAny _ _ (getItem (Value.ref _) _) _ _ _); refine Hold.mk ?_))
  k_with "z0 binaryOp Div int int" => (((with_reducible show wpAny _ _ (binaryOp _ (Value.int _ _) (Value.int _ _)) _ _ _); refine Hold.mk ?_))
  k_with "z0 call builtin:round" => (((with_reducible show wpAny _ _ (call (Value.builtin "round") [Value.float _ _]) _ _ _); refine Hold.mk ?_))
  trivial
theorem round_fin {prog : Program} {w : World} {A : Around} {E : Value → Shared → Prop} {s : Shared} {x : UInt64} {t : Tok} {Q : Value → Shared → Prop} {n : Int} (hA : A.handled = none) (hf : Float64.isFinite x = true) (hn : PySem.Flt.toInt Float64.nearestOf x = n)
    (h : Q (.int n s.toks) { s with toks := s.toks + 1 }) : wpAny (model prog w) A (call (.builtin "round") [.float x t]) Q E s := by
  refine PySem.Flt.call_round_float hA (fun c => ?_) (fun c => ?_) fun _ => by rw [hn]; exact h
  · rw [PySem.Flt.not_finite_of_nan c] at hf; cases hf
  · rw [PySem.Flt.not_finite_of_inf c] at hf; cases hf
/-- int / int -/
def fdivI (a b : Int) : UInt64 := Float64.ofFrac (decide (a < 0) != decide (b < 0)) a.natAbs b.natAbs
def addAt (l : List Int) (i : Nat) (x : Int) : List Int := l.set i (l.getD i 0 + x)
def lampsF (m l t w : Int) : List Int := addAt (addAt [w, w, w] (t.fdiv 2).toNat m) (Int.fmod (t.fdiv 2 + 1 + t.fmod 2) 3).toNat l
section
variable {prog : Program} {w : World} {A : Around} {E : Value → Shared → Prop} {s : Shared} {h₀ : Heap} {L l : Addr} {m : Str → Option Value} {news : List (Addr × Obj)} {value slice : PySem.Expr} {vs : List Value} {ns : List Int} {n : Nat} {x y : Int} {t u : Tok} {ops : List Value}
theorem ints_getD {vs : List Value} {ns : List Int} (h : IntsAre vs ns) : ∀ {i : Nat}, i < ns.length → ∃ t, vs[i]? = some (.int (ns.getD i 0) t) := by
  induction h with
  | nil => intro i hi; cases hi
  | cons n t _ ih =>
    intro i hi
    cases i with
    | zero => exact ⟨t, rfl⟩
    | succ i => exact ih (Nat.lt_of_succ_lt_succ hi)
theorem get_ints {Q : Value → Shared → Prop} (i : Nat) (N : News h₀ L s.heap news) (hm : (l, W.listOf vs.toArray n) ∈ news) (hi : IntsAre vs ns) (hx : x = (i : Int)) (h0 : i < ns.length) (h1 : ns.length < 1000) (h : ∀ t, Q (.int (ns.getD i 0) t) s) :
    wpAny (model prog w) A (getItem (.ref l) (.int x u)) Q E s := by
  subst hx
  obtain ⟨t, ht⟩ := ints_getD hi h0
  exact wpAny_getItem_list (listIn N hm) (by omega) (by omega) (by simpa using ht) (h t)
theorem item_ints {Q : Value → Shared → Prop} (i : Nat) (N : News h₀ L s.heap news) (hm : (l, W.listOf vs.toArray n) ∈ news) (hi : IntsAre vs ns) (hx : x = (i : Int)) (h0 : i < ns.length) (h1 : ns.length < 1000) (h : ∀ t, Q (.int (ns.getD i 0) t) s)
    (hs : subscripted slice false (.ref l) (.int x u) = operate ops (getItem (.ref l) (.int x u))) : wpAny (model prog w) A (subscriptTail value slice (.ref l) (.int x u)) Q E s :=
  tail_any (listIn N hm).typeIs slot_list_getitem.lookup (get_ints i N hm hi hx h0 h1 h) hs
theorem ki_setL_eq' : ∀ (l : List Value) (k : Nat) (v : Value), k < l.length → ki_setL l k v = some (l.set k v)
  | [], k, v, h => by cases h
  | x :: r, 0, v, _ => rfl
  | x :: r, k + 1, v, h => by
    unfold ki_setL
    rw [ki_setL_eq' r k v (Nat.lt_of_succ_lt_succ h)]
    rfl
theorem ints_set' {vs : List Value} {ns : List Int} (h : IntsAre vs ns) (x : Int) (t : Tok) : ∀ k : Nat, IntsAre (vs.set k (.int x t)) (ns.set k x) := by
  induction h with
  | nil => intro k; exact .nil
  | cons n u h ih =>
    intro k
    cases k with
    | zero => exact .cons x t h
    | succ k => exact .cons n u (ih k)
/-- a list of ints, a cell of it set -/
theorem set_ints {Q : Unit → Shared → Prop} (i : Nat) (F : Fr h₀ L s.heap m) (N : News h₀ L s.heap ((l, W.listOf vs.toArray n) :: news)) (off : ∀ p ∈ news, p.1 ≠ l) (hi : IntsAre vs ns) (hx : x = (i : Int)) (h0 : i < ns.length) (h1 : ns.length < 1000)
    (h : ∀ h' vs', Fr h₀ L h' m → News h₀ L h' ((l, W.listOf (List.toArray vs') n) :: news) → IntsAre vs' (ns.set i y) → Q () { s with heap := h' }) : wpAny (model prog w) A (setItem (.ref l) (.int x u) (.int y t)) Q E s := by
  subst hx
  have hl := hi.length
  exact ki_set F N (q := vs.set i (.int y t)) (by omega) (by omega) (ki_setL_eq' _ _ _ (by show vs.length > _; simp only [Int.toNat_natCast]; omega)) (.head off) fun h' F' N' => h h' _ F' N' (ints_set' hi _ _ _)
end
def fmin2 (x y : UInt64) : UInt64 := if fLt y x then y else x
def wideX (s l : UInt64) (S : Int) : UInt64 := Float64.mul (Float64.mul (Float64.mul s (Float64.ofInt 2)) (Float64.ofInt S)) (fmin2 l (Float64.sub (Float64.ofInt 1) l))
def stepX (h : UInt64) (m : Int) : UInt64 := Float64.mul (Float64.mul h (Float64.ofInt 6)) (Float64.ofInt m)
def stepV (m l t : Int) : Int := if t.fmod 2 = 0 then l + 2 * t.fdiv 2 * m else 2 * (Int.fmod (t.fdiv 2 + 2) 3 + 1) * m - l
structure SeenOk (r g b : UInt64) (m l S t : Int) : Prop where
  hne : fEq (fmin3 r g b) (fmax3 r g b) = false
  hz1 : fLe (hlsL r g b) 4602678819172646912 = true → Float64.isZero (hlsSum r g b) = false
  hz2 : fLe (hlsL r g b) 4602678819172646912 = false → Float64.isZero (hlsRest r g b) = false
  hz3 : Float64.isZero (hlsRange r g b) = false
  fw : Float64.isFinite (wideX (hlsS r g b) (hlsL r g b) S) = true
  vw : PySem.Flt.toInt Float64.nearestOf (wideX (hlsS r g b) (hlsL r g b) S) = m
  fs : Float64.isFinite (stepX (hlsH r g b) m) = true
  vs : PySem.Flt.toInt Float64.nearestOf (stepX (hlsH r g b) m) = stepV m l t
def seenR (m l S t w : Int) (i : Nat) : UInt64 := fdivI ((lampsF m l t w).getD i 0) S
theorem lampsF_at (m l t w : Int) (h1 : 1 ≤ l) (h2 : l ≤ m) (h3 : m < 2 ^ 22) (h6 : 0 ≤ w) (h7 : w < 2 ^ 22) (i : Nat) : 0 ≤ (lampsF m l t w).getD i 0 ∧ (lampsF m l t w).getD i 0 < 2 ^ 24 := by
  have key : ∀ (ls : List Int) (j : Nat) (x B : Int), 0 ≤ x → x < 2 ^ 22 → 0 ≤ B → (∀ i, 0 ≤ ls.getD i 0 ∧ ls.getD i 0 < B) → ∀ i, 0 ≤ (addAt ls j x).getD i 0 ∧ (addAt ls j x).getD i 0 < B + 2 ^ 22 := by
    intro ls j x B hx0 hx1 hB h i
    unfold addAt
    by_cases hi : i < ls.length
    · rw [List.getD_eq_getElem?_getD, List.getElem?_set]
      by_cases hj : j = i
      · subst hj
        rw [if_pos rfl, if_pos hi]
        have := h j
        simp only [Option.getD_some]
        omega
      · rw [if_neg hj, ← List.getD_eq_getElem?_getD]
        have := h i
        omega
    · have hi' : i ≥ (ls.set j (ls.getD j 0 + x)).length := by rw [List.length_set]; omega
      rw [List.getD_eq_getElem?_getD, List.getElem?_eq_none hi']
      simp only [Option.getD_none]
      omega
  have base : ∀ i, 0 ≤ [w, w, w].getD i 0 ∧ [w, w, w].getD i 0 < 2 ^ 22 := by
    intro i
    rcases i with _ | _ | _ | i
    · exact ⟨h6, h7⟩
    · exact ⟨h6, h7⟩
    · exact ⟨h6, h7⟩
    · exact ⟨by simp, by simp⟩
  have := key _ (Int.fmod (t.fdiv 2 + 1 + t.fmod 2) 3).toNat l _ (by omega) (by omega) (by decide) (key _ (t.fdiv 2).toNat m _ (by omega) h3 (by decide) base) i
  unfold lampsF
  omega
theorem seen_does {w : World} (old : List (Addr × Obj)) (mo le S tu wh : Int) (h1 : 1 ≤ le) (h2 : le ≤ mo) (h3 : mo < 2 ^ 22) (h4 : 0 ≤ tu) (h5 : tu ≤ 5) (h6 : 0 ≤ wh) (h7 : wh < 2 ^ 22) (h8 : 1 ≤ S) (h9 : S < 2 ^ 30) (ok : SeenOk (seenR mo le S tu wh 0) (seenR mo le S tu wh 1) (seenR mo le S tu wh 2) mo le S tu) :
    Does w 142 8 (fun news vs => news = old ∧ ∃ t1 t2 t3 t4 t5, vs = [.int mo t1, .int le t2, .int S t3, .int tu t4, .int wh t5]) (fun news r => ∃ tl, news = old ++ tl ∧ ∃ D t u n, r = .ref D ∧ (D, pairObj mo le t u n) ∈ tl) := by
  unfold Does
  k_fill
  w_top off
  intro loose mean mg mb dp un gd cn cs a ccd cl outer A₀ base h₀ L m news s vs Q E B F X N T hk hR hd hu hret
  obtain ⟨hold, t1, t2, t3, t4, t5, rfl⟩ := hR
  have hb : tu.fdiv 2 = tu / 2 := Int.fdiv_eq_ediv_of_nonneg _ (by decide)
  have hm : tu.fmod 2 = tu % 2 := Int.fmod_eq_emod_of_nonneg _ (by decide)
  refine wpAny_call ?_
  k_dflt ktr_enter
  k_steps
  unfold Hold
  rename Fr _ _ _ _ => F9
  rename News _ _ _ _ => N9
  rename (∀ p ∈ news, p.1 < _) => l1
  have hi0 : tu.fdiv 2 = (((tu.fdiv 2).toNat : Nat) : Int) := by omega
  have off := fun p hp => Nat.ne_of_lt (l1 p hp)
  refine get_ints (tu.fdiv 2).toNat N9 (.head _) (.cons wh t5 (.cons wh t5 (.cons wh t5 .nil))) hi0 (by show _ < 3; omega) (by show 3 < 1000; decide) fun ta => ?_
  k_steps
  unfold Hold
  refine set_ints (tu.fdiv 2).toNat F9 N9 off (.cons wh t5 (.cons wh t5 (.cons wh t5 .nil))) hi0 (by show _ < 3; omega) (by show 3 < 1000; decide) ?_
  clear F9 N9
  intro hp5 vs1 F9 N9 hv1
  have hv1 : IntsAre vs1 (addAt [wh, wh, wh] (tu.fdiv 2).toNat mo) := hv1
  have hl1 : (addAt [wh, wh, wh] (tu.fdiv 2).toNat mo).length = 3 := by unfold addAt; rw [List.length_set]; rfl
  generalize hA1 : addAt [wh, wh, wh] (tu.fdiv 2).toNat mo = A1 at hv1 hl1
  have hm3 : 0 ≤ Int.fmod (tu.fdiv 2 + 1 + tu.fmod 2) 3 ∧ Int.fmod (tu.fdiv 2 + 1 + tu.fmod 2) 3 < 3 := by
    rw [Int.fmod_eq_emod_of_nonneg _ (by decide)]; omega
  have hi1 : Int.fmod (tu.fdiv 2 + 1 + tu.fmod 2) 3 = ((Int.fmod (tu.fdiv 2 + 1 + tu.fmod 2) 3).toNat : Int) := by omega
  k_steps
  unfold Hold
  refine get_ints (Int.fmod (tu.fdiv 2 + 1 + tu.fmod 2) 3).toNat N9 (.head _) hv1 hi1 (by omega) (by omega) fun tb => ?_
  k_steps
  unfold Hold
  refine set_ints (Int.fmod (tu.fdiv 2 + 1 + tu.fmod 2) 3).toNat F9 N9 off hv1 hi1 (by omega) (by omega) ?_
  clear F9 N9
  intro hp6 vs2 F9 N9 hv2
  have hv2 : IntsAre vs2 (addAt A1 (Int.fmod (tu.fdiv 2 + 1 + tu.fmod 2) 3).toNat le) := hv2
  have hl2 : (addAt A1 (Int.fmod (tu.fdiv 2 + 1 + tu.fmod 2) 3).toNat le).length = 3 := by unfold addAt; rw [List.length_set, hl1]
  rw [← hA1] at hv2 hl2
  have hv2 : IntsAre vs2 (lampsF mo le tu wh) := hv2
  have hl2 : (lampsF mo le tu wh).length = 3 := hl2
  have hx0 := lampsF_at mo le tu wh h1 h2 h3 h6 h7 0
  have hx1 := lampsF_at mo le tu wh h1 h2 h3 h6 h7 1
  have hx2 := lampsF_at mo le tu wh h1 h2 h3 h6 h7 2
  unfold seenR at ok
  generalize hL : lampsF mo le tu wh = LL at hv2 hl2 hx0 hx1 hx2 ok
  k_steps
  unfold Hold
  refine item_ints 0 N9 (.head _) hv2 rfl (by omega) (by omega) (fun tc => ?_) (by with_unfolding_all rfl)
  k_steps
  unfold Hold
  refine PySem.Flt.div_ii_fits rfl (by omega) (fun c => absurd c (by omega)) (fun _ _ => ?_)
  k_steps
  unfold Hold
  refine item_ints 1 N9 (.head _) hv2 rfl (by omega) (by omega) (fun td => ?_) (by with_unfolding_all rfl)
  k_steps
  unfold Hold
  refine PySem.Flt.div_ii_fits rfl (by omega) (fun c => absurd c (by omega)) (fun _ _ => ?_)
  k_steps
  unfold Hold
  refine item_ints 2 N9 (.head _) hv2 rfl (by omega) (by omega) (fun te => ?_) (by with_unfolding_all rfl)
  k_steps
  unfold Hold
  refine PySem.Flt.div_ii_fits rfl (by omega) (fun c => absurd c (by omega)) (fun _ _ => ?_)
  k_steps
  unfold Hold
  rename Fr _ _ _ _ => F9
  rename News _ _ _ _ => N9
  unfold fdivI at ok
  generalize hrr : Float64.ofFrac (decide (LL.getD 0 0 < 0) != decide (S < 0)) (LL.getD 0 0).natAbs S.natAbs = rr at ok
  generalize hgg : Float64.ofFrac (decide (LL.getD 1 0 < 0) != decide (S < 0)) (LL.getD 1 0).natAbs S.natAbs = gg at ok
  generalize hbb : Float64.ofFrac (decide (LL.getD 2 0 < 0) != decide (S < 0)) (LL.getD 2 0).natAbs S.natAbs = bb at ok
  with_unfolding_all refine' use_does (hls_does rr gg bb ok.hne ok.hz1 ok.hz2 ok.hz3) ?k1 F9 ?k3 N9 ?k5 ?k6 ⟨_, _, _, rfl⟩ ?k8 ?k9 ?_
  case k1 => k_asm
  case k3 => k_asm
  case k5 => k_asm
  case k6 => exact rfl
  case k8 => ktr_room
  case k9 => ktr_units
  intro v tl' h' tk' F1 N1 ho hout
  obtain ⟨D, _, _, th, tl, ts, n, rfl, hD, rfl, rfl⟩ := hout
  clear F9 N9
  k_steps
  unfold Hold
  have fw := ok.fw
  have vw := ok.vw
  unfold wideX fmin2 fLt at fw vw
  refine round_fin rfl fw vw ?_
  k_steps
  unfold Hold
  refine round_fin rfl ok.fs ok.vs ?_
  unfold stepV
  k_steps
  · rename (tu.fmod 2 = 0) => hev
    rename News _ _ _ _ => kN
    rename (∀ p ∈ (_ :: _ : List (Addr × Obj)) ++ _, (p : Addr × Obj).1 < _) => lD
    rw [if_pos hev, Int.add_sub_cancel] at kN
    refine does_ret2 hret [(_, _)] (by assumption) kN ?_ (List.forall_mem_singleton.mpr (.head _)) ?_ ⟨_, by rw [hold], _, _, _, _, rfl, .head _⟩
    · exact fun q hq => .tail _ (.tail _ (List.mem_append.mpr (.inl hq)))
    · exact List.forall_mem_singleton.mpr fun q hq => Nat.ne_of_lt (lD q (.tail _ (List.mem_append.mpr (.inl hq))))
  · rename (tu.fmod 2 ≠ 0) => hev
    rename News _ _ _ _ => kN
    rename (∀ p ∈ (_ :: _ : List (Addr × Obj)) ++ _, (p : Addr × Obj).1 < _) => lD
    rw [if_neg hev, Int.sub_sub_self] at kN
    refine does_ret2 hret [(_, _)] (by assumption) kN ?_ (List.forall_mem_singleton.mpr (.head _)) ?_ ⟨_, by rw [hold], _, _, _, _, rfl, .head _⟩
    · exact fun q hq => .tail _ (.tail _ (List.mem_append.mpr (.inl hq)))
    · exact List.forall_mem_singleton.mpr fun q hq => Nat.ne_of_lt (lD q (.tail _ (List.mem_append.mpr (.inl hq))))
end
section
section
variable {prog : Program} {w : World} {A : Around} {E : Value → Shared → Prop} {s : Shared} {h₀ : Heap} {L a b : Addr} {m : Str → Option Value} {news : List (Addr × Obj)} {xs ys : List Value} {ka kb : Nat} {Q : Value → Shared → Prop}
theorem dat_ints {vs : List Value} {ns : List Int} (h : IntsAre vs ns) : DatAll news vs (ns.map .int) := by
  induction h with
  | nil => exact .nil
  | cons n t _ ih => exact .cons (.int n t) ih
def pairD (p : Int × Int) : Dat := .tuple [.int p.1, .int p.2]
theorem dat_pairs {vs : List Value} {ps : List (Int × Int)} (h : PairsAre news vs ps) : DatAll news vs (ps.map pairD) := by
  induction h with
  | nil => exact .nil
  | cons hm _ ih => exact .cons (.tuple hm (.cons (.int _ _) (.cons (.int _ _) .nil))) ih
def rowD (r : List Int) : Dat := .list (r.map .int)
theorem dat_rows {vs : List Value} {rs : List (List Int)} (h : RowsAre news vs rs) : DatAll news vs (rs.map rowD) := by
  induction h with
  | nil => exact .nil
  | cons hm hi _ ih => exact .cons (.list hm (dat_ints hi)) ih
theorem ok_pairs (ps : List (Int × Int)) : ∀ d ∈ ps.map pairD, kqdOk 8 d = true := by
  intro d hd
  obtain ⟨p, _, rfl⟩ := List.mem_map.mp hd
  rfl
theorem ok_rows (rs : List (List Int)) : ∀ d ∈ rs.map rowD, kqdOk 8 d = true := by
  intro d hd
  obtain ⟨r, _, rfl⟩ := List.mem_map.mp hd
  show (r.map Dat.int).all (kqdOk 7) = true
  rw [List.all_eq_true]
  intro x hx
  obtain ⟨n, _, rfl⟩ := List.mem_map.mp hx
  rfl
theorem ne_ints_same {ns : List Int} (N : News h₀ L s.heap news) (ma : (a, W.listOf xs.toArray ka) ∈ news) (ha : IntsAre xs ns) (mb : (b, W.listOf ys.toArray kb) ∈ news) (hb : IntsAre ys ns) (hu : A.units + 64 < cLine) (h : Q (.bool false) s) :
    wpAny (model prog w) A (compareOp .NotEq (.ref a) (.ref b)) Q E s :=
  ne_intsK (listIn N ma) ha (listIn N mb) hb hu (by rw [decide_eq_true rfl]; exact h)
open Classical in
theorem ne_pairs_same {ps : List (Int × Int)} (N : News h₀ L s.heap news) (ma : (a, W.listOf xs.toArray ka) ∈ news) (ha : PairsAre news xs ps) (mb : (b, W.listOf ys.toArray kb) ∈ news) (hb : PairsAre news ys ps) (hu : A.units + 64 < cLine) (h : Q (.bool false) s) :
    wpAny (model prog w) A (compareOp .NotEq (.ref a) (.ref b)) Q E s :=
  kqd_ne N ma rfl rfl (dat_pairs ha) (fun _ h => h) mb rfl rfl (dat_pairs hb) (fun _ h => h) (ok_pairs ps) (ok_pairs ps) hu (by rw [decide_eq_true rfl]; exact h)
open Classical in
theorem eq_rows_same {rs : List (List Int)} (N : News h₀ L s.heap news) (ma : (a, W.listOf xs.toArray ka) ∈ news) (ha : RowsAre news xs rs) (mb : (b, W.listOf ys.toArray kb) ∈ news) (hb : RowsAre news ys rs) (hu : A.units + 64 < cLine) (h : Q (.bool true) s) :
    wpAny (model prog w) A (compareOp .Eq (.ref a) (.ref b)) Q E s :=
  kqd_eq N ma rfl rfl (dat_rows ha) (fun _ h => h) mb rfl rfl (dat_rows hb) (fun _ h => h) (ok_rows rs) (ok_rows rs) hu (by rw [decide_eq_true rfl]; exact h)
end
end
section
def lineF : Nat → List Int
  | 0 => [1]
  | k + 1 => List.zipWith (fun a b => a + b) ([0] ++ lineF k) (lineF k ++ [0])
theorem lineF_len : ∀ k, (lineF k).length = k + 1
  | 0 => rfl
  | k + 1 => by
    show (List.zipWith _ ([0] ++ lineF k) (lineF k ++ [0])).length = _
    rw [List.length_zipWith, List.length_append, List.length_append, lineF_len k]
    simp only [List.length_cons, List.length_nil]
    omega
def stepsF (H : Int) : Nat := ((quotF H).sum - 1 - (quotF H).length).toNat
def facF (H : Int) : Int := 1 + (H.fdiv 96).fmod 50
def whiF (H : Int) : Int := (H.fdiv 28800).fmod 30 * facF H
def chF (H : Int) : List (Int × Int) := chainF (quotF H) (facF H)
def valF (H : Int) : List Int := valsF (quotF H) (quotF H).length
def numbF (H : Int) : Int := ((playsF (chF H)).map fun p => (findE (playsF (chF H)) p.1).getD 0 * 16 ^ p.1.toNat).sum
def lettersF (H : Int) : List UInt8 := ((lineF (stepsF H)).map fun x => (65 + x).toNat.toUInt8) ++ List.replicate (quotF H).length 65
structure HeapOk (H : Int) : Prop where
  rowq : ∀ q ∈ quotF H, 1 ≤ q ∧ q ≤ 7
  rlen : (quotF H).length ≤ 6
  rne : quotF H ≠ []
  pairs : ∀ p ∈ chF H, 1 ≤ p.2 ∧ p.2 ≤ p.1 ∧ p.1 < 2 ^ 20
  clen : (chF H).length < 20
  seen : ∀ (S : Int) (e : Nat), S = 2 ^ e → ∀ a b r, chF H = (a, b) :: r → a + whiF H ≤ S → S = 1 ∨ S < 2 * (a + whiF H) → ∀ p ∈ chF H, SeenOk (seenR p.1 p.2 S ((H.fdiv 4800).fmod 6) (whiF H) 0) (seenR p.1 p.2 S ((H.fdiv 4800).fmod 6) (whiF H) 1) (seenR p.1 p.2 S ((H.fdiv 4800).fmod 6) (whiF H) 2) p.1 p.2 S ((H.fdiv 4800).fmod 6)
  steps : 0 ≤ (quotF H).sum - 1 - (quotF H).length ∧ (quotF H).sum - 1 - (quotF H).length ≤ 10
  mvs : ∀ i, i < (chF H).length - 1 → movesF ((chF H).dropLast.reverse.getD i (0, 0)) ≤ i + 1
  sz1 : ∀ i k, i < (chF H).length → (wholeF (tabsF (chF H).dropLast.reverse i) k).length < 100
  sz2 : ∀ i, i < (chF H).length → ∀ t ∈ tabsF (chF H).dropLast.reverse i, t.length < 100
  pl : ∀ p ∈ playsF (chF H), 0 ≤ p.1 ∧ p.1 ≤ 9 ∧ 0 ≤ p.2 ∧ p.2 < 2 ^ 20
  pll : (playsF (chF H)).length < 100
  line : ∀ x ∈ lineF (stepsF H), 0 ≤ x ∧ x < 100
  numb : 0 ≤ numbF H ∧ numbF H < 2 ^ 40
  lets : apF 10 (numbF H) = lettersF H
  cnt : sumTo (playsF (chF H)) (playsF (chF H)).length = 2 ^ stepsF H
  head : ∃ a b r, chF H = (a, b) :: r ∧ 0 ≤ b ∧ b ≤ a ∧ a < 2 ^ 20 ∧ runL (a + 1).toNat a b = quotF H
def markF (H : Int) : Str := Txt.item (Str.ofString "|!x,") (H.fmod 4)
theorem mark_ok (H : Int) : (markF H).length = 1 ∧ (Txt.mul (markF H) 3).length = 3 := by
  have key : ∀ k : Fin 4, (Txt.item (Str.ofString "|!x,") ((k : Nat) : Int)).length = 1 ∧ (Txt.mul (Txt.item (Str.ofString "|!x,") ((k : Nat) : Int)) 3).length = 3 := by decide +kernel
  have h : 0 ≤ H.fmod 4 ∧ H.fmod 4 < 4 := by
    rw [Int.fmod_eq_emod_of_nonneg _ (by decide)]; omega
  have e : H.fmod 4 = (((⟨(H.fmod 4).toNat, by omega⟩ : Fin 4) : Nat) : Int) := by
    show _ = (((H.fmod 4).toNat : Nat) : Int)
    omega
  unfold markF
  rw [e]
  exact key _
structure HeapOk2 (H : Int) : Prop where
  mvb : ∀ i, i < (chF H).length → i + mv ((chF H).getD i (0, 0)) < (chF H).length
  vlen : (valF H).length = (chF H).length
  vb : ∀ x ∈ valF H, 0 ≤ x ∧ x < 8
def tabF (HA HB : Int) (i j : Nat) : Int := (apartL ((valF HA).getD i 0) ((valF HB).getD j 0) 3).sum
end
section
section
open PySem.Float64
/-- a finite float and its value, in units of 2^-1074 -/
def FV (x : UInt64) (v : Int) : Prop := (∃ a m e, decode x = .fin a m e) ∧ val x = v
theorem V_hit : ∀ k q : Nat, q ≤ 2 ^ 53 → ∃ t, V t = q * 2 ^ k
  | 0, q, h => ⟨0 * 2 ^ 52 + q, V_at h (.inr rfl)⟩
  | k + 1, q, h => by
    by_cases h2 : 2 ^ 52 ≤ q
    · exact ⟨_, V_at h (.inl h2)⟩
    · obtain ⟨t, ht⟩ := V_hit k (2 * q) (by omega)
      refine ⟨t, ht.trans ?_⟩
      rw [Nat.pow_succ, Nat.mul_comm 2 q, Nat.mul_assoc, Nat.mul_comm 2]
theorem big_lt : (2 : Nat) * (2 ^ 53 * 2 ^ 1200) < (2 ^ 54 - 1) * 2 ^ 2045 := by decide +kernel
theorem right_fin {r : UInt64} {neg : Bool} {W D k : Nat} (h : Right r neg W D) (hD : 0 < D) (hk : k ≤ 1200) (hW : W ≤ D * (2 ^ 53 * 2 ^ k)) :
    ∃ t, FV r (sgn neg (V t)) ∧ ∀ t', PySem.Float64.dist W (D * V t) ≤ PySem.Float64.dist W (D * V t') := by
  obtain ⟨t, rfl, ht, hinf, hn⟩ := h
  have hlt : t < infMag := by
    rcases Nat.lt_or_ge t infMag with h | h
    · exact h
    · have h1 := hinf.mp (Nat.le_antisymm ht h)
      have h2 : D * (2 * (2 ^ 53 * 2 ^ 1200)) < D * ((2 ^ 54 - 1) * 2 ^ 2045) := Nat.mul_lt_mul_of_pos_left big_lt hD
      have h3 : 2 * W ≤ D * (2 * (2 ^ 53 * 2 ^ 1200)) := by
        have h4 : (2 : Nat) ^ k ≤ 2 ^ 1200 := Nat.pow_le_pow_right (by decide) hk
        calc 2 * W ≤ 2 * (D * (2 ^ 53 * 2 ^ k)) := Nat.mul_le_mul_left 2 hW
          _ ≤ 2 * (D * (2 ^ 53 * 2 ^ 1200)) := Nat.mul_le_mul_left 2 (Nat.mul_le_mul_left D (Nat.mul_le_mul_left _ h4))
          _ = D * (2 * (2 ^ 53 * 2 ^ 1200)) := Nat.mul_left_comm ..
      exact absurd (Nat.lt_of_le_of_lt (Nat.le_trans h1 h3) h2) (Nat.lt_irrefl _)
  obtain ⟨m, e, hd, _⟩ := decode_pack neg hlt
  exact ⟨t, ⟨⟨_, _, _, hd⟩, val_pack neg hlt⟩, fun t' => (hn hlt t').1⟩
theorem right_near {r : UInt64} {neg : Bool} {W D k : Nat} (h : Right r neg W D) (hD : 0 < D) (hk : k ≤ 1200) (hW : W ≤ D * (2 ^ 53 * 2 ^ k)) :
    ∃ v, FV r (sgn neg v) ∧ D * v ≤ W + D * 2 ^ k ∧ W ≤ D * v + D * 2 ^ k := by
  obtain ⟨t, hf, hn⟩ := right_fin h hD hk hW
  refine ⟨_, hf, ?_⟩
  have hp : 0 < D * 2 ^ k := Nat.mul_pos hD (Nat.two_pow_pos k)
  have hq : W / (D * 2 ^ k) ≤ 2 ^ 53 := by
    refine Nat.div_le_of_le_mul ?_
    rw [Nat.mul_assoc, Nat.mul_comm (2 ^ k)]
    exact hW
  obtain ⟨t', ht'⟩ := V_hit k _ hq
  have h1 := hn t'
  rw [ht'] at h1
  have h2 : D * (W / (D * 2 ^ k) * 2 ^ k) = D * 2 ^ k * (W / (D * 2 ^ k)) := by
    rw [Nat.mul_comm (W / _), Nat.mul_assoc]
  have h3 := Nat.div_add_mod W (D * 2 ^ k)
  have h4 := Nat.mod_lt W hp
  rw [h2] at h1
  unfold PySem.Float64.dist at h1
  generalize D * 2 ^ k * (W / (D * 2 ^ k)) = y at *
  generalize W % (D * 2 ^ k) = z at *
  generalize D * 2 ^ k = x at *
  generalize D * V t = w at *
  omega
theorem right_exact {r : UInt64} {neg : Bool} {W D k q : Nat} (h : Right r neg W D) (hD : 0 < D) (hk : k ≤ 1200) (hq : q ≤ 2 ^ 53) (hW : W = D * (q * 2 ^ k)) : FV r (sgn neg (q * 2 ^ k)) := by
  obtain ⟨t, hf, hn⟩ := right_fin h hD hk (by rw [hW]; exact Nat.mul_le_mul_left D (Nat.mul_le_mul_right _ hq))
  obtain ⟨t', ht'⟩ := V_hit k _ hq
  have h1 := hn t'
  rw [ht', ← hW] at h1
  unfold PySem.Float64.dist at h1
  have h2 : D * V t = D * (q * 2 ^ k) := by rw [← hW]; omega
  have h3 : V t = q * 2 ^ k := Nat.eq_of_mul_eq_mul_left hD h2
  rw [← h3]
  exact hf
theorem fv_zero (s : Bool) : FV (zero s) 0 := by
  have h : 0 < infMag := by decide
  obtain ⟨m, e, hd, _⟩ := decode_pack s h
  refine ⟨⟨_, _, _, hd⟩, ?_⟩
  show val (pack s 0) = 0
  rw [val_pack s h, V_zero]
  cases s <;> rfl
theorem sgn_self {x : UInt64} {a : Bool} {m : Nat} {e : Int} (h : decode x = .fin a m e) : val x = sgn a (val x).natAbs := by rw [val_natAbs h, val_eq h]
theorem sgn_dec (v : Int) : sgn (decide (v < 0)) v.natAbs = v := by
  unfold sgn
  by_cases h : v < 0
  · simp only [h, decide_true, if_true]; omega
  · simp only [h, decide_false]; simp only [Bool.false_eq_true, if_false]; omega
theorem sgn_ne (a b : Bool) (m n : Nat) : sgn a m * sgn b n = sgn (a != b) (m * n) := by
  unfold sgn
  cases a <;> cases b <;> simp [Int.neg_mul, Int.mul_neg]
theorem fv_add_near {x y : UInt64} {a b : Int} {k : Nat} (hx : FV x a) (hy : FV y b) (hk : k ≤ 1200) (h : (a + b).natAbs ≤ 2 ^ 53 * 2 ^ k) :
    ∃ v, FV (add x y) v ∧ v ≤ a + b + ((2 ^ k : Nat) : Int) ∧ a + b ≤ v + ((2 ^ k : Nat) : Int) := by
  obtain ⟨⟨sa, m, e, hx1⟩, rfl⟩ := hx
  obtain ⟨⟨sb, n, f, hy1⟩, rfl⟩ := hy
  have H := add_right hx1 hy1
  by_cases h0 : val x + val y = 0
  · rw [H.1 h0, h0]
    exact ⟨0, fv_zero _, by omega, by omega⟩
  · obtain ⟨v, hf, h1, h2⟩ := right_near (H.2 h0) (by decide) hk (by rw [Nat.one_mul]; exact h)
    refine ⟨_, hf, ?_⟩
    rw [Nat.one_mul, Nat.one_mul] at h1 h2
    generalize 2 ^ k = u at *
    generalize val x + val y = s at *
    unfold sgn
    by_cases hs : s < 0
    · simp only [hs, decide_true, if_true]; omega
    · simp only [hs, decide_false, Bool.false_eq_true, if_false]; omega
theorem fv_add_exact {x y : UInt64} {a b : Int} {k q : Nat} (hx : FV x a) (hy : FV y b) (hk : k ≤ 1200) (hq : q ≤ 2 ^ 53) (h : (a + b).natAbs = q * 2 ^ k) : FV (add x y) (a + b) := by
  obtain ⟨⟨sa, m, e, hx1⟩, rfl⟩ := hx
  obtain ⟨⟨sb, n, f, hy1⟩, rfl⟩ := hy
  have H := add_right hx1 hy1
  by_cases h0 : val x + val y = 0
  · rw [H.1 h0, h0]
    exact fv_zero _
  · have := right_exact (H.2 h0) (by decide) hk hq (by rw [Nat.one_mul]; exact h)
    rw [← h, sgn_dec] at this
    exact this
theorem fv_neg {y : UInt64} {b : Int} (hy : FV y b) : FV (neg y) (-b) := by
  obtain ⟨⟨sb, n, f, hy1⟩, rfl⟩ := hy
  exact ⟨⟨_, _, _, neg_decode hy1⟩, neg_val hy1⟩
theorem fv_sub_near {x y : UInt64} {a b : Int} {k : Nat} (hx : FV x a) (hy : FV y b) (hk : k ≤ 1200) (h : (a - b).natAbs ≤ 2 ^ 53 * 2 ^ k) :
    ∃ v, FV (sub x y) v ∧ v ≤ a - b + ((2 ^ k : Nat) : Int) ∧ a - b ≤ v + ((2 ^ k : Nat) : Int) := by
  have := fv_add_near hx (fv_neg hy) hk (by rw [← Int.sub_eq_add_neg]; exact h)
  rw [← Int.sub_eq_add_neg] at this
  unfold PySem.Float64.sub
  exact this
theorem fv_sub_exact {x y : UInt64} {a b : Int} {k q : Nat} (hx : FV x a) (hy : FV y b) (hk : k ≤ 1200) (hq : q ≤ 2 ^ 53) (h : (a - b).natAbs = q * 2 ^ k) : FV (sub x y) (a - b) := by
  have := fv_add_exact hx (fv_neg hy) hk hq (by rw [← Int.sub_eq_add_neg]; exact h)
  rw [← Int.sub_eq_add_neg] at this
  unfold PySem.Float64.sub
  exact this
theorem sgn_near {s : Bool} {W D v u : Nat} (h1 : D * v ≤ W + D * u) (h2 : W ≤ D * v + D * u) : (D : Int) * sgn s v ≤ sgn s W + (D : Int) * u ∧ sgn s W ≤ (D : Int) * sgn s v + (D : Int) * u := by
  have e1 : (D : Int) * (v : Int) = ((D * v : Nat) : Int) := by simp
  have e2 : (D : Int) * (u : Int) = ((D * u : Nat) : Int) := by simp
  unfold sgn
  cases s
  · simp only [Bool.false_eq_true, if_false]
    rw [e1, e2]; omega
  · simp only [if_true]
    rw [Int.mul_neg, e1, e2]; omega
theorem fv_mul_near {x y : UInt64} {a b : Int} {k : Nat} (hx : FV x a) (hy : FV y b) (hk : k ≤ 1200) (h : (a * b).natAbs ≤ 2 ^ 1074 * (2 ^ 53 * 2 ^ k)) :
    ∃ v, FV (mul x y) v ∧ ((2 ^ 1074 : Nat) : Int) * v ≤ a * b + ((2 ^ 1074 : Nat) : Int) * ((2 ^ k : Nat) : Int) ∧ a * b ≤ ((2 ^ 1074 : Nat) : Int) * v + ((2 ^ 1074 : Nat) : Int) * ((2 ^ k : Nat) : Int) := by
  obtain ⟨⟨sa, m, e, hx1⟩, rfl⟩ := hx
  obtain ⟨⟨sb, n, f, hy1⟩, rfl⟩ := hy
  obtain ⟨v, hf, h1, h2⟩ := right_near (mul_right hx1 hy1) (Nat.two_pow_pos _) hk (by rw [← Int.natAbs_mul]; exact h)
  refine ⟨_, hf, ?_⟩
  have e1 : val x * val y = sgn (sa != sb) ((val x).natAbs * (val y).natAbs) := by
    rw [← sgn_ne, ← sgn_self hx1, ← sgn_self hy1]
  rw [e1]
  exact sgn_near h1 h2
theorem fv_div_near {x y : UInt64} {a b : Int} {k : Nat} (hx : FV x a) (hy : FV y b) (hb : 0 < b) (hk : k ≤ 1200) (h : a.natAbs * 2 ^ 1074 ≤ b.natAbs * (2 ^ 53 * 2 ^ k)) :
    ∃ v, FV (div x y) v ∧ b * v ≤ a * ((2 ^ 1074 : Nat) : Int) + b * ((2 ^ k : Nat) : Int) ∧ a * ((2 ^ 1074 : Nat) : Int) ≤ b * v + b * ((2 ^ k : Nat) : Int) := by
  obtain ⟨⟨sa, m, e, hx1⟩, rfl⟩ := hx
  obtain ⟨⟨sb, n, f, hy1⟩, hyv⟩ := hy
  have hn : n ≠ 0 := by
    rintro rfl
    have := val_eq hy1
    rw [Nat.zero_mul] at this
    unfold sgn at this
    cases sb <;> simp at this <;> omega
  have hsb : sb = false := by
    cases sb
    · rfl
    · have := val_eq hy1
      unfold sgn at this
      rw [if_pos rfl] at this
      omega
  subst hsb
  obtain ⟨v, hf, h1, h2⟩ := right_near (div_right hx1 hy1 hn) (by omega) hk (by rw [hyv]; exact h)
  refine ⟨_, hf, ?_⟩
  have e1 : val x * ((2 ^ 1074 : Nat) : Int) = sgn (sa != false) ((val x).natAbs * 2 ^ 1074) := by
    rw [sgn_mul, Bool.bne_false, ← sgn_self hx1]
  have e2 : (((val y).natAbs : Nat) : Int) = b := by omega
  rw [e1]
  have := sgn_near (s := (sa != false)) h1 h2
  rw [e2] at this
  exact this
theorem fv_div_exact {x y : UInt64} {a b c : Int} {k q : Nat} (hx : FV x a) (hy : FV y b) (hb : 0 < b) (hk : k ≤ 1200) (hq : q ≤ 2 ^ 53) (h : c.natAbs = q * 2 ^ k) (hc : a * ((2 ^ 1074 : Nat) : Int) = b * c) : FV (div x y) c := by
  obtain ⟨⟨sa, m, e, hx1⟩, rfl⟩ := hx
  obtain ⟨⟨sb, n, f, hy1⟩, hyv⟩ := hy
  have hn : n ≠ 0 := by
    rintro rfl
    have := val_eq hy1
    rw [Nat.zero_mul] at this
    unfold sgn at this
    cases sb <;> simp at this <;> omega
  have hsb : sb = false := by
    cases sb
    · rfl
    · have := val_eq hy1
      unfold sgn at this
      rw [if_pos rfl] at this
      omega
  subst hsb
  have h5 : (val x).natAbs * 2 ^ 1074 = (val y).natAbs * (q * 2 ^ k) := by
    have := congrArg Int.natAbs hc
    rw [Int.natAbs_mul, Int.natAbs_mul, Int.natAbs_natCast, h] at this
    rw [hyv]; exact this
  have hf := right_exact (div_right hx1 hy1 hn) (by omega) hk hq h5
  have e1 : val x * ((2 ^ 1074 : Nat) : Int) = sgn (sa != false) ((val x).natAbs * 2 ^ 1074) := by
    rw [sgn_mul, Bool.bne_false, ← sgn_self hx1]
  have e2 : (((val y).natAbs : Nat) : Int) = b := by omega
  have e3 : sgn (sa != false) ((val y).natAbs * (q * 2 ^ k)) = b * sgn (sa != false) (q * 2 ^ k) := by
    rw [Nat.mul_comm, sgn_mul, Int.mul_comm, e2]
  rw [e1, h5, e3] at hc
  rw [← Int.eq_of_mul_eq_mul_left (by omega) hc]
  exact hf
theorem fv_int {i : Int} {k q : Nat} (hk : k ≤ 126) (hq : q ≤ 2 ^ 53) (h : i.natAbs = q * 2 ^ k) : FV (ofInt i) (i * ((2 ^ 1074 : Nat) : Int)) := by
  have := right_exact (k := k + 1074) (ofInt_right i) (by decide) (by omega) hq (by rw [h, Nat.pow_add, Nat.one_mul, Nat.mul_assoc])
  rw [Nat.pow_add, ← Nat.mul_assoc, ← h, sgn_mul, sgn_dec] at this
  exact this
theorem fv_cmp {x y : UInt64} {a b : Int} (hx : FV x a) (hy : FV y b) : cmp x y = some (compare a b) := by
  obtain ⟨⟨sa, m, e, hx1⟩, rfl⟩ := hx
  obtain ⟨⟨sb, n, f, hy1⟩, rfl⟩ := hy
  exact cmp_right hx1 hy1
theorem cmp_beq_lt (a b : Int) : (some (compare a b) == some Ordering.lt) = decide (a < b) := by
  rcases Int.lt_trichotomy a b with h | h | h
  · rw [Int.compare_eq_lt.mpr h]; simp [h]
  · subst h; simp
  · rw [Int.compare_eq_gt.mpr h]; simp; omega
theorem cmp_beq_eq (a b : Int) : (some (compare a b) == some Ordering.eq) = decide (a = b) := by
  rcases Int.lt_trichotomy a b with h | h | h
  · rw [Int.compare_eq_lt.mpr h]; simp; omega
  · subst h; simp
  · rw [Int.compare_eq_gt.mpr h]; simp; omega
theorem fv_zero_no {x : UInt64} {a : Int} (hx : FV x a) (h : a ≠ 0) : isZero x = false := by
  obtain ⟨⟨sa, m, e, hx1⟩, rfl⟩ := hx
  unfold isZero
  rw [hx1]
  cases m with
  | zero => exfalso; apply h; rw [val_eq hx1, Nat.zero_mul]; cases sa <;> rfl
  | succ m => rfl
theorem fv_fin {x : UInt64} {a : Int} (hx : FV x a) : isFinite x = true := by
  obtain ⟨⟨sa, m, e, hx1⟩, rfl⟩ := hx
  unfold isFinite
  rw [hx1]
theorem shift_frac (m : Nat) (e : Int) (he : -1074 ≤ e) : m * 2 ^ (e + 1074).toNat * (shift m 1 e).2 = (shift m 1 e).1 * 2 ^ 1074 := (shift_one m e 1074 he).symm
theorem near_far {p d dr dj : Nat} (n1 : PySem.Float64.dist p dr ≤ PySem.Float64.dist p dj) (b1 : 2 * p < 2 * dj + d) (b2 : 2 * dj < 2 * p + d) : ¬ dr + d ≤ dj ∧ ¬ dj + d ≤ dr := by
  unfold PySem.Float64.dist at n1
  omega
/-- the nearest int -/
theorem fv_nearest {x : UInt64} {v n : Int} (hx : FV x v) (h1 : 2 * (v - n * ((2 ^ 1074 : Nat) : Int)) < ((2 ^ 1074 : Nat) : Int)) (h2 : 2 * (n * ((2 ^ 1074 : Nat) : Int) - v) < ((2 ^ 1074 : Nat) : Int)) : PySem.Flt.toInt nearestOf x = n := by
  obtain ⟨⟨sa, m, e, hx1⟩, rfl⟩ := hx
  rw [PySem.Flt.toInt_fin hx1]
  have he := decode_ge hx1
  have hv := val_eq hx1
  have hs := shift_frac m e he
  have hd := shift_pos m 1 e (by decide)
  show sgn sa (halfEven (shift m 1 e).1 (shift m 1 e).2) = n
  generalize (shift m 1 e).1 = p at *
  generalize (shift m 1 e).2 = d at *
  have near := halfEven_nearest p d hd
  generalize halfEven p d = r at *
  generalize m * 2 ^ (e + 1074).toNat = M at *
  have hU : 0 < (2 : Nat) ^ 1074 := Nat.two_pow_pos _
  generalize (2 : Nat) ^ 1074 = U at *
  rw [hv] at h1 h2
  clear hx1 hv he
  -- the sign of n agrees, its size is near
  have key : ∀ j : Nat, 2 * (M : Int) - 2 * ((j : Int) * (U : Int)) < U → 2 * ((j : Int) * (U : Int)) - 2 * (M : Int) < U → r = j := by
    intro j k1 k2
    have n1 := near j
    have a1 : (p : Int) * U = M * d := by
      have : ((M * d : Nat) : Int) = ((p * U : Nat) : Int) := by rw [hs]
      simp only [Int.natCast_mul] at this
      exact this.symm
    have b1 : 2 * ((p : Int) - d * j) < d := by
      have : (2 * ((p : Int) - d * j)) * U < d * U := by
        have : (2 * (M : Int) - 2 * ((j : Int) * (U : Int))) * d < U * d := Int.mul_lt_mul_of_pos_right k1 (by omega)
        grind
      exact Int.lt_of_mul_lt_mul_right this (by omega)
    have b2 : 2 * ((d : Int) * j - p) < d := by
      have : (2 * ((d : Int) * j - p)) * U < d * U := by
        have : (2 * ((j : Int) * (U : Int)) - 2 * (M : Int)) * d < U * d := Int.mul_lt_mul_of_pos_right k2 (by omega)
        grind
      exact Int.lt_of_mul_lt_mul_right this (by omega)
    have c1 : ((d * j : Nat) : Int) = (d : Int) * j := by simp
    obtain ⟨f1, f2⟩ := near_far (d := d) n1 (by omega) (by omega)
    rcases Nat.lt_trichotomy r j with h | h | h
    · exact absurd (by rw [← Nat.mul_succ]; exact Nat.mul_le_mul_left d h) f1
    · exact h
    · exact absurd (by rw [← Nat.mul_succ]; exact Nat.mul_le_mul_left d h) f2
  unfold sgn at h1 h2 ⊢
  have hM : (0 : Int) ≤ (M : Int) := by omega
  cases sa
  · simp only [Bool.false_eq_true, if_false] at h1 h2 ⊢
    have hn : 0 ≤ n := by
      rcases Int.lt_or_le n 0 with h | h
      · exfalso
        have : n * (U : Int) ≤ -1 * U := Int.mul_le_mul_of_nonneg_right (by omega) (by omega)
        omega
      · exact h
    have := key n.toNat (by rw [Int.toNat_of_nonneg hn]; omega) (by rw [Int.toNat_of_nonneg hn]; omega)
    omega
  · simp only [if_true] at h1 h2 ⊢
    have hn : n ≤ 0 := by
      rcases Int.lt_or_le 0 n with h | h
      · exfalso
        have : 1 * (U : Int) ≤ n * U := Int.mul_le_mul_of_nonneg_right (by omega) (by omega)
        omega
      · exact h
    have e1 : ((-n).toNat : Int) = -n := by omega
    have := key (-n).toNat (by rw [e1, Int.neg_mul]; omega) (by rw [e1, Int.neg_mul]; omega)
    omega
end
end
section
section
open PySem.Float64
def U₀ : Int := ((2 ^ 1074 : Nat) : Int)
def u₀ : Int := ((2 ^ 1022 : Nat) : Int)
theorem U₀_eq : U₀ = 4503599627370496 * u₀ := by decide +kernel
theorem u₀_pos : 0 < u₀ := by decide +kernel
theorem U₀_pos : 0 < U₀ := by decide +kernel
theorem cu_eq (j : Nat) : ((2 ^ j : Nat) : Int) * u₀ = ((2 ^ (1022 + j) : Nat) : Int) := by
  unfold u₀
  rw [Nat.pow_add, Int.natCast_mul, Int.mul_comm]
theorem cast_53 (z : Nat) : ((2 ^ 53 * z : Nat) : Int) = 9007199254740992 * (z : Int) := by
  rw [Int.natCast_mul]; rfl
theorem add_near {x y : UInt64} {a b c : Int} {j : Nat} (hx : FV x a) (hy : FV y b) (hj : j ≤ 100) (hc : c = ((2 ^ j : Nat) : Int)) (h1 : a + b ≤ 9007199254740992 * (c * u₀)) (h2 : -(9007199254740992 * (c * u₀)) ≤ a + b) :
    ∃ v, FV (add x y) v ∧ v ≤ a + b + c * u₀ ∧ a + b ≤ v + c * u₀ := by
  subst hc
  rw [cu_eq] at *
  refine fv_add_near (k := 1022 + j) hx hy (by omega) ?_
  have := cast_53 (2 ^ (1022 + j))
  generalize 2 ^ (1022 + j) = z at *
  omega
theorem sub_near {x y : UInt64} {a b c : Int} {j : Nat} (hx : FV x a) (hy : FV y b) (hj : j ≤ 100) (hc : c = ((2 ^ j : Nat) : Int)) (h1 : a - b ≤ 9007199254740992 * (c * u₀)) (h2 : -(9007199254740992 * (c * u₀)) ≤ a - b) :
    ∃ v, FV (sub x y) v ∧ v ≤ a - b + c * u₀ ∧ a - b ≤ v + c * u₀ := by
  subst hc
  rw [cu_eq] at *
  refine fv_sub_near (k := 1022 + j) hx hy (by omega) ?_
  have := cast_53 (2 ^ (1022 + j))
  generalize 2 ^ (1022 + j) = z at *
  omega
/-- times a number b, as it stands in units -/
theorem mul_near {x y : UInt64} {a b n c : Int} {j : Nat} (hx : FV x a) (hy : FV y b) (hj : j ≤ 100) (hc : c = ((2 ^ j : Nat) : Int)) (hn : a * b = U₀ * n) (h1 : n ≤ 9007199254740992 * (c * u₀)) (h2 : -(9007199254740992 * (c * u₀)) ≤ n) :
    ∃ v, FV (mul x y) v ∧ v ≤ n + c * u₀ ∧ n ≤ v + c * u₀ := by
  subst hc
  rw [cu_eq] at *
  have hU : U₀ = ((2 ^ 1074 : Nat) : Int) := rfl
  obtain ⟨v, hf, g1, g2⟩ := fv_mul_near (k := 1022 + j) hx hy (by omega) (by
    rw [hn, Int.natAbs_mul]
    have e : U₀.natAbs = 2 ^ 1074 := Int.natAbs_natCast _
    rw [e]
    refine Nat.mul_le_mul_left _ ?_
    have := cast_53 (2 ^ (1022 + j))
    generalize 2 ^ (1022 + j) = z at *
    omega)
  rw [← hU, hn, ← Int.mul_add] at g1
  rw [← hU, hn, ← Int.mul_add] at g2
  exact ⟨v, hf, Int.le_of_mul_le_mul_left g1 U₀_pos, Int.le_of_mul_le_mul_left g2 U₀_pos⟩
theorem div_near {x y : UInt64} {a b c : Int} {j : Nat} (hx : FV x a) (hy : FV y b) (hb : 0 < b) (hj : j ≤ 100) (hc : c = ((2 ^ j : Nat) : Int)) (h1 : a * U₀ ≤ b * (9007199254740992 * (c * u₀))) (h2 : -(b * (9007199254740992 * (c * u₀))) ≤ a * U₀) :
    ∃ v, FV (div x y) v ∧ b * v ≤ a * U₀ + b * (c * u₀) ∧ a * U₀ ≤ b * v + b * (c * u₀) := by
  subst hc
  rw [cu_eq] at *
  refine fv_div_near (k := 1022 + j) hx hy hb (by omega) ?_
  have := cast_53 (2 ^ (1022 + j))
  have hU : U₀ = ((2 ^ 1074 : Nat) : Int) := rfl
  have e : ((a.natAbs * 2 ^ 1074 : Nat) : Int) = (a.natAbs : Int) * U₀ := by rw [Int.natCast_mul, hU]
  have e2 : ((b.natAbs * (2 ^ 53 * 2 ^ (1022 + j)) : Nat) : Int) = b * (9007199254740992 * ((2 ^ (1022 + j) : Nat) : Int)) := by
    rw [Int.natCast_mul, this]
    congr 1
    omega
  have e3 : (a.natAbs : Int) * U₀ ≤ b * (9007199254740992 * ((2 ^ (1022 + j) : Nat) : Int)) := by
    by_cases h : a < 0
    · have : (a.natAbs : Int) = -a := by omega
      rw [this, Int.neg_mul]
      omega
    · have : (a.natAbs : Int) = a := by omega
      rw [this]
      exact h1
  omega
theorem fv_of_fin {x : UInt64} {v : Int} (h : isFinite x = true) (hv : val x = v) : FV x v := by
  refine ⟨?_, hv⟩
  unfold isFinite at h
  split at h
  · exact ⟨_, _, _, by assumption⟩
  · cases h
theorem fv_one : FV 4607182418800017408 U₀ := fv_of_fin (by decide +kernel) (by decide +kernel)
theorem fv_two : FV 4611686018427387904 (2 * U₀) := fv_of_fin (by decide +kernel) (by decide +kernel)
theorem fv_four : FV 4616189618054758400 (4 * U₀) := fv_of_fin (by decide +kernel) (by decide +kernel)
theorem fv_six : FV 4618441417868443648 (6 * U₀) := fv_of_fin (by decide +kernel) (by decide +kernel)
theorem fv_half {h : Int} (e : U₀ = 2 * h) : FV 4602678819172646912 h := by
  have : h = ((2 ^ 1073 : Nat) : Int) := by
    have : U₀ = 2 * ((2 ^ 1073 : Nat) : Int) := by decide +kernel
    omega
  rw [this]
  exact fv_of_fin (by decide +kernel) (by decide +kernel)
theorem fv_ofInt {i : Int} (h0 : 0 ≤ i) (h1 : i < 2 ^ 50) : FV (ofInt i) (i * U₀) := fv_int (k := 0) (q := i.toNat) (by decide) (by omega) (by omega)
theorem exp_split {e g : Int} (h1 : g ≤ e) (h2 : -1074 ≤ g) : (e - g).toNat + (g + 1074).toNat = (e + 1074).toNat := by omega
theorem fv_fmod {x y : UInt64} {v : Int} (hx : FV x v) (hy : FV y U₀) (h1 : v < U₀) (h2 : -U₀ < v) : FV (fmod x y) v := by
  obtain ⟨⟨sa, m, e, hx1⟩, rfl⟩ := hx
  obtain ⟨⟨sb, n, f, hy1⟩, hyv⟩ := hy
  have hem := decode_le hx1
  have he := decode_ge hx1
  have hf := decode_ge hy1
  have hv := val_natAbs hx1
  have hw := val_natAbs hy1
  rw [hyv] at hw
  have hUU : U₀.natAbs = 2 ^ 1074 := Int.natAbs_natCast _
  have hn : n ≠ 0 := by
    rintro rfl
    rw [Nat.zero_mul] at hw
    have := U₀_pos
    omega
  have hg : -1074 ≤ min e f := Int.le_min.mpr ⟨he, hf⟩
  have hlt : m * 2 ^ (e + 1074).toNat < n * 2 ^ (f + 1074).toNat := by omega
  have e1 : m * 2 ^ (e - min e f).toNat * 2 ^ (min e f + 1074).toNat = m * 2 ^ (e + 1074).toNat := by
    rw [Nat.mul_assoc, ← Nat.pow_add, exp_split (Int.min_le_left e f) hg]
  have e2 : n * 2 ^ (f - min e f).toNat * 2 ^ (min e f + 1074).toNat = n * 2 ^ (f + 1074).toNat := by
    rw [Nat.mul_assoc, ← Nat.pow_add, exp_split (Int.min_le_right e f) hg]
  have hlt2 : m * 2 ^ (e - min e f).toNat < n * 2 ^ (f - min e f).toNat := by
    rw [← e1, ← e2] at hlt
    exact Nat.lt_of_mul_lt_mul_right hlt
  have hm : fmod x y = ofBin sa (m * 2 ^ (e - min e f).toNat) (min e f) := by
    unfold fmod
    rw [hx1, hy1]
    show (if (n == 0) = true then _ else _) = _
    rw [if_neg (by simpa using hn)]
    show ofBin sa ((m * 2 ^ (e - min e f).toNat) % (n * 2 ^ (f - min e f).toNat)) (min e f) = _
    rw [Nat.mod_eq_of_lt hlt2]
  have hr := ofBin_right (neg := sa) (M := m * 2 ^ (e - min e f).toNat) (g := min e f) hg
  rw [e1] at hr
  rw [hm]
  by_cases hm0 : m = 0
  · have := right_exact (k := 0) (q := 0) hr (by decide) (by decide) (by decide) (by rw [hm0]; simp)
    rw [Nat.zero_mul] at this
    have e3 : val x = 0 := by rw [val_eq hx1, hm0, Nat.zero_mul]; cases sa <;> rfl
    rw [e3]
    have e4 : sgn sa 0 = 0 := by cases sa <;> rfl
    rw [e4] at this
    exact this
  · have hk : (e + 1074).toNat ≤ 1200 := by
      have h3 : 2 ^ (e + 1074).toNat < 2 ^ 1074 := by
        have : 2 ^ (e + 1074).toNat ≤ m * 2 ^ (e + 1074).toNat := Nat.le_mul_of_pos_left _ (by omega)
        omega
      have := (Nat.pow_lt_pow_iff_right (by decide)).mp h3
      omega
    have := right_exact (k := (e + 1074).toNat) (q := m) hr (by decide) hk (by omega) (by rw [Nat.one_mul])
    rw [← val_eq hx1] at this
    exact this
theorem lt_zero {x : UInt64} {v : Int} (hx : FV x v) : lt x (zero false) = decide (v < 0) := by
  unfold lt
  rw [fv_cmp hx (fv_zero false), cmp_beq_lt]
theorem divmod_pos {x : UInt64} {v : Int} (hx : FV x v) (h0 : 0 < v) (h1 : v < U₀) : FV (divmod x 4607182418800017408).2 v := by
  have hm := fv_fmod hx fv_one h1 (by have := U₀_pos; omega)
  have hz := fv_zero_no hm (by omega)
  have l1 := lt_zero hm
  have l2 := lt_zero fv_one
  have hU := U₀_pos
  have e : (divmod x 4607182418800017408).2 = fmod x 4607182418800017408 := by
    unfold divmod
    simp only [hz, l1, l2, show decide (v < 0) = false from decide_eq_false (by omega), show decide (U₀ < 0) = false from decide_eq_false (by omega), bne_self_eq_false, Bool.false_eq_true, if_false]
  rw [e]
  exact hm
theorem divmod_neg {x : UInt64} {v : Int} (hx : FV x v) (h0 : v < 0) (h1 : -U₀ < v) : (divmod x 4607182418800017408).2 = add (fmod x 4607182418800017408) 4607182418800017408 ∧ FV (fmod x 4607182418800017408) v := by
  have hU := U₀_pos
  have hm := fv_fmod hx fv_one (by omega) h1
  have hz := fv_zero_no hm (by omega)
  have l1 := lt_zero hm
  have l2 := lt_zero fv_one
  refine ⟨?_, hm⟩
  unfold divmod
  simp only [hz, l1, l2, show decide (v < 0) = true from decide_eq_true (by omega), show decide (U₀ < 0) = false from decide_eq_false (by omega), Bool.false_eq_true, if_false, Bool.false_bne, if_true]
theorem fLt_val {x y : UInt64} {a b : Int} (hx : FV x a) (hy : FV y b) : fLt x y = decide (a < b) := by
  unfold fLt
  rw [fv_cmp hx hy, cmp_beq_lt]
theorem fEq_val {x y : UInt64} {a b : Int} (hx : FV x a) (hy : FV y b) : fEq x y = decide (a = b) := by
  unfold fEq
  rw [fv_cmp hx hy, cmp_beq_eq]
theorem fLe_val {x y : UInt64} {a b : Int} (hx : FV x a) (hy : FV y b) : fLe x y = decide (a ≤ b) := by
  unfold fLe
  rw [fv_cmp hx hy, cmp_beq_eq, cmp_beq_lt, ← Bool.decide_or]
  exact decide_eq_decide.mpr (by omega)
theorem fmax3_val {x y z : UInt64} {a b c M : Int} (hx : FV x a) (hy : FV y b) (hz : FV z c) (h1 : a ≤ M) (h2 : b ≤ M) (h3 : c ≤ M) (h : a = M ∨ b = M ∨ c = M) : FV (fmax3 x y z) M := by
  unfold fmax3
  rw [fLt_val hx hy, fLt_val hy hz, fLt_val hx hz]
  by_cases g1 : a < b
  · rw [if_pos (decide_eq_true g1)]
    by_cases g2 : b < c
    · rw [if_pos (decide_eq_true g2), show M = c by omega]; exact hz
    · rw [if_neg (by simpa using g2), show M = b by omega]; exact hy
  · rw [if_neg (by simpa using g1)]
    by_cases g2 : a < c
    · rw [if_pos (decide_eq_true g2), show M = c by omega]; exact hz
    · rw [if_neg (by simpa using g2), show M = a by omega]; exact hx
theorem fmin3_val {x y z : UInt64} {a b c M : Int} (hx : FV x a) (hy : FV y b) (hz : FV z c) (h1 : M ≤ a) (h2 : M ≤ b) (h3 : M ≤ c) (h : a = M ∨ b = M ∨ c = M) : FV (fmin3 x y z) M := by
  unfold fmin3
  rw [fLt_val hy hx, fLt_val hz hy, fLt_val hz hx]
  by_cases g1 : b < a
  · rw [if_pos (decide_eq_true g1)]
    by_cases g2 : c < b
    · rw [if_pos (decide_eq_true g2), show M = c by omega]; exact hz
    · rw [if_neg (by simpa using g2), show M = b by omega]; exact hy
  · rw [if_neg (by simpa using g1)]
    by_cases g2 : c < a
    · rw [if_pos (decide_eq_true g2), show M = c by omega]; exact hz
    · rw [if_neg (by simpa using g2), show M = a by omega]; exact hx
end
end
section
section
open PySem.Float64
variable {r g b : UInt64} {yr yg yb m w S K : Int}
structure Lamps (r g b : UInt64) (yr yg yb m w S K : Int) : Prop where
  pow : ∃ k : Nat, k ≤ 1200 ∧ K = ((2 ^ k : Nat) : Int)
  hU : U₀ = 2 * (S * K)
  s1 : S < 2 ^ 30
  w0 : 0 ≤ w
  m0 : 1 ≤ m
  top : w + m ≤ S
  r0 : 0 ≤ yr
  g0 : 0 ≤ yg
  b0 : 0 ≤ yb
  r1 : yr ≤ m
  g1 : yg ≤ m
  b1 : yb ≤ m
  mx : yr = m ∨ yg = m ∨ yb = m
  mn : yr = 0 ∨ yg = 0 ∨ yb = 0
  hr : FV r (2 * (w + yr) * K)
  hg : FV g (2 * (w + yg) * K)
  hb : FV b (2 * (w + yb) * K)
theorem Lamps.K0 (h : Lamps r g b yr yg yb m w S K) : 0 < K := by
  obtain ⟨k, _, rfl⟩ := h.pow
  exact Int.natCast_pos.mpr (Nat.two_pow_pos k)
theorem Lamps.form (h : Lamps r g b yr yg yb m w S K) {c : Int} : ∃ k : Nat, k ≤ 1200 ∧ (c * K).natAbs = c.natAbs * 2 ^ k := by
  obtain ⟨k, hk, rfl⟩ := h.pow
  exact ⟨k, hk, by rw [Int.natAbs_mul, Int.natAbs_natCast]⟩
theorem Lamps.add (h : Lamps r g b yr yg yb m w S K) {x y : UInt64} {a c d : Int} (hx : FV x (a * K)) (hy : FV y (c * K)) (hd : d = a + c) (h1 : d ≤ 2 ^ 52) (h2 : -2 ^ 52 ≤ d) : FV (PySem.Float64.add x y) (d * K) := by
  subst hd
  obtain ⟨k, hk, hf⟩ := h.form (c := a + c)
  rw [Int.add_mul] at *
  exact fv_add_exact hx hy hk (by omega) hf
theorem Lamps.sub (h : Lamps r g b yr yg yb m w S K) {x y : UInt64} {a c d : Int} (hx : FV x (a * K)) (hy : FV y (c * K)) (hd : d = a - c) (h1 : d ≤ 2 ^ 52) (h2 : -2 ^ 52 ≤ d) : FV (PySem.Float64.sub x y) (d * K) := by
  subst hd
  obtain ⟨k, hk, hf⟩ := h.form (c := a - c)
  rw [Int.sub_mul] at *
  exact fv_sub_exact hx hy hk (by omega) hf
theorem Lamps.max (h : Lamps r g b yr yg yb m w S K) : FV (fmax3 r g b) (2 * (w + m) * K) := by
  have hK := h.K0
  have le : ∀ y, y ≤ m → 2 * (w + y) * K ≤ 2 * (w + m) * K := fun y hy => Int.mul_le_mul_of_nonneg_right (by omega) (by omega)
  refine fmax3_val h.hr h.hg h.hb (le _ h.r1) (le _ h.g1) (le _ h.b1) ?_
  rcases h.mx with e | e | e
  · exact .inl (by rw [e])
  · exact .inr (.inl (by rw [e]))
  · exact .inr (.inr (by rw [e]))
theorem Lamps.min (h : Lamps r g b yr yg yb m w S K) : FV (fmin3 r g b) (2 * w * K) := by
  have hK := h.K0
  have le : ∀ y, 0 ≤ y → 2 * w * K ≤ 2 * (w + y) * K := fun y hy => Int.mul_le_mul_of_nonneg_right (by omega) (by omega)
  refine fmin3_val h.hr h.hg h.hb (le _ h.r0) (le _ h.g0) (le _ h.b0) ?_
  rcases h.mn with e | e | e
  · exact .inl (by rw [e, Int.add_zero])
  · exact .inr (.inl (by rw [e, Int.add_zero]))
  · exact .inr (.inr (by rw [e, Int.add_zero]))
theorem Lamps.sum (h : Lamps r g b yr yg yb m w S K) : FV (hlsSum r g b) (2 * (2 * w + m) * K) := by
  have := h.top; have := h.s1; have := h.w0; have := h.m0
  exact h.add h.max h.min (by omega) (by omega) (by omega)
theorem Lamps.range (h : Lamps r g b yr yg yb m w S K) : FV (hlsRange r g b) (2 * m * K) := by
  have := h.top; have := h.s1; have := h.w0; have := h.m0
  exact h.sub h.max h.min (by omega) (by omega) (by omega)
theorem Lamps.two (h : Lamps r g b yr yg yb m w S K) : 2 * U₀ = 4 * S * K := by rw [h.hU]; grind
theorem Lamps.light (h : Lamps r g b yr yg yb m w S K) : FV (hlsL r g b) ((2 * w + m) * K) := by
  have := h.top; have := h.s1; have := h.w0; have := h.m0
  have hU := U₀_pos
  obtain ⟨k, hk, hf⟩ := h.form (c := 2 * w + m)
  refine fv_div_exact h.sum fv_two (by omega) hk (by omega) hf ?_
  show 2 * (2 * w + m) * K * U₀ = _
  grind
theorem Lamps.rest (h : Lamps r g b yr yg yb m w S K) : FV (hlsRest r g b) (2 * (2 * S - 2 * w - m) * K) := by
  have := h.top; have := h.s1; have := h.w0; have := h.m0
  have h2 := fv_two
  rw [h.two] at h2
  exact h.sub (h.sub h2 h.max rfl (by omega) (by omega)) h.min (by omega) (by omega) (by omega)
def zz (m w S : Int) : Int := if 2 * w + m ≤ S then 2 * w + m else 2 * S - 2 * w - m
theorem Lamps.zz0 (h : Lamps r g b yr yg yb m w S K) : m ≤ zz m w S ∧ zz m w S ≤ S := by
  have := h.top; have := h.s1; have := h.w0; have := h.m0
  unfold zz
  split <;> omega
theorem Lamps.le_half (h : Lamps r g b yr yg yb m w S K) : fLe (hlsL r g b) 4602678819172646912 = decide (2 * w + m ≤ S) := by
  rw [fLe_val h.light (fv_half h.hU)]
  exact decide_eq_decide.mpr (Int.mul_le_mul_right h.K0)
theorem Lamps.share (h : Lamps r g b yr yg yb m w S K) : ∃ v, FV (hlsS r g b) v ∧ zz m w S * v ≤ m * U₀ + zz m w S * u₀ ∧ m * U₀ ≤ zz m w S * v + zz m w S * u₀ := by
  have hz := h.zz0
  have hm0 := h.m0
  have hK := h.K0
  have hu := u₀_pos
  have hU := U₀_eq
  have e : ∃ y, hlsS r g b = PySem.Float64.div (hlsRange r g b) y ∧ FV y (2 * zz m w S * K) := by
    unfold hlsS
    rw [h.le_half]
    unfold zz
    by_cases hc : 2 * w + m ≤ S
    · rw [if_pos (decide_eq_true hc), if_pos hc]
      exact ⟨_, rfl, h.sum⟩
    · rw [if_neg (by simpa using hc), if_neg hc]
      exact ⟨_, rfl, h.rest⟩
  obtain ⟨y, e, hy⟩ := e
  rw [e]
  generalize zz m w S = Z at *
  have hmu : 0 ≤ m * U₀ := Int.mul_nonneg (by omega) (by omega)
  have hzu : m * U₀ ≤ Z * U₀ := Int.mul_le_mul_of_nonneg_right hz.1 (by omega)
  have hb : 0 < 2 * Z * K := Int.mul_pos (by omega) hK
  obtain ⟨v, hf, g1, g2⟩ := div_near (c := 1) (j := 0) h.range hy hb (by decide) rfl
    (by
      have : 2 * K * (m * U₀) ≤ 2 * K * (2 * (Z * U₀)) := Int.mul_le_mul_of_nonneg_left (by omega) (by omega)
      rw [hU] at *; grind)
    (by
      have : 0 ≤ 2 * K * (m * U₀) := Int.mul_nonneg (by omega) hmu
      have : 0 ≤ 2 * Z * K * (9007199254740992 * (1 * u₀)) := Int.mul_nonneg (by omega) (by omega)
      grind)
  refine ⟨v, hf, ?_, ?_⟩
  · refine Int.le_of_mul_le_mul_left (a := 2 * K) ?_ (by omega)
    grind
  · refine Int.le_of_mul_le_mul_left (a := 2 * K) ?_ (by omega)
    grind
theorem Lamps.dim (h : Lamps r g b yr yg yb m w S K) : FV (fmin2 (hlsL r g b) (PySem.Float64.sub (ofInt 1) (hlsL r g b))) (zz m w S * K) := by
  have := h.top; have := h.s1; have := h.w0; have := h.m0
  have h1 := fv_ofInt (i := 1) (by decide) (by decide)
  have e : 1 * U₀ = 2 * S * K := by rw [h.hU]; grind
  rw [e] at h1
  have h2 := h.sub h1 h.light (d := 2 * S - 2 * w - m) (by omega) (by omega) (by omega)
  unfold fmin2
  rw [fLt_val h2 h.light]
  have hK := h.K0
  by_cases hc : (2 * S - 2 * w - m) * K < (2 * w + m) * K
  · rw [if_pos (decide_eq_true hc)]
    have := Int.lt_of_mul_lt_mul_right hc (by omega)
    unfold zz
    rw [if_neg (by omega)]
    exact h2
  · rw [if_neg (by simpa using hc)]
    have : ¬ (2 * S - 2 * w - m < 2 * w + m) := fun hl => hc (Int.mul_lt_mul_of_pos_right hl hK)
    unfold zz
    rw [if_pos (by omega)]
    exact h.light
end
end
section
section
open PySem.Float64
variable {r g b : UInt64} {yr yg yb m w S K : Int}
theorem two_pow_int (e : Nat) : (((2 : Nat) ^ e : Nat) : Int) = (2 : Int) ^ e := by simp
/-- the width that is read off -/
theorem Lamps.wide (h : Lamps r g b yr yg yb m w S K) {e : Nat} (he : S = 2 ^ e) (he2 : e ≤ 40) : ∃ v, FV (wideX (hlsS r g b) (hlsL r g b) S) v ∧ 2 * (v - m * U₀) < U₀ ∧ 2 * (m * U₀ - v) < U₀ := by
  obtain ⟨vs, hs, g1, g2⟩ := h.share
  have hd := h.dim
  have hz := h.zz0
  have hm0 := h.m0
  have hs1 := h.s1
  have hK := h.K0
  have hu := u₀_pos
  have hU := U₀_eq
  have hSK := h.hU
  have hSe : ((2 ^ (e + 1) : Nat) : Int) = 2 * S := by rw [he, Nat.pow_succ, Int.natCast_mul, two_pow_int, Int.mul_comm]; rfl
  generalize zz m w S = Z at *
  have hZ : 0 < Z := by omega
  have hmZ : m * U₀ ≤ Z * U₀ := Int.mul_le_mul_of_nonneg_right hz.1 (by omega)
  have hmu : 0 ≤ m * U₀ := Int.mul_nonneg (by omega) (by omega)
  have b1 : vs ≤ U₀ + u₀ := Int.le_of_mul_le_mul_left (a := Z) (by rw [Int.mul_add]; omega) hZ
  have b2 : -u₀ ≤ vs := Int.le_of_mul_le_mul_left (a := Z) (by rw [Int.mul_neg]; omega) hZ
  obtain ⟨v1, f1, a1, a2⟩ := mul_near (c := 2) (j := 1) (n := 2 * vs) hs (fv_ofInt (i := 2) (by decide) (by decide)) (by decide) rfl (by grind) (by omega) (by omega)
  have c1 : v1 * S ≤ 9007199254740992 * (2 * S * u₀) := by
    have k1 : v1 * S ≤ (2 * U₀ + 4 * u₀) * S := Int.mul_le_mul_of_nonneg_right (by omega) (by omega)
    have k2 : 0 ≤ u₀ * S := Int.mul_nonneg (by omega) (by omega)
    rw [hU] at k1
    clear hSK hU g1 g2 hmZ hmu
    grind
  have c2 : -(9007199254740992 * (2 * S * u₀)) ≤ v1 * S := by
    have : (-4 * u₀) * S ≤ v1 * S := Int.mul_le_mul_of_nonneg_right (by omega) (by omega)
    have : 0 ≤ u₀ * S := Int.mul_nonneg (by omega) (by omega)
    grind
  obtain ⟨v2, f2, a3, a4⟩ := mul_near (c := 2 * S) (j := e + 1) (n := v1 * S) f1 (fv_ofInt (i := S) (by omega) (by omega)) (by omega) hSe.symm (by grind) c1 c2
  -- v2 is 2 S vs but for 4 S u
  have d1 : v2 ≤ 2 * S * vs + 4 * S * u₀ := by
    have : v1 * S ≤ (2 * vs + 2 * u₀) * S := Int.mul_le_mul_of_nonneg_right (by omega) (by omega)
    grind
  have d2 : 2 * S * vs - 4 * S * u₀ ≤ v2 := by
    have : (2 * vs - 2 * u₀) * S ≤ v1 * S := Int.mul_le_mul_of_nonneg_right (by omega) (by omega)
    grind
  -- times Z K
  have hZK : 0 ≤ Z * K := Int.mul_nonneg (by omega) (by omega)
  have e1 : v2 * (Z * K) ≤ U₀ * (Z * vs + 2 * Z * u₀) := by
    have : v2 * (Z * K) ≤ (2 * S * vs + 4 * S * u₀) * (Z * K) := Int.mul_le_mul_of_nonneg_right d1 hZK
    rw [hSK]; grind
  have e2 : U₀ * (Z * vs - 2 * Z * u₀) ≤ v2 * (Z * K) := by
    have : (2 * S * vs - 4 * S * u₀) * (Z * K) ≤ v2 * (Z * K) := Int.mul_le_mul_of_nonneg_right d2 hZK
    rw [hSK]; grind
  have zu : Z * u₀ ≤ S * u₀ := Int.mul_le_mul_of_nonneg_right hz.2 (by omega)
  have zu0 : 0 ≤ Z * u₀ := Int.mul_nonneg (by omega) (by omega)
  have mU : m * U₀ ≤ 4503599627370496 * (S * u₀) := by
    have : Z * U₀ ≤ S * U₀ := Int.mul_le_mul_of_nonneg_right hz.2 (by omega)
    rw [hU] at *; grind
  have Su : S * u₀ < 1073741824 * u₀ := Int.mul_lt_mul_of_pos_right hs1 hu
  have f1' : (v2 * (Z * K)).natAbs ≤ 2 ^ 1074 * (2 ^ 53 * 2 ^ (1022 + (e + 1))) := by
    have q1 : v2 * (Z * K) ≤ U₀ * (9007199254740992 * (2 * S * u₀)) := by
      refine Int.le_trans e1 (Int.mul_le_mul_of_nonneg_left ?_ (by omega))
      have : 2 * S * u₀ = 2 * (S * u₀) := by grind
      have : 2 * Z * u₀ = 2 * (Z * u₀) := by grind
      omega
    have q2 : -(U₀ * (9007199254740992 * (2 * S * u₀))) ≤ v2 * (Z * K) := by
      refine Int.le_trans ?_ e2
      rw [← Int.mul_neg]
      refine Int.mul_le_mul_of_nonneg_left ?_ (by omega)
      have : 2 * S * u₀ = 2 * (S * u₀) := by grind
      have : 2 * Z * u₀ = 2 * (Z * u₀) := by grind
      omega
    have e3 : ((2 ^ 1074 * (2 ^ 53 * 2 ^ (1022 + (e + 1))) : Nat) : Int) = U₀ * (9007199254740992 * (2 * S * u₀)) := by
      rw [Int.natCast_mul, cast_53, ← cu_eq, hSe]; rfl
    omega
  obtain ⟨v3, f3, a5, a6⟩ := fv_mul_near (k := 1022 + (e + 1)) f2 hd (by omega) f1'
  rw [← cu_eq, hSe] at a5 a6
  have hUU : ((2 ^ 1074 : Nat) : Int) = U₀ := rfl
  rw [hUU] at a5 a6
  have t1 : v3 ≤ Z * vs + 2 * Z * u₀ + 2 * S * u₀ := by
    refine Int.le_of_mul_le_mul_left (a := U₀) ?_ (by omega)
    rw [Int.mul_add _ _ (2 * S * u₀)]
    omega
  have t2 : Z * vs - 2 * Z * u₀ - 2 * S * u₀ ≤ v3 := by
    refine Int.le_of_mul_le_mul_left (a := U₀) ?_ (by omega)
    rw [Int.mul_sub _ _ (2 * S * u₀)]
    omega
  have r1 : 2 * S * u₀ = 2 * (S * u₀) := by grind
  have r2 : 2 * Z * u₀ = 2 * (Z * u₀) := by grind
  refine ⟨v3, f3, ?_, ?_⟩
  · omega
  · omega
/-- one of the three shares of the hue -/
theorem Lamps.part (h : Lamps r g b yr yg yb m w S K) {x : UInt64} {y : Int} (hx : FV x (2 * (w + y) * K)) (h0 : 0 ≤ y) (h1 : y ≤ m) : ∃ v, FV (hlsC r g b x) v ∧ m * v ≤ (m - y) * U₀ + m * u₀ ∧ (m - y) * U₀ ≤ m * v + m * u₀ := by
  have := h.top; have := h.s1; have := h.w0; have hm0 := h.m0
  have hK := h.K0
  have hu := u₀_pos
  have hU := U₀_eq
  have hs := h.sub h.max hx (d := 2 * (m - y)) (by omega) (by omega) (by omega)
  have b0 : 0 ≤ 2 * K * ((m - y) * U₀) := Int.mul_nonneg (by omega) (Int.mul_nonneg (by omega) (by omega))
  have b1 : 2 * K * ((m - y) * U₀) ≤ 2 * K * (m * U₀) := Int.mul_le_mul_of_nonneg_left (Int.mul_le_mul_of_nonneg_right (by omega) (by omega)) (by omega)
  have b2 : 0 ≤ 2 * K * (m * U₀) := Int.mul_nonneg (by omega) (Int.mul_nonneg (by omega) (by omega))
  obtain ⟨v, hf, g1, g2⟩ := div_near (c := 1) (j := 0) hs h.range (Int.mul_pos (by omega) hK) (by decide) rfl
    (by rw [hU] at *; grind) (by rw [hU] at *; grind)
  refine ⟨v, hf, ?_, ?_⟩
  · refine Int.le_of_mul_le_mul_left (a := 2 * K) ?_ (by omega)
    grind
  · refine Int.le_of_mul_le_mul_left (a := 2 * K) ?_ (by omega)
    grind
def hueN (yr yg yb m : Int) : Int := if yr = m then yg - yb else if yg = m then 2 * m + yb - yr else 4 * m + yr - yg
theorem Lamps.hueN_b (h : Lamps r g b yr yg yb m w S K) : -m ≤ hueN yr yg yb m ∧ hueN yr yg yb m ≤ 5 * m := by
  have := h.r0; have := h.r1; have := h.g0; have := h.g1; have := h.b0; have := h.b1
  unfold hueN
  split
  · omega
  · split <;> omega
theorem Lamps.raw (h : Lamps r g b yr yg yb m w S K) : ∃ v, FV (hlsRaw r g b) v ∧ m * v ≤ hueN yr yg yb m * U₀ + 10 * (m * u₀) ∧ hueN yr yg yb m * U₀ ≤ m * v + 10 * (m * u₀) := by
  obtain ⟨vr, fr, r1, r2⟩ := h.part h.hr h.r0 h.r1
  obtain ⟨vg, fg, g1, g2⟩ := h.part h.hg h.g0 h.g1
  obtain ⟨vb, fb, b1, b2⟩ := h.part h.hb h.b0 h.b1
  have hm0 := h.m0
  have hK := h.K0
  have hu := u₀_pos
  have hU := U₀_eq
  have eqv : ∀ y, decide (2 * (w + y) * K = 2 * (w + m) * K) = decide (y = m) := fun y => decide_eq_decide.mpr ⟨fun e => by have := Int.eq_of_mul_eq_mul_right (by omega) e; omega, fun e => by rw [e]⟩
  have bnd : ∀ y v, 0 ≤ y → y ≤ m → m * v ≤ (m - y) * U₀ + m * u₀ → (m - y) * U₀ ≤ m * v + m * u₀ → v ≤ U₀ + u₀ ∧ -u₀ ≤ v := by
    intro y v y0 y1 k1 k2
    have q1 : (m - y) * U₀ ≤ m * U₀ := Int.mul_le_mul_of_nonneg_right (by omega) (by omega)
    have q2 : 0 ≤ (m - y) * U₀ := Int.mul_nonneg (by omega) (by omega)
    exact ⟨Int.le_of_mul_le_mul_left (a := m) (by rw [Int.mul_add]; omega) (by omega), Int.le_of_mul_le_mul_left (a := m) (by rw [Int.mul_neg]; omega) (by omega)⟩
  obtain ⟨r3, r4⟩ := bnd _ _ h.r0 h.r1 r1 r2
  obtain ⟨g3, g4⟩ := bnd _ _ h.g0 h.g1 g1 g2
  obtain ⟨b3, b4⟩ := bnd _ _ h.b0 h.b1 b1 b2
  clear bnd
  have mu : 0 ≤ m * u₀ := Int.mul_nonneg (by omega) (by omega)
  unfold hlsRaw
  rw [fEq_val h.hr h.max, fEq_val h.hg h.max, eqv, eqv]
  unfold hueN
  by_cases c1 : yr = m
  · rw [if_pos (decide_eq_true c1), if_pos c1]
    obtain ⟨v, hf, k1, k2⟩ := sub_near (c := 1) (j := 0) fb fg (by decide) rfl (by omega) (by omega)
    have l1 : m * v ≤ m * (vb - vg + 1 * u₀) := Int.mul_le_mul_of_nonneg_left (by omega) (by omega)
    have l2 : m * (vb - vg - 1 * u₀) ≤ m * v := Int.mul_le_mul_of_nonneg_left (by omega) (by omega)
    exact ⟨v, hf, by grind, by grind⟩
  · rw [if_neg (by simpa using c1), if_neg c1]
    by_cases c2 : yg = m
    · rw [if_pos (decide_eq_true c2), if_pos c2]
      obtain ⟨v', hf', k1', k2'⟩ := add_near (c := 2) (j := 1) fv_two fr (by decide) rfl (by omega) (by omega)
      obtain ⟨v, hf, k1, k2⟩ := sub_near (c := 2) (j := 1) hf' fb (by decide) rfl (by omega) (by omega)
      have l1 : m * v ≤ m * (2 * U₀ + vr - vb + 4 * u₀) := Int.mul_le_mul_of_nonneg_left (by omega) (by omega)
      have l2 : m * (2 * U₀ + vr - vb - 4 * u₀) ≤ m * v := Int.mul_le_mul_of_nonneg_left (by omega) (by omega)
      exact ⟨v, hf, by grind, by grind⟩
    · rw [if_neg (by simpa using c2), if_neg c2]
      obtain ⟨v', hf', k1', k2'⟩ := add_near (c := 4) (j := 2) fv_four fg (by decide) rfl (by omega) (by omega)
      obtain ⟨v, hf, k1, k2⟩ := sub_near (c := 4) (j := 2) hf' fr (by decide) rfl (by omega) (by omega)
      have l1 : m * v ≤ m * (4 * U₀ + vg - vr + 8 * u₀) := Int.mul_le_mul_of_nonneg_left (by omega) (by omega)
      have l2 : m * (4 * U₀ + vg - vr - 8 * u₀) ≤ m * v := Int.mul_le_mul_of_nonneg_left (by omega) (by omega)
      exact ⟨v, hf, by grind, by grind⟩
end
end
section
section
open PySem.Float64
variable {r g b : UInt64} {yr yg yb m w S K : Int}
/-- the hue that is read off -/
theorem Lamps.hue (h : Lamps r g b yr yg yb m w S K) (hN : hueN yr yg yb m ≠ 0) (hS : S < 2 ^ 30) : ∃ v, FV (hlsH r g b) v ∧ 6 * (m * v) ≤ (if hueN yr yg yb m < 0 then hueN yr yg yb m + 6 * m else hueN yr yg yb m) * U₀ + 22 * (m * u₀) ∧
    (if hueN yr yg yb m < 0 then hueN yr yg yb m + 6 * m else hueN yr yg yb m) * U₀ ≤ 6 * (m * v) + 22 * (m * u₀) := by
  obtain ⟨v, hf, k1, k2⟩ := h.raw
  have hb := h.hueN_b
  have hm0 := h.m0
  have hms : m ≤ S := by have := h.top; have := h.w0; omega
  have hu := u₀_pos
  have hU := U₀_eq
  generalize hueN yr yg yb m = N at *
  have mu : 0 ≤ m * u₀ := Int.mul_nonneg (by omega) (by omega)
  have mu1 : m * u₀ < 1073741824 * u₀ := Int.mul_lt_mul_of_pos_right (by omega) hu
  have mUu : m * U₀ = 4503599627370496 * (m * u₀) := by rw [hU]; grind
  have hN1 : N * U₀ ≤ 5 * (m * U₀) := by
    have : N * U₀ ≤ (5 * m) * U₀ := Int.mul_le_mul_of_nonneg_right (by omega) (by omega)
    grind
  have hN2 : -(m * U₀) ≤ N * U₀ := by
    have : (-m) * U₀ ≤ N * U₀ := Int.mul_le_mul_of_nonneg_right (by omega) (by omega)
    grind
  have v1 : v < 6 * U₀ := Int.lt_of_mul_lt_mul_left (a := m) (by
    have : m * (6 * U₀) = 6 * (m * U₀) := by grind
    rw [this, mUu]; rw [mUu] at hN1 hN2
    have : 0 < m * u₀ := Int.mul_pos (by omega) hu
    omega) (by omega)
  have v2 : -(2 * U₀) ≤ v := Int.le_of_mul_le_mul_left (a := m) (by
    have : m * (-(2 * U₀)) = -(2 * (m * U₀)) := by grind
    rw [this, mUu]; rw [mUu] at hN1 hN2
    omega) (by omega)
  have c1 : v * U₀ ≤ 6 * U₀ * U₀ := Int.mul_le_mul_of_nonneg_right (by omega) (by omega)
  have c2 : -(2 * U₀) * U₀ ≤ v * U₀ := Int.mul_le_mul_of_nonneg_right (by omega) (by omega)
  have UU : 0 ≤ U₀ * U₀ := Int.mul_nonneg (by omega) (by omega)
  obtain ⟨vh, fh, a1, a2⟩ := div_near (c := 1) (j := 0) hf fv_six (by omega) (by decide) rfl
    (by
      have e : 6 * U₀ * (9007199254740992 * (1 * u₀)) = 12 * (U₀ * U₀) := by
        have : U₀ * U₀ = U₀ * (4503599627370496 * u₀) := by rw [← hU]
        grind
      grind)
    (by
      have e : 6 * U₀ * (9007199254740992 * (1 * u₀)) = 12 * (U₀ * U₀) := by
        have : U₀ * U₀ = U₀ * (4503599627370496 * u₀) := by rw [← hU]
        grind
      grind)
  have a3 : 6 * vh ≤ v + 6 * u₀ := Int.le_of_mul_le_mul_left (a := U₀) (by grind) (by omega)
  have a4 : v ≤ 6 * vh + 6 * u₀ := Int.le_of_mul_le_mul_left (a := U₀) (by grind) (by omega)
  have b1 : 6 * (m * vh) ≤ N * U₀ + 16 * (m * u₀) := by
    have : m * (6 * vh) ≤ m * (v + 6 * u₀) := Int.mul_le_mul_of_nonneg_left a3 (by omega)
    grind
  have b2 : N * U₀ ≤ 6 * (m * vh) + 16 * (m * u₀) := by
    have : m * v ≤ m * (6 * vh + 6 * u₀) := Int.mul_le_mul_of_nonneg_left a4 (by omega)
    grind
  have mu2 : 0 < m * u₀ := Int.mul_pos (by omega) hu
  unfold hlsH
  by_cases hneg : N < 0
  · rw [if_pos hneg]
    have n1 : N * U₀ ≤ -1 * U₀ := Int.mul_le_mul_of_nonneg_right (by omega) (by omega)
    have w1 : vh < 0 := by
      rcases Int.lt_or_le vh 0 with h | h
      · exact h
      · have := Int.mul_nonneg (show 0 ≤ m by omega) h
        omega
    have w2 : -U₀ < vh := by
      rcases Int.lt_or_le (-U₀) vh with h | h
      · exact h
      · have : m * vh ≤ m * (-U₀) := Int.mul_le_mul_of_nonneg_left h (by omega)
        rw [Int.mul_neg] at this
        omega
    obtain ⟨e, fm⟩ := divmod_neg fh w1 w2
    rw [e]
    obtain ⟨v', hf', k1', k2'⟩ := add_near (c := 1) (j := 0) fm fv_one (by decide) rfl (by omega) (by omega)
    have l1 : m * v' ≤ m * (vh + U₀ + 1 * u₀) := Int.mul_le_mul_of_nonneg_left k1' (by omega)
    have l2 : m * (vh + U₀) ≤ m * (v' + 1 * u₀) := Int.mul_le_mul_of_nonneg_left k2' (by omega)
    exact ⟨v', hf', by grind, by grind⟩
  · rw [if_neg hneg]
    have n1 : 1 * U₀ ≤ N * U₀ := Int.mul_le_mul_of_nonneg_right (by omega) (by omega)
    have w1 : 0 < vh := by
      rcases Int.lt_or_le 0 vh with h | h
      · exact h
      · have : m * vh ≤ m * 0 := Int.mul_le_mul_of_nonneg_left h (by omega)
        omega
    have w2 : vh < U₀ := by
      rcases Int.lt_or_le vh U₀ with h | h
      · exact h
      · have : m * U₀ ≤ m * vh := Int.mul_le_mul_of_nonneg_left h (by omega)
        omega
    exact ⟨vh, divmod_pos fh w1 w2, by omega, by omega⟩
theorem Lamps.step (h : Lamps r g b yr yg yb m w S K) (hN : hueN yr yg yb m ≠ 0) {e : Nat} (he : S = 2 ^ e) (he2 : e ≤ 40) : ∃ v, FV (stepX (hlsH r g b) m) v ∧
    2 * (v - (if hueN yr yg yb m < 0 then hueN yr yg yb m + 6 * m else hueN yr yg yb m) * U₀) < U₀ ∧ 2 * ((if hueN yr yg yb m < 0 then hueN yr yg yb m + 6 * m else hueN yr yg yb m) * U₀ - v) < U₀ := by
  have hs1 := h.s1
  obtain ⟨v, hf, k1, k2⟩ := h.hue hN hs1
  have hb := h.hueN_b
  have hm0 := h.m0
  have hms : m ≤ S := by have := h.top; have := h.w0; omega
  have hu := u₀_pos
  have hU := U₀_eq
  have hT : 0 ≤ (if hueN yr yg yb m < 0 then hueN yr yg yb m + 6 * m else hueN yr yg yb m) ∧ (if hueN yr yg yb m < 0 then hueN yr yg yb m + 6 * m else hueN yr yg yb m) ≤ 6 * m := by split <;> omega
  generalize (if hueN yr yg yb m < 0 then hueN yr yg yb m + 6 * m else hueN yr yg yb m) = T at *
  have mu : 0 < m * u₀ := Int.mul_pos (by omega) hu
  have Su : S * u₀ < 1073741824 * u₀ := Int.mul_lt_mul_of_pos_right hs1 hu
  have mS : m * u₀ ≤ S * u₀ := Int.mul_le_mul_of_nonneg_right hms (by omega)
  have mUu : m * U₀ = 4503599627370496 * (m * u₀) := by rw [hU]; grind
  have T1 : T * U₀ ≤ 6 * (m * U₀) := by
    have : T * U₀ ≤ (6 * m) * U₀ := Int.mul_le_mul_of_nonneg_right hT.2 (by omega)
    grind
  have T0 : 0 ≤ T * U₀ := Int.mul_nonneg hT.1 (by omega)
  have v1 : v ≤ 2 * U₀ := Int.le_of_mul_le_mul_left (a := m) (by
    have : m * (2 * U₀) = 2 * (m * U₀) := by grind
    omega) (by omega)
  have v2 : -U₀ ≤ v := Int.le_of_mul_le_mul_left (a := m) (by
    have : m * (-U₀) = -(m * U₀) := by grind
    omega) (by omega)
  obtain ⟨v6, f6, a1, a2⟩ := mul_near (c := 8) (j := 3) (n := 6 * v) hf (fv_ofInt (i := 6) (by decide) (by decide)) (by decide) rfl (by grind) (by omega) (by omega)
  have b1 : m * v6 ≤ T * U₀ + 30 * (m * u₀) := by
    have : m * v6 ≤ m * (6 * v + 8 * u₀) := Int.mul_le_mul_of_nonneg_left a1 (by omega)
    grind
  have b2 : T * U₀ ≤ m * v6 + 30 * (m * u₀) := by
    have : m * (6 * v) ≤ m * (v6 + 8 * u₀) := Int.mul_le_mul_of_nonneg_left a2 (by omega)
    grind
  have hSe : ((2 ^ (e + 2) : Nat) : Int) = 4 * S := by rw [he, Nat.pow_add, Int.natCast_mul, two_pow_int, Int.mul_comm]; rfl
  have e4 : 9007199254740992 * (4 * S * u₀) = 36028797018963968 * (S * u₀) := by grind
  have e5 : 4 * S * u₀ = 4 * (S * u₀) := by grind
  obtain ⟨v7, f7, a3, a4⟩ := mul_near (c := 4 * S) (j := e + 2) (n := m * v6) f6 (fv_ofInt (i := m) (by omega) (by omega)) (by omega) hSe.symm (by grind) (by omega) (by omega)
  exact ⟨v7, f7, by omega, by omega⟩
theorem Lamps.ok (h : Lamps r g b yr yg yb m w S K) (hN : hueN yr yg yb m ≠ 0) {e : Nat} (he : S = 2 ^ e) (he2 : e ≤ 40) {l t : Int} (ht : stepV m l t = if hueN yr yg yb m < 0 then hueN yr yg yb m + 6 * m else hueN yr yg yb m) : SeenOk r g b m l S t := by
  have hK := h.K0
  have hm0 := h.m0
  have hz := h.zz0
  have hw := h.w0
  have ht2 := h.top
  obtain ⟨v, fw, w1, w2⟩ := h.wide he he2
  obtain ⟨v', fs, s1, s2⟩ := h.step hN he he2
  refine ⟨?_, fun _ => ?_, fun _ => ?_, ?_, fv_fin fw, fv_nearest fw w1 w2, fv_fin fs, ?_⟩
  · rw [fEq_val h.min h.max]
    refine decide_eq_false fun e => ?_
    have := Int.eq_of_mul_eq_mul_right (by omega) e
    omega
  · exact fv_zero_no h.sum (Int.ne_of_gt (Int.mul_pos (by omega) hK))
  · exact fv_zero_no h.rest (Int.ne_of_gt (Int.mul_pos (by omega) hK))
  · exact fv_zero_no h.range (Int.ne_of_gt (Int.mul_pos (by omega) hK))
  · rw [ht]; exact fv_nearest fs s1 s2
theorem lamp_val {a S K : Int} {e : Nat} (he : S = 2 ^ e) (he2 : e ≤ 30) (hK : K = ((2 ^ (1073 - e) : Nat) : Int)) (h0 : 0 ≤ a) (h1 : a < 2 ^ 40) : FV (fdivI a S) (2 * a * K) := by
  have hS : S = ((2 ^ e : Nat) : Int) := by rw [he, two_pow_int]
  have hp : 0 < 2 ^ e := Nat.two_pow_pos e
  have hr : Right (ofFrac false a.natAbs (2 ^ e)) false (2 * a.natAbs * 2 ^ (1073 - e)) 1 := by
    refine ofFrac_right hp ?_ (by decide)
    have : (2 : Nat) ^ 1074 = 2 * (2 ^ (1073 - e) * 2 ^ e) := by
      rw [← Nat.pow_add, ← Nat.pow_succ']
      congr 1
      omega
    rw [this]
    generalize 2 ^ (1073 - e) = x
    generalize 2 ^ e = y
    grind
  have hx := right_exact (k := 1073 - e) (q := 2 * a.natAbs) hr (by decide) (by omega) (by omega) (by rw [Nat.one_mul])
  have e1 : fdivI a S = ofFrac false a.natAbs (2 ^ e) := by
    unfold fdivI
    rw [hS, Int.natAbs_natCast, decide_eq_false (show ¬ a < 0 by omega), decide_eq_false (show ¬ (((2 ^ e : Nat) : Int) < 0) by omega)]
    rfl
  rw [e1]
  have e2 : sgn false (2 * a.natAbs * 2 ^ (1073 - e)) = 2 * a * K := by
    rw [sgn_mul, hK]
    congr 1
    show ((2 * a.natAbs : Nat) : Int) = 2 * a
    omega
  rw [← e2]
  exact hx
theorem seen_plain {m l w S t : Int} {e : Nat} (he : S = 2 ^ e) (he2 : e < 30) (hl : 1 ≤ l) (hlm : l ≤ m) (hw : 0 ≤ w) (ht : w + m ≤ S) (t0 : 0 ≤ t) (t1 : t < 6) : SeenOk (seenR m l S t w 0) (seenR m l S t w 1) (seenR m l S t w 2) m l S t := by
  have hS1 : S < 2 ^ 30 := by
    rw [he, ← two_pow_int]
    have : 2 ^ e < 2 ^ 30 := Nat.pow_lt_pow_right (by decide) he2
    omega
  have hK : ((2 ^ (1073 - e) : Nat) : Int) = ((2 ^ (1073 - e) : Nat) : Int) := rfl
  have hU : U₀ = 2 * (S * ((2 ^ (1073 - e) : Nat) : Int)) := by
    rw [he, ← two_pow_int, ← Int.natCast_mul, ← Nat.pow_add]
    have e3 : e + (1073 - e) = 1073 := by omega
    rw [e3]
    decide +kernel
  have mk : ∀ yr yg yb : Int, 0 ≤ yr → 0 ≤ yg → 0 ≤ yb → yr ≤ m → yg ≤ m → yb ≤ m → (yr = m ∨ yg = m ∨ yb = m) → (yr = 0 ∨ yg = 0 ∨ yb = 0) → lampsF m l t w = [w + yr, w + yg, w + yb] → hueN yr yg yb m ≠ 0 →
      (stepV m l t = if hueN yr yg yb m < 0 then hueN yr yg yb m + 6 * m else hueN yr yg yb m) → SeenOk (seenR m l S t w 0) (seenR m l S t w 1) (seenR m l S t w 2) m l S t := by
    intro yr yg yb r0 g0 b0 r1 g1 b1 mx mn hls hN hv
    unfold seenR
    rw [hls]
    refine Lamps.ok (yr := yr) (yg := yg) (yb := yb) (w := w) (K := ((2 ^ (1073 - e) : Nat) : Int)) ⟨⟨_, by omega, rfl⟩, hU, hS1, hw, by omega, ht, r0, g0, b0, r1, g1, b1, mx, mn, ?_, ?_, ?_⟩ hN he (by omega) hv
    · exact lamp_val (a := w + yr) he (by omega) hK (by omega) (by omega)
    · exact lamp_val (a := w + yg) he (by omega) hK (by omega) (by omega)
    · exact lamp_val (a := w + yb) he (by omega) hK (by omega) (by omega)
  have z0 : w + 0 = w := Int.add_zero w
  obtain rfl | rfl | rfl | rfl | rfl | rfl : t = 0 ∨ t = 1 ∨ t = 2 ∨ t = 3 ∨ t = 4 ∨ t = 5 := by omega
  · have e1 : stepV m l 0 = l := by show l + 2 * 0 * m = l; omega
    have e2 : hueN m l 0 m = l := by unfold hueN; rw [if_pos rfl]; omega
    refine mk m l 0 (by omega) (by omega) (by omega) (by omega) (by omega) (by omega) (.inl rfl) (.inr (.inr rfl)) (by rw [z0]; rfl) ?_ ?_ <;> rw [e2]
    · omega
    · rw [e1, if_neg (by omega)]
  · have e1 : stepV m l 1 = 6 * m - l := by show 2 * 3 * m - l = _; omega
    have e2 : hueN m 0 l m = -l := by unfold hueN; rw [if_pos rfl]; omega
    refine mk m 0 l (by omega) (by omega) (by omega) (by omega) (by omega) (by omega) (.inl rfl) (.inr (.inl rfl)) (by rw [z0]; rfl) ?_ ?_ <;> rw [e2]
    · omega
    · rw [e1, if_pos (by omega)]; omega
  · have e1 : stepV m l 2 = l + 2 * m := by show l + 2 * 1 * m = _; omega
    have e2 : hueN 0 m l m = 2 * m + l := by unfold hueN; rw [if_neg (by omega), if_pos rfl]; omega
    refine mk 0 m l (by omega) (by omega) (by omega) (by omega) (by omega) (by omega) (.inr (.inl rfl)) (.inl rfl) (by rw [z0]; rfl) ?_ ?_ <;> rw [e2]
    · omega
    · rw [e1, if_neg (by omega)]; omega
  · have e1 : stepV m l 3 = 2 * m - l := by show 2 * 1 * m - l = _; omega
    have e2 : hueN l m 0 m = 2 * m - l := by
      unfold hueN
      by_cases c : l = m
      · rw [if_pos c]; omega
      · rw [if_neg c, if_pos rfl]; omega
    refine mk l m 0 (by omega) (by omega) (by omega) (by omega) (by omega) (by omega) (.inr (.inl rfl)) (.inr (.inr rfl)) (by rw [z0]; rfl) ?_ ?_ <;> rw [e2]
    · omega
    · rw [e1, if_neg (by omega)]
  · have e1 : stepV m l 4 = l + 4 * m := by show l + 2 * 2 * m = _; omega
    by_cases c : l = m
    · subst c
      have e2 : hueN l 0 l l = -l := by unfold hueN; rw [if_pos rfl]; omega
      refine mk l 0 l (by omega) (by omega) (by omega) (by omega) (by omega) (by omega) (.inl rfl) (.inr (.inl rfl)) (by rw [z0]; rfl) ?_ ?_ <;> rw [e2]
      · omega
      · rw [e1, if_pos (by omega)]; omega
    · have e2 : hueN l 0 m m = 4 * m + l := by unfold hueN; rw [if_neg c, if_neg (by omega)]; omega
      refine mk l 0 m (by omega) (by omega) (by omega) (by omega) (by omega) (by omega) (.inr (.inr rfl)) (.inr (.inl rfl)) (by rw [z0]; rfl) ?_ ?_ <;> rw [e2]
      · omega
      · rw [e1, if_neg (by omega)]; omega
  · have e1 : stepV m l 5 = 4 * m - l := by show 2 * 2 * m - l = _; omega
    by_cases c : l = m
    · subst c
      have e2 : hueN 0 l l l = 3 * l := by unfold hueN; rw [if_neg (by omega), if_pos rfl]; omega
      refine mk 0 l l (by omega) (by omega) (by omega) (by omega) (by omega) (by omega) (.inr (.inl rfl)) (.inl rfl) (by rw [z0]; rfl) ?_ ?_ <;> rw [e2]
      · omega
      · rw [e1, if_neg (by omega)]; omega
    · have e2 : hueN 0 l m m = 4 * m - l := by unfold hueN; rw [if_neg (by omega), if_neg c]; omega
      refine mk 0 l m (by omega) (by omega) (by omega) (by omega) (by omega) (by omega) (.inr (.inr rfl)) (.inl rfl) (by rw [z0]; rfl) ?_ ?_ <;> rw [e2]
      · omega
      · rw [e1, if_neg (by omega)]
end
end
section
section
open PySem PySem.Builtin PySem.Builtin.Str PySem.StrLaws
/-- where a sign stands in a text, at most k times -/
def idxs (c : Nat) : List Nat → Nat → Nat → List Nat
  | [], _, _ => []
  | a :: l, i, k => if a = c ∧ 0 < k then i :: idxs c l (i + 1) (k - 1) else idxs c l (i + 1) k
theorem idxs_zero (c : Nat) : ∀ (l : List Nat) (i : Nat), idxs c l i 0 = []
  | [], _ => rfl
  | a :: l, i => by
    unfold idxs
    rw [if_neg (fun h => Nat.lt_irrefl _ h.2)]
    exact idxs_zero c l _
theorem idxs_skip (c : Nat) : ∀ (l r : List Nat) (i k : Nat), c ∉ l → idxs c (l ++ r) i k = idxs c r (i + l.length) k
  | [], r, i, k, _ => rfl
  | a :: l, r, i, k, h => by
    have h1 : a ≠ c := fun e => h (e ▸ List.mem_cons_self ..)
    show (if a = c ∧ 0 < k then i :: idxs c (l ++ r) (i + 1) (k - 1) else idxs c (l ++ r) (i + 1) k) = _
    rw [if_neg (fun e => h1 e.1), idxs_skip c l r (i + 1) k (fun hm => h (List.mem_cons_of_mem _ hm)), List.length_cons]
    congr 1
    omega
theorem occ_run (x : Str) (c limit : Nat) : ∀ (l : List Nat) (i : Nat) (st : Array Nat × Nat), x.cps.toList.drop i = l → st.2 ≤ i →
    (forIn (List.range' i (l.length + 1)) st (occBody x ⟨#[c]⟩ x.length limit)).run.fst.toList = st.1.toList ++ idxs c l i (limit - st.1.size)
  | [], i, st, h, hs => by
    have hn : ¬ (i + (⟨#[c]⟩ : Str).length ≤ x.length) := by
      have := congrArg List.length h
      rw [List.length_drop] at this
      show ¬ (i + 1 ≤ x.cps.size)
      simp at this
      omega
    show (forIn (List.range' i 1) st (occBody x ⟨#[c]⟩ x.length limit)).run.fst.toList = _
    rw [List.range'_succ, List.forIn_cons]
    unfold occBody
    rw [if_neg (fun hc => hn hc.1.2)]
    show st.1.toList = _
    rw [idxs, List.append_nil]
  | a :: l, i, st, h, hs => by
    have hat : x.cps.toList[i]? = some a := by
      have : (x.cps.toList.drop i)[0]? = some a := by rw [h]; rfl
      rwa [List.getElem?_drop] at this
    have hd : x.cps.toList.drop (i + 1) = l := by
      rw [← List.drop_drop, h]; rfl
    have hi := subAt_one x c i
    rw [hat] at hi
    show (forIn (List.range' i (l.length + 1 + 1)) st (occBody x ⟨#[c]⟩ x.length limit)).run.fst.toList = _
    rw [List.range'_succ, List.forIn_cons]
    unfold idxs
    by_cases hc : a = c ∧ 0 < limit - st.1.size
    · have hb := hi.mpr (by rw [hc.1])
      have e : occBody x ⟨#[c]⟩ x.length limit i st = pure (ForInStep.yield (st.fst.push i, i + 1)) := by
        unfold occBody
        rw [if_pos ⟨⟨⟨by omega, hs⟩, hb.1⟩, hb.2⟩]
        rfl
      rw [e]
      show (forIn (List.range' (i + 1) (l.length + 1)) (st.fst.push i, i + 1) (occBody x ⟨#[c]⟩ x.length limit)).run.fst.toList = _
      rw [occ_run x c limit l (i + 1) (st.fst.push i, i + 1) hd (Nat.le_refl _), if_pos hc, Array.toList_push, Array.size_push]
      simp [Nat.sub_sub]
    · have e : occBody x ⟨#[c]⟩ x.length limit i st = pure (ForInStep.yield (st.fst, st.snd)) := by
        unfold occBody
        rw [if_neg]
        rintro ⟨⟨⟨h1, _⟩, h3⟩, h4⟩
        exact hc ⟨Option.some.inj (hi.mp ⟨h3, h4⟩), by omega⟩
      rw [e]
      show (forIn (List.range' (i + 1) (l.length + 1)) st (occBody x ⟨#[c]⟩ x.length limit)).run.fst.toList = _
      rw [occ_run x c limit l (i + 1) st hd (Nat.le_succ_of_le hs), if_neg hc]
theorem occ_idxs (x : Str) (c limit lo : Nat) (h : lo ≤ x.length) : occurrences x ⟨#[c]⟩ lo x.length limit = idxs c (x.cps.toList.drop lo) lo limit := by
  rw [occ_eq]
  have e : x.length + 1 - lo = (x.cps.toList.drop lo).length + 1 := by
    rw [List.length_drop]
    show _ = x.cps.toList.length - lo + 1
    have : x.length = x.cps.toList.length := by simp [Str.length]
    omega
  rw [e]
  exact occ_run x c limit _ lo (#[], lo) rfl (Nat.le_refl _)
theorem item_at (x : Str) (i : Nat) (c : Nat) (h : x.cps.toList[i]? = some c) : Txt.item x (i : Int) = ⟨#[c]⟩ := by
  unfold Txt.item Txt.charAt
  rw [at_nonneg (n := c) (by omega) (by simpa using h)]
  rfl
theorem slice_ss (x : Str) {a b : Nat} (hab : a ≤ b) (hb : b ≤ x.length) : Txt.slice x (some (a : Int)) (some (b : Int)) = ⟨((x.cps.toList.drop a).take (b - a)).toArray⟩ := sliceText_nat x hab hb
theorem slice_ns (x : Str) {b : Nat} (hb : b ≤ x.length) : Txt.slice x none (some (b : Int)) = ⟨(x.cps.toList.take b).toArray⟩ := by
  have : Txt.slice x none (some (b : Int)) = Txt.slice x (some ((0 : Nat) : Int)) (some (b : Int)) := by
    unfold Txt.slice
    rw [sliceIdx_none_lo]
    rfl
  rw [this, slice_ss x (Nat.zero_le _) hb]
  rfl
theorem strKind_pos (x : Str) : 1 ≤ PySem.Builtin.Str.strKind x := by
  unfold PySem.Builtin.Str.strKind
  split
  · exact Nat.le_refl _
  · split <;> decide
theorem str_list {x y : Str} (h : x.cps.toList = y.cps.toList) : x = y := Str.ext' (Array.toList_inj.mp h)
theorem reply_gen (S : Str) (n : Int) (c : Nat) (ds : List Nat) (hds : ds = (Str.ofString (toString n)).cps.toList) (hS : S.cps.toList = [50, 50, 57, 32, 108, 101, 102, 116, 32, 40, c, c, c] ++ (ds ++ [c, 41, 32, 111, 102, 32, 105, 116]))
    (h40 : 40 ∉ ds) (h41 : 41 ∉ ds) (hc : c ∉ ds) (c0 : c ≠ 40) (c1 : c ≠ 41) (c2 : c < 256) (hl : ds.length ≤ 50) (h1 : 1 ≤ ds.length) : Reply S n ((14 + ds.length : Nat) : Int) := by
  have hlen : S.length = 21 + ds.length := by
    have := congrArg List.length hS
    simp at this
    show S.cps.size = _
    omega
  have hp : Str.ofString "(" = ⟨#[40]⟩ := by decide
  have hq : Str.ofString ")" = ⟨#[41]⟩ := by decide
  have hleft : Txt.find S (Str.ofString "(") = 9 := by
    unfold Txt.find
    rw [hp, occ_idxs S 40 1 0 (Nat.zero_le _), List.drop_zero, hS]
    simp [idxs, idxs_zero]
  have hright : Txt.find3 S (Str.ofString ")") (Txt.find S (Str.ofString "(") + 1) = ((14 + ds.length : Nat) : Int) := by
    rw [hleft]
    unfold Txt.find3
    have e : fromIndex S.length (9 + 1) = 10 := by unfold fromIndex; rfl
    rw [e, hq, occ_idxs S 41 1 10 (by omega), hS]
    show (match idxs 41 ([c, c, c] ++ (ds ++ [c, 41, 32, 111, 102, 32, 105, 116])) 10 1 with | k :: _ => (k : Int) | [] => -1) = _
    rw [idxs_skip 41 [c, c, c] _ _ _ (by simp; omega), idxs_skip 41 ds _ _ _ h41]
    rw [idxs, if_neg (fun h => c1 h.1), idxs, if_pos ⟨rfl, by decide⟩]
    show ((10 + 3 + ds.length + 1 : Nat) : Int) = _
    omega
  have i1 : Txt.item S (9 + 1) = ⟨#[c]⟩ := by
    refine item_at S 10 c ?_
    rw [hS]; rfl
  have i2 : Txt.item S (((14 + ds.length : Nat) : Int) - 1) = ⟨#[c]⟩ := by
    have e : ((14 + ds.length : Nat) : Int) - 1 = ((13 + ds.length : Nat) : Int) := by omega
    rw [e]
    refine item_at S _ c ?_
    rw [hS, List.getElem?_append_right (by simp)]
    simp only [List.length_cons, List.length_nil]
    rw [List.getElem?_append_right (by omega)]
    have e : 13 + ds.length - (0 + 1 + 1 + 1 + 1 + 1 + 1 + 1 + 1 + 1 + 1 + 1 + 1 + 1) - ds.length = 0 := by omega
    rw [e]; rfl
  have hsl : Txt.slice S (some (9 + 1)) (some ((14 + ds.length : Nat) : Int)) = ⟨([c, c, c] ++ (ds ++ [c])).toArray⟩ := by
    have := slice_ss S (a := 10) (b := 14 + ds.length) (by omega) (by omega)
    refine Eq.trans this ?_
    rw [hS]
    show (⟨(List.take (14 + ds.length - 10) ([c, c, c] ++ (ds ++ [c, 41, 32, 111, 102, 32, 105, 116]))).toArray⟩ : Str) = _
    congr 2
    have e : [c, c, c] ++ (ds ++ [c, 41, 32, 111, 102, 32, 105, 116]) = ([c, c, c] ++ (ds ++ [c])) ++ [41, 32, 111, 102, 32, 105, 116] := by simp
    rw [e, List.take_left']
    simp
    omega
  refine ⟨by omega, ?_, hleft, hright, by omega, by rw [hlen]; omega, ?_, ?_⟩
  · have := slice_ns S (b := 3) (by omega)
    rw [show ((3 : Nat) : Int) = 3 from rfl] at this
    rw [this, hS]
    show ((⟨#[50, 50, 57]⟩ : Str) != Str.ofString "229") = false
    decide
  · rw [hright, hleft, i1, i2]
    simp
  · rw [hright, hleft, i1, hsl]
    refine ⟨⟨#[]⟩, ?_⟩
    unfold Txt.split
    have hk : PySem.Builtin.Str.strKind ⟨#[c]⟩ = 1 := by unfold PySem.Builtin.Str.strKind; simp [c2]
    have hX : (⟨([c, c, c] ++ (ds ++ [c])).toArray⟩ : Str).length = 4 + ds.length := by show (([c, c, c] ++ (ds ++ [c])).toArray).size = _; simp; omega
    have hocc : occurrences ⟨([c, c, c] ++ (ds ++ [c])).toArray⟩ ⟨#[c]⟩ 0 (⟨([c, c, c] ++ (ds ++ [c])).toArray⟩ : Str).length ((⟨([c, c, c] ++ (ds ++ [c])).toArray⟩ : Str).length + 1) = [0, 1, 2, 3 + ds.length] := by
      rw [occ_idxs _ c _ 0 (Nat.zero_le _), List.drop_zero, hX]
      show idxs c ([c, c, c] ++ (ds ++ [c])) 0 (4 + ds.length + 1) = _
      have e : 4 + ds.length + 1 = ds.length + 1 + 1 + 1 + 1 + 1 := by omega
      rw [e]
      show idxs c (c :: c :: c :: (ds ++ [c])) 0 _ = _
      rw [idxs, if_pos ⟨rfl, by omega⟩, idxs, if_pos ⟨rfl, by omega⟩, idxs, if_pos ⟨rfl, by omega⟩, idxs_skip c ds _ _ _ hc, idxs, if_pos ⟨rfl, by omega⟩, idxs]
    rw [if_neg, if_neg]
    · rw [hocc, partsBetween_eq]
      show [strSub _ 0 0, strSub _ 1 1, strSub _ 2 2, strSub _ 3 (3 + ds.length), strSub _ (3 + ds.length + 1) _] = _
      rw [hX]
      have z : ∀ (x : Str) (i : Nat), strSub x i i = ⟨#[]⟩ := fun x i => str_list (by rw [strSub_toList, Nat.sub_self, List.take_zero])
      have z1 : strSub ⟨([c, c, c] ++ (ds ++ [c])).toArray⟩ 3 (3 + ds.length) = Str.ofString (toString n) := str_list (by
        rw [strSub_toList, ← hds]
        show List.take (3 + ds.length - 3) (ds ++ [c]) = ds
        rw [show 3 + ds.length - 3 = ds.length by omega, List.take_left])
      have z2 : strSub ⟨([c, c, c] ++ (ds ++ [c])).toArray⟩ (3 + ds.length + 1) (4 + ds.length) = ⟨#[]⟩ := str_list (by
        rw [strSub_toList, show 4 + ds.length - (3 + ds.length + 1) = 0 by omega, List.take_zero])
      rw [z, z, z, z1, z2]
    · rw [hocc]; simp
    · rw [hX, hk]
      have := strKind_pos ⟨([c, c, c] ++ (ds ++ [c])).toArray⟩
      have h1 : ¬ (4 + ds.length < 1) := by omega
      have h2 : ¬ (PySem.Builtin.Str.strKind ⟨([c, c, c] ++ (ds ++ [c])).toArray⟩ < 1) := by omega
      show ¬ ((decide (4 + ds.length < 1) || decide (PySem.Builtin.Str.strKind ⟨([c, c, c] ++ (ds ++ [c])).toArray⟩ < 1)) = true)
      rw [decide_eq_false h1, decide_eq_false h2]
      decide
theorem toString_len {n : Int} (h0 : 0 ≤ n) (h1 : n < 2 ^ 30) : (Str.ofString (toString n)).cps.toList.length ≤ 50 ∧ 1 ≤ (Str.ofString (toString n)).cps.toList.length := by
  have e : (Str.ofString (toString n)).cps.toList.length = (toString n).length := by
    have := PySem.ofString_length (toString n)
    unfold Str.length at this
    simpa using this
  rw [e]
  have := int_text_length_le10 (a := n) (k := 10) (by decide) (by omega)
  refine ⟨by omega, ?_⟩
  obtain ⟨m, rfl⟩ := Int.eq_ofNat_of_zero_le h0
  show 1 ≤ (Nat.repr m).length
  rcases Nat.eq_zero_or_pos (Nat.repr m).length with h | h
  · exfalso
    have h2 : (Nat.repr m).length = 0 := h
    have h3 : (Nat.toDigits 10 m).length = 0 := by
      have : (Nat.repr m) = String.ofList (Nat.toDigits 10 m) := rfl
      rw [this] at h2
      simpa using h2
    have := Nat.length_toDigits_pos (b := 10) (n := m)
    omega
  · exact h
theorem mark_plain (k : Fin 4) (n : Int) (h0 : 0 ≤ n) (h1 : n < 2 ^ 30) : ∃ r, Reply (replyS (Txt.item (Str.ofString "|!x,") ((k : Nat) : Int)) n) n r := by
  obtain ⟨l1, l2⟩ := toString_len h0 h1
  have key : ∀ c : Nat, c ≠ 40 → c ≠ 41 → c < 256 → c ∉ (Str.ofString (toString n)).cps.toList → Txt.mul ⟨#[c]⟩ 3 = ⟨#[c, c, c]⟩ → ∃ r, Reply (replyS ⟨#[c]⟩ n) n r := by
    intro c c0 c1 c2 hc hm
    refine ⟨_, reply_gen _ n c _ rfl ?_ (fun h => (intText_free_40 n).mp h) (fun h => (intText_free_41 n).mp h) hc c0 c1 c2 l1 l2⟩
    unfold replyS
    rw [hm]
    have e1 : (Str.ofString "229 left (").cps = #[50, 50, 57, 32, 108, 101, 102, 116, 32, 40] := by decide
    have e2 : (Str.ofString ") of it").cps = #[41, 32, 111, 102, 32, 105, 116] := by decide
    simp only [Str.cps_append, Array.toList_append, e1, e2]
    simp
  have m0 : Txt.item (Str.ofString "|!x,") ((0 : Nat) : Int) = ⟨#[124]⟩ := by decide +kernel
  have m1 : Txt.item (Str.ofString "|!x,") ((1 : Nat) : Int) = ⟨#[33]⟩ := by decide +kernel
  have m2 : Txt.item (Str.ofString "|!x,") ((2 : Nat) : Int) = ⟨#[120]⟩ := by decide +kernel
  have m3 : Txt.item (Str.ofString "|!x,") ((3 : Nat) : Int) = ⟨#[44]⟩ := by decide +kernel
  obtain ⟨k, hk⟩ := k
  obtain rfl | rfl | rfl | rfl : k = 0 ∨ k = 1 ∨ k = 2 ∨ k = 3 := by omega
  · rw [show ((((⟨0, hk⟩ : Fin 4) : Nat)) : Int) = ((0 : Nat) : Int) from rfl, m0]
    exact key 124 (by decide) (by decide) (by decide) (int_text_free' 124 ⟨by decide, by decide⟩ n) (by decide +kernel)
  · rw [show ((((⟨1, hk⟩ : Fin 4) : Nat)) : Int) = ((1 : Nat) : Int) from rfl, m1]
    exact key 33 (by decide) (by decide) (by decide) (int_text_free' 33 ⟨by decide, by decide⟩ n) (by decide +kernel)
  · rw [show ((((⟨2, hk⟩ : Fin 4) : Nat)) : Int) = ((2 : Nat) : Int) from rfl, m2]
    exact key 120 (by decide) (by decide) (by decide) (int_text_free' 120 ⟨by decide, by decide⟩ n) (by decide +kernel)
  · rw [show ((((⟨3, hk⟩ : Fin 4) : Nat)) : Int) = ((3 : Nat) : Int) from rfl, m3]
    exact key 44 (by decide) (by decide) (by decide) (int_text_free' 44 ⟨by decide, by decide⟩ n) (by decide +kernel)
end
end
section
def chkA (q : List Int) : Bool :=
  let c := chainF q 1
  decide ((∀ x ∈ q, 1 ≤ x ∧ x ≤ 7) ∧ q.length ≤ 6 ∧ 1 ≤ q.length ∧ (∀ p ∈ c, 1 ≤ p.2 ∧ p.2 ≤ p.1 ∧ p.1 ≤ 100) ∧ c.length < 20 ∧ (0 ≤ q.sum - 1 - q.length ∧ q.sum - 1 - q.length ≤ 10) ∧
    (∀ i, i < c.length - 1 → movesF (c.dropLast.reverse.getD i (0, 0)) ≤ i + 1))
theorem all_A : ∀ k : Fin 96, chkA (quotF ((k : Nat) : Int)) = true := by decide +kernel
def chkB (q : List Int) : Bool :=
  let c := chainF q 1
  decide ((∀ i, i < c.length → i + mv (c.getD i (0, 0)) < c.length) ∧ (valsF q q.length).length = c.length ∧ (∀ x ∈ valsF q q.length, 0 ≤ x ∧ x < 8))
theorem all_B : ∀ k : Fin 96, chkB (quotF ((k : Nat) : Int)) = true := by decide +kernel
def chkC (q : List Int) : Bool :=
  let p := playsF (chainF q 1)
  decide ((∀ x ∈ p, 0 ≤ x.1 ∧ x.1 ≤ 9 ∧ 0 ≤ x.2 ∧ x.2 < 2 ^ 20) ∧ p.length < 100 ∧ sumTo p p.length = 2 ^ (q.sum - 1 - q.length).toNat)
theorem all_C : ∀ k : Fin 96, chkC (quotF ((k : Nat) : Int)) = true := by decide +kernel
def numQ (q : List Int) : Int := ((playsF (chainF q 1)).map fun p => (findE (playsF (chainF q 1)) p.1).getD 0 * 16 ^ p.1.toNat).sum
def letQ (q : List Int) : List UInt8 := ((lineF (q.sum - 1 - q.length).toNat).map fun x => (65 + x).toNat.toUInt8) ++ List.replicate q.length 65
def chkD (q : List Int) : Bool := decide ((0 ≤ numQ q ∧ numQ q < 2 ^ 40) ∧ apF 10 (numQ q) = letQ q)
theorem all_D : ∀ k : Fin 96, chkD (quotF ((k : Nat) : Int)) = true := by decide +kernel
def chkE (q : List Int) : Bool :=
  match chainF q 1 with
  | [] => false
  | (a, b) :: _ => decide (0 ≤ b ∧ b ≤ a ∧ a ≤ 100 ∧ runL (a + 1).toNat a b = q)
theorem all_E : ∀ k : Fin 96, chkE (quotF ((k : Nat) : Int)) = true := by decide +kernel
def nextV (c : List (Int × Int)) (v : List Int) (i : Nat) : List Int := (List.range (mv (c.getD i (0, 0)))).map fun k => v.getD (i + 1 + k) 0
def chkF (q : List Int) : Bool :=
  let c := chainF q 1
  let v := valsF q q.length
  decide (∀ i, i < c.length → v.getD i 0 ∉ nextV c v i ∧ ∀ y, y < (v.getD i 0).toNat → ((y : Nat) : Int) ∈ nextV c v i)
theorem all_F : ∀ k : Fin 96, chkF (quotF ((k : Nat) : Int)) = true := by decide +kernel
def chkG (q : List Int) : Bool := (lineF (q.sum - 1 - q.length).toNat).all fun x => decide (0 ≤ x ∧ x < 100)
theorem all_G : ∀ k : Fin 96, chkG (quotF ((k : Nat) : Int)) = true := by decide +kernel
def chkH (q : List Int) : Bool :=
  let c := chainF q 1
  decide ((∀ i, i < c.length → ∀ t ∈ tabsF c.dropLast.reverse i, t.length < 100 ∧ ∀ p ∈ t, 0 ≤ p.1 ∧ p.1 ≤ 9) ∧ (1 ≤ (chainStart q 1).2 ∧ (chainStart q 1).2 ≤ (chainStart q 1).1) ∧ ∀ p ∈ c, p.1 ≤ (c.getD 0 (0, 0)).1)
theorem all_H : ∀ k : Fin 96, chkH (quotF ((k : Nat) : Int)) = true := by decide +kernel
theorem nim_all : ∀ x y : Fin 8, (∀ x' : Fin 8, x' ≠ x → (apartL ((x' : Nat) : Int) ((y : Nat) : Int) 3).sum ≠ (apartL ((x : Nat) : Int) ((y : Nat) : Int) 3).sum) ∧ (∀ y' : Fin 8, y' ≠ y → (apartL ((x : Nat) : Int) ((y' : Nat) : Int) 3).sum ≠ (apartL ((x : Nat) : Int) ((y : Nat) : Int) 3).sum) ∧
    0 ≤ (apartL ((x : Nat) : Int) ((y : Nat) : Int) 3).sum ∧ ∀ z, z < (apartL ((x : Nat) : Int) ((y : Nat) : Int) 3).sum.toNat → (∃ x' : Fin 8, x' < x ∧ (apartL ((x' : Nat) : Int) ((y : Nat) : Int) 3).sum = z) ∨ (∃ y' : Fin 8, y' < y ∧ (apartL ((x : Nat) : Int) ((y' : Nat) : Int) 3).sum = z) := by decide +kernel
end
section
/-- the row hangs on the heap mod 96 alone -/
theorem bit_one (x d e : Int) (hd : d ≠ 0) (hde : d * e = 16) : x / d % 2 = x % 32 / d % 2 := by
  have h : x = x % 32 + d * (2 * (e * (x / 32))) := by
    have h1 := Int.emod_add_mul_ediv x 32
    have h2 : d * (2 * (e * (x / 32))) = 2 * (d * e) * (x / 32) := by grind
    rw [h2, hde]
    exact h1.symm
  generalize x / 32 = q at h
  generalize x % 32 = r at h
  subst h
  rw [Int.add_mul_ediv_left _ _ hd, Int.add_mul_emod_self_left]
theorem bit_mod (h : Int) (h0 : 0 ≤ h) (i : Nat) (hi : i < 5) : Int.fmod (Int.fdiv (Int.fdiv h 3) (2 ^ i)) 2 = Int.fmod (Int.fdiv (Int.fdiv (h % 96) 3) (2 ^ i)) 2 := by
  have key : ∀ d e : Int, 0 < d → d * e = 16 → Int.fmod (Int.fdiv (Int.fdiv h 3) d) 2 = Int.fmod (Int.fdiv (Int.fdiv (h % 96) 3) d) 2 := by
    intro d e hd hde
    rw [Int.fmod_eq_emod_of_nonneg _ (by decide), Int.fmod_eq_emod_of_nonneg _ (by decide), Int.fdiv_eq_ediv_of_nonneg h (by decide), Int.fdiv_eq_ediv_of_nonneg (h % 96) (by decide), Int.fdiv_eq_ediv_of_nonneg _ (Int.le_of_lt hd), Int.fdiv_eq_ediv_of_nonneg _ (Int.le_of_lt hd), bit_one _ d e (Int.ne_of_gt hd) hde]
    have e1 : h / 3 % 32 = h % 96 / 3 := by omega
    rw [e1]
  obtain rfl | rfl | rfl | rfl | rfl : i = 0 ∨ i = 1 ∨ i = 2 ∨ i = 3 ∨ i = 4 := by omega
  · exact key (2 ^ 0) 16 (by decide) (by decide)
  · exact key (2 ^ 1) 8 (by decide) (by decide)
  · exact key (2 ^ 2) 4 (by decide) (by decide)
  · exact key (2 ^ 3) 2 (by decide) (by decide)
  · exact key (2 ^ 4) 1 (by decide) (by decide)
theorem qrows_mod (h : Int) (h0 : 0 ≤ h) : ∀ i : Nat, i ≤ 5 → qrows h i = qrows (h % 96) i
  | 0, _ => rfl
  | i + 1, hi => by
    show qstep h (qrows h i) i = qstep (h % 96) (qrows (h % 96) i) i
    rw [qrows_mod h h0 i (by omega)]
    unfold qstep
    rw [bit_mod h h0 i (by omega)]
theorem quot_mod (h : Int) (h0 : 0 ≤ h) : ∃ k : Fin 96, quotF h = quotF ((k : Nat) : Int) := by
  refine ⟨⟨(h % 96).toNat, by omega⟩, ?_⟩
  have e : (((⟨(h % 96).toNat, by omega⟩ : Fin 96) : Nat) : Int) = h % 96 := by
    show (((h % 96).toNat : Nat) : Int) = h % 96
    omega
  rw [e]
  have hm : Int.fmod (h % 96) 3 = Int.fmod h 3 := by
    rw [Int.fmod_eq_emod_of_nonneg _ (by decide), Int.fmod_eq_emod_of_nonneg _ (by decide)]; omega
  have hb : (3 + Int.fmod h 3).toNat ≤ 5 := by
    rw [Int.fmod_eq_emod_of_nonneg _ (by decide)]; omega
  unfold quotF
  rw [hm, qrows_mod h h0 _ hb]
/-- a factor ahead of a chain -/
def scP (f : Int) (p : Int × Int) : Int × Int := (f * p.1, f * p.2)
theorem start_scale (f : Int) : ∀ (l : List Int) (a b : Int), l.foldl (fun c q => (q * c.1 + c.2, c.1)) (f * a, f * b) = scP f (l.foldl (fun c q => (q * c.1 + c.2, c.1)) (a, b))
  | [], a, b => rfl
  | q :: l, a, b => by
    show l.foldl _ (q * (f * a) + f * b, f * a) = scP f (l.foldl _ (q * a + b, a))
    rw [← start_scale f l]
    congr 2
    grind
theorem chainStart_scale (row : List Int) (f : Int) : chainStart row f = scP f (chainStart row 1) := by
  unfold chainStart
  have := start_scale f row.reverse 1 0
  rw [Int.mul_one, Int.mul_zero] at this
  exact this
theorem chainL_scale {f : Int} (hf : 1 ≤ f) : ∀ (n : Nat) (a b : Int), chainL n (f * a) (f * b) = (chainL n a b).map (scP f)
  | 0, a, b => rfl
  | n + 1, a, b => by
    unfold chainL
    by_cases e : a = b
    · rw [if_pos e, if_pos (by rw [e])]; rfl
    · rw [if_neg e, if_neg (fun h => e (Int.eq_of_mul_eq_mul_left (by omega) h))]
      have m1 : max (f * a - f * b) (f * b) = f * max (a - b) b := by
        rw [← Int.mul_sub]
        by_cases h : a - b ≤ b
        · rw [Int.max_eq_right h, Int.max_eq_right (Int.mul_le_mul_of_nonneg_left h (by omega))]
        · have k1 : b ≤ a - b := by omega
          have k2 : f * b ≤ f * (a - b) := Int.mul_le_mul_of_nonneg_left k1 (by omega)
          rw [Int.max_eq_left k1, Int.max_eq_left k2]
      have m2 : min (f * a - f * b) (f * b) = f * min (a - b) b := by
        rw [← Int.mul_sub]
        by_cases h : a - b ≤ b
        · rw [Int.min_eq_left h, Int.min_eq_left (Int.mul_le_mul_of_nonneg_left h (by omega))]
        · have k1 : b ≤ a - b := by omega
          have k2 : f * b ≤ f * (a - b) := Int.mul_le_mul_of_nonneg_left k1 (by omega)
          rw [Int.min_eq_right k1, Int.min_eq_right k2]
      rw [m1, m2, chainL_scale hf n]
      rfl
theorem chain_scale (row : List Int) {f : Int} (hf : 1 ≤ f) (h1 : 1 ≤ (chainStart row 1).2) (h2 : (chainStart row 1).2 ≤ (chainStart row 1).1) : chainF row f = (chainF row 1).map (scP f) := by
  unfold chainF
  rw [chainStart_scale row f]
  generalize chainStart row 1 = p at *
  obtain ⟨a, b⟩ := p
  show chainL (f * a + f * b).toNat (f * a) (f * b) = _
  dsimp only at h1 h2 ⊢
  rw [chainL_scale hf]
  congr 1
  refine (chainL_fuel _ a b h1 h2 (Nat.le_refl _) _ ?_).symm
  have : 1 * (a + b) ≤ f * (a + b) := Int.mul_le_mul_of_nonneg_right hf (by omega)
  have e3 := Int.mul_add f a b
  omega
theorem pred_div {f a b : Int} (hf : 1 ≤ f) (hb : 0 < b) : (f * a - 1).fdiv (f * b) = (a - 1).fdiv b := by
  have hfb : 0 < f * b := Int.mul_pos (by omega) hb
  rw [Int.fdiv_eq_ediv_of_nonneg _ (by omega), Int.fdiv_eq_ediv_of_nonneg _ (by omega)]
  have h1 := Int.emod_add_mul_ediv (a - 1) b
  have h2 := Int.emod_nonneg (a - 1) (show b ≠ 0 by omega)
  have h3 := Int.emod_lt_of_pos (a - 1) hb
  generalize (a - 1) % b = r at *
  generalize (a - 1) / b = q at *
  have h4 : f * r + f - 1 < f * b := by
    have : f * (r + 1) ≤ f * b := Int.mul_le_mul_of_nonneg_left (by omega) (by omega)
    rw [Int.mul_add, Int.mul_one] at this
    omega
  have h5 : 0 ≤ f * r := Int.mul_nonneg (by omega) h2
  exact ((Int.ediv_emod_unique (q := q) (r := f * r + f - 1) hfb).mpr ⟨by grind, by omega, h4⟩).1
theorem fdiv_scale {f a b : Int} (hf : 1 ≤ f) (hb : 0 < b) : (f * a).fdiv (f * b) = a.fdiv b ∧ (f * a).fmod (f * b) = f * a.fmod b := by
  have hfb : 0 < f * b := Int.mul_pos (by omega) hb
  rw [Int.fdiv_eq_ediv_of_nonneg _ (by omega), Int.fdiv_eq_ediv_of_nonneg _ (by omega), Int.fmod_eq_emod_of_nonneg _ (by omega), Int.fmod_eq_emod_of_nonneg _ (by omega)]
  exact ⟨Int.mul_ediv_mul_of_pos _ _ (by omega), Int.mul_emod_mul_of_pos _ _ (by omega)⟩
theorem moves_scale {f : Int} (hf : 1 ≤ f) (p : Int × Int) (h : 0 < p.2 ∨ p = (0, 0)) : movesF (scP f p) = movesF p := by
  unfold movesF scP
  rcases h with h | rfl
  · rw [pred_div hf h]
  · show ((f * 0 - 1).fdiv (f * 0)).toNat = _
    rw [Int.mul_zero]
theorem mv_scale {f : Int} (hf : 1 ≤ f) (p : Int × Int) (h : 0 < p.2 ∨ p = (0, 0)) : mv (scP f p) = mv p := moves_scale hf p h
theorem getD_scale (f : Int) (c : List (Int × Int)) (i : Nat) : (c.map (scP f)).getD i (0, 0) = scP f (c.getD i (0, 0)) := by
  rw [List.getD_eq_getElem?_getD, List.getD_eq_getElem?_getD, List.getElem?_map]
  cases c[i]? with
  | some p => rfl
  | none => show (0, 0) = (f * 0, f * 0); rw [Int.mul_zero]
theorem getD_pos {c : List (Int × Int)} (h : ∀ p ∈ c, 0 < p.2) (i : Nat) : 0 < (c.getD i (0, 0)).2 ∨ c.getD i (0, 0) = (0, 0) := by
  rw [List.getD_eq_getElem?_getD]
  cases e : c[i]? with
  | some p => exact .inl (h p (List.mem_of_getElem? e))
  | none => exact .inr rfl
theorem tabs_congr {qs qs' : List (Int × Int)} (h : ∀ i, movesF (qs.getD i (0, 0)) = movesF (qs'.getD i (0, 0))) : ∀ i, tabsF qs i = tabsF qs' i
  | 0 => rfl
  | i + 1 => by
    show tabsF qs i ++ [shiftF (wholeF (tabsF qs i) (movesF (qs.getD i (0, 0))))] = tabsF qs' i ++ [shiftF (wholeF (tabsF qs' i) (movesF (qs'.getD i (0, 0))))]
    rw [tabs_congr h i, h i]
theorem tabs_scale {f : Int} (hf : 1 ≤ f) {c : List (Int × Int)} (h : ∀ p ∈ c, 0 < p.2) (i : Nat) : tabsF (c.map (scP f)).dropLast.reverse i = tabsF c.dropLast.reverse i := by
  have e : (c.map (scP f)).dropLast.reverse = c.dropLast.reverse.map (scP f) := by rw [← List.map_dropLast, List.map_reverse]
  rw [e]
  refine tabs_congr (fun j => ?_) i
  rw [getD_scale]
  exact moves_scale hf _ (getD_pos (fun p hp => h p (List.dropLast_subset _ (List.mem_reverse.mp hp))) j)
theorem plays_scale {f : Int} (hf : 1 ≤ f) {c : List (Int × Int)} (h : ∀ p ∈ c, 0 < p.2) : playsF (c.map (scP f)) = playsF c := by
  unfold playsF
  rw [List.length_map, tabs_scale hf h]
theorem run_scale {f : Int} (hf : 1 ≤ f) : ∀ (n : Nat) (a b : Int), 0 ≤ b → runL n (f * a) (f * b) = runL n a b
  | 0, _, _, _ => rfl
  | n + 1, a, b, hb => by
    unfold runL
    by_cases e : b = 0
    · rw [if_pos e, if_pos (by rw [e, Int.mul_zero])]
    · have hb' : 0 < b := by omega
      have hfb : f * b ≠ 0 := Int.ne_of_gt (Int.mul_pos (by omega) hb')
      rw [if_neg e, if_neg hfb, (fdiv_scale hf hb').1, (fdiv_scale hf hb').2, run_scale hf n b]
      rw [Int.fmod_eq_emod_of_nonneg _ hb]
      exact Int.emod_nonneg _ e
theorem run_scale' {f : Int} (hf : 1 ≤ f) {a b : Int} (h0 : 0 ≤ b) (h1 : b ≤ a) : runL (f * a + 1).toNat (f * a) (f * b) = runL (a + 1).toNat a b := by
  rw [run_scale hf _ a b h0]
  have : 1 * a ≤ f * a := Int.mul_le_mul_of_nonneg_right hf (by omega)
  exact runL_fuel _ a b h0 (by omega) _ (by omega)
end
section
theorem ints_short : ∀ (n : Nat) (l : List Int), l.Nodup → (∀ x ∈ l, 0 ≤ x ∧ x < n) → l.length ≤ n
  | 0, l, _, h => by
    cases l with
    | nil => exact Nat.le_refl _
    | cons x l => exact absurd (h x (List.mem_cons_self ..)) (by omega)
  | n + 1, l, hn, h => by
    have h2 := ints_short n (l.erase n) (hn.erase _) (fun x hx => by
      have := hn.mem_erase_iff.mp hx
      have := h x this.2
      omega)
    rw [List.length_erase] at h2
    split at h2 <;> omega
def GoodK (ps : List (Int × Int)) : Prop := (ps.map (·.1)).Nodup ∧ ∀ p ∈ ps, 0 ≤ p.1 ∧ p.1 ≤ 9
theorem GoodK.short {ps : List (Int × Int)} (h : GoodK ps) : ps.length < 100 := by
  have := ints_short 10 (ps.map (·.1)) h.1 (fun x hx => by
    obtain ⟨p, hp, rfl⟩ := List.mem_map.mp hx
    have := h.2 p hp
    omega)
  rw [List.length_map] at this
  omega
theorem put_good {ps : List (Int × Int)} (h : GoodK ps) {k n : Int} (h0 : 0 ≤ k) (h1 : k ≤ 9) : GoodK (putE ps k n) := by
  unfold putE
  by_cases ha : (ps.any fun p => p.1 = k) = true
  · rw [if_pos ha]
    refine ⟨?_, fun p hp => ?_⟩
    · rw [List.map_map]
      have e : ((fun p : Int × Int => p.1) ∘ fun p => if p.1 = k then (p.1, n) else p) = fun p => p.1 := by
        funext p
        show (if p.1 = k then (p.1, n) else p).1 = p.1
        split <;> rfl
      rw [e]
      exact h.1
    · obtain ⟨q, hq, rfl⟩ := List.mem_map.mp hp
      have := h.2 q hq
      split <;> exact this
  · rw [if_neg ha]
    refine ⟨?_, fun p hp => ?_⟩
    · rw [List.map_append, List.nodup_append]
      refine ⟨h.1, by simp, fun a ha' b hb => ?_⟩
      obtain ⟨q, hq, rfl⟩ := List.mem_map.mp ha'
      have hb' : b = k := by simpa using hb
      rw [hb']
      intro e
      exact ha (List.any_eq_true.mpr ⟨q, hq, by simpa using e⟩)
    · rcases List.mem_append.mp hp with hp | hp
      · exact h.2 p hp
      · rw [List.mem_singleton.mp hp]; exact ⟨h0, h1⟩
theorem getD_good {ps : List (Int × Int)} (h : ∀ p ∈ ps, 0 ≤ p.1 ∧ p.1 ≤ 9) (i : Nat) : 0 ≤ (ps.getD i (0, 0)).1 ∧ (ps.getD i (0, 0)).1 ≤ 9 := by
  rw [List.getD_eq_getElem?_getD]
  cases e : ps[i]? with
  | some p => exact h p (List.mem_of_getElem? e)
  | none => exact ⟨by decide, by decide⟩
theorem copy_good {ps : List (Int × Int)} (h : ∀ p ∈ ps, 0 ≤ p.1 ∧ p.1 ≤ 9) : ∀ i, GoodK (copyE ps i)
  | 0 => ⟨List.nodup_nil, fun _ hp => nomatch hp⟩
  | i + 1 => put_good (copy_good h i) (getD_good h i).1 (getD_good h i).2
theorem addE_good {ps qs : List (Int × Int)} (h : GoodK ps) (hq : ∀ p ∈ qs, 0 ≤ p.1 ∧ p.1 ≤ 9) : ∀ i, GoodK (addE ps qs i)
  | 0 => h
  | i + 1 => by
    unfold addE
    split
    · exact put_good (addE_good h hq i) (getD_good hq i).1 (getD_good hq i).2
    · exact put_good (addE_good h hq i) (getD_good hq i).1 (getD_good hq i).2
theorem whole_good {tabs : List (List (Int × Int))} (h : ∀ t ∈ tabs, ∀ p ∈ t, 0 ≤ p.1 ∧ p.1 ≤ 9) : ∀ k, GoodK (wholeF tabs k)
  | 0 => ⟨List.nodup_nil, fun _ hp => nomatch hp⟩
  | k + 1 => by
    refine addE_good (copy_good (whole_good h k).2 _) ?_ _
    rw [List.getD_eq_getElem?_getD]
    cases e : tabs[tabs.length - (k + 1)]? with
    | some t => exact h t (List.mem_of_getElem? e)
    | none => exact fun _ hp => nomatch hp
theorem facF_b (H : Int) (h0 : 0 ≤ H) : 1 ≤ facF H ∧ facF H ≤ 50 := by
  unfold facF
  rw [Int.fmod_eq_emod_of_nonneg _ (by decide)]
  omega
theorem whiF_b (H : Int) (h0 : 0 ≤ H) : 0 ≤ whiF H ∧ whiF H ≤ 1450 := by
  have hf := facF_b H h0
  unfold whiF
  have h1 : 0 ≤ (H.fdiv 28800).fmod 30 ∧ (H.fdiv 28800).fmod 30 ≤ 29 := by
    rw [Int.fmod_eq_emod_of_nonneg _ (by decide)]; omega
  generalize (H.fdiv 28800).fmod 30 = x at *
  generalize facF H = f at *
  refine ⟨Int.mul_nonneg h1.1 (by omega), ?_⟩
  have := Int.mul_le_mul_of_nonneg_right h1.2 (show 0 ≤ f by omega)
  omega
structure RowOk (q : List Int) : Prop where
  a : chkA q = true
  b : chkB q = true
  c : chkC q = true
  d : chkD q = true
  e : chkE q = true
  f : chkF q = true
  g : chkG q = true
  h : chkH q = true
theorem row_ok (H : Int) (h0 : 0 ≤ H) : RowOk (quotF H) := by
  obtain ⟨k, hk⟩ := quot_mod H h0
  rw [hk]
  exact ⟨all_A k, all_B k, all_C k, all_D k, all_E k, all_F k, all_G k, all_H k⟩
theorem ch_scale (H : Int) (h0 : 0 ≤ H) : chF H = (chainF (quotF H) 1).map (scP (facF H)) := by
  have hh := of_decide_eq_true (row_ok H h0).h
  exact chain_scale _ (facF_b H h0).1 hh.2.1.1 hh.2.1.2
theorem heap_ok {H : Int} (h0 : 0 ≤ H) (h1 : H < 2 ^ 40) : HeapOk H := by
  have R := row_ok H h0
  have hc := ch_scale H h0
  have hf := facF_b H h0
  have hw := whiF_b H h0
  obtain ⟨a1, a2, a3, a4, a5, a6, a7⟩ := of_decide_eq_true R.a
  obtain ⟨c1, c2, c3⟩ := of_decide_eq_true R.c
  obtain ⟨d1, d2⟩ := of_decide_eq_true R.d
  have g1 : ∀ x ∈ lineF (stepsF H), 0 ≤ x ∧ x < 100 := fun x hx => of_decide_eq_true (List.all_eq_true.mp R.g x hx)
  obtain ⟨t1, t2, t3⟩ := of_decide_eq_true R.h
  have pos : ∀ p ∈ chainF (quotF H) 1, 0 < p.2 := fun p hp => by have := a4 p hp; omega
  have hpl : playsF (chF H) = playsF (chainF (quotF H) 1) := by rw [hc, plays_scale hf.1 pos]
  have hlen : (chF H).length = (chainF (quotF H) 1).length := by rw [hc, List.length_map]
  have htab : ∀ i, tabsF (chF H).dropLast.reverse i = tabsF (chainF (quotF H) 1).dropLast.reverse i := fun i => by rw [hc, tabs_scale hf.1 pos]
  have hnum : numbF H = numQ (quotF H) := by unfold numbF numQ; rw [hpl]
  have pairs : ∀ p ∈ chF H, 1 ≤ p.2 ∧ p.2 ≤ p.1 ∧ p.1 ≤ 5000 := by
    intro p hp
    rw [hc] at hp
    obtain ⟨q, hq, rfl⟩ := List.mem_map.mp hp
    obtain ⟨k1, k2, k3⟩ := a4 q hq
    show 1 ≤ facF H * q.2 ∧ facF H * q.2 ≤ facF H * q.1 ∧ facF H * q.1 ≤ 5000
    refine ⟨Int.mul_pos (show 0 < facF H by omega) (show 0 < q.2 by omega), Int.mul_le_mul_of_nonneg_left k2 (by omega), ?_⟩
    have m1 : facF H * q.1 ≤ 50 * q.1 := Int.mul_le_mul_of_nonneg_right hf.2 (by omega)
    omega
  refine ⟨a1, a2, fun e => ?_, fun p hp => ?_, by omega, ?_, a6, ?_, ?_, ?_, ?_, ?_, g1, ?_, ?_, ?_, ?_⟩
  · rw [e] at a3; exact absurd a3 (by decide)
  · have := pairs p hp; omega
  · rintro S e hS a b r hab hle hlt p hp
    have hp' := pairs p hp
    have ha := pairs (a, b) (by rw [hab]; exact List.mem_cons_self ..)
    have top : p.1 ≤ a := by
      rw [hc] at hp hab
      obtain ⟨q, hq, rfl⟩ := List.mem_map.mp hp
      have hq' := t3 q hq
      have e0 : ((chainF (quotF H) 1).map (scP (facF H))).getD 0 (0, 0) = (a, b) := by rw [hab]; rfl
      rw [getD_scale] at e0
      have e1 : facF H * ((chainF (quotF H) 1).getD 0 (0, 0)).1 = a := congrArg Prod.fst e0
      rw [← e1]
      exact Int.mul_le_mul_of_nonneg_left hq' (by omega)
    have he : e < 30 := by
      rcases Nat.lt_or_ge e 30 with h | h
      · exact h
      · exfalso
        have h2 : (2 : Nat) ^ 30 ≤ 2 ^ e := Nat.pow_le_pow_right (by decide) h
        have h3 : S = ((2 ^ e : Nat) : Int) := by rw [hS, two_pow_int]
        have : (2 : Nat) ^ 30 = 1073741824 := by decide
        dsimp only at ha
        omega
    have ht : 0 ≤ (H.fdiv 4800).fmod 6 ∧ (H.fdiv 4800).fmod 6 < 6 := by
      rw [Int.fmod_eq_emod_of_nonneg _ (by decide)]; omega
    exact seen_plain hS he hp'.1 hp'.2.1 hw.1 (by omega) ht.1 ht.2
  · intro i hi
    rw [hlen] at hi
    have e : (chF H).dropLast.reverse = (chainF (quotF H) 1).dropLast.reverse.map (scP (facF H)) := by rw [hc, ← List.map_dropLast, List.map_reverse]
    rw [e, getD_scale, moves_scale hf.1 _ (getD_pos (fun p hp => pos p (List.dropLast_subset _ (List.mem_reverse.mp hp))) i)]
    exact a7 i hi
  · intro i k hi
    rw [htab]
    rw [hlen] at hi
    exact (whole_good (fun t ht => (t1 i hi t ht).2) k).short
  · intro i hi t ht
    rw [htab] at ht
    rw [hlen] at hi
    exact (t1 i hi t ht).1
  · rw [hpl]; exact c1
  · rw [hpl]; exact c2
  · rw [hnum]; exact d1
  · rw [hnum]; exact d2
  · rw [hpl]; exact c3
  · have he := R.e
    unfold chkE at he
    split at he
    · cases he
    · rename_i a b r hab
      obtain ⟨k0, k1, k2, k3⟩ := of_decide_eq_true he
      refine ⟨facF H * a, facF H * b, r.map (scP (facF H)), by rw [hc, hab]; rfl, Int.mul_nonneg (by omega) k0, Int.mul_le_mul_of_nonneg_left k1 (by omega), ?_, ?_⟩
      · have m1 : facF H * a ≤ 50 * a := Int.mul_le_mul_of_nonneg_right hf.2 (by omega)
        omega
      · rw [run_scale' hf.1 k0 k1]; exact k3
theorem heap_ok2 {H : Int} (h0 : 0 ≤ H) (h1 : H < 2 ^ 40) : HeapOk2 H := by
  have R := row_ok H h0
  have hc := ch_scale H h0
  have hf := facF_b H h0
  obtain ⟨a1, a2, a3, a4, a5, a6, a7⟩ := of_decide_eq_true R.a
  obtain ⟨b1, b2, b3⟩ := of_decide_eq_true R.b
  have pos : ∀ p ∈ chainF (quotF H) 1, 0 < p.2 := fun p hp => by have := a4 p hp; omega
  have hlen : (chF H).length = (chainF (quotF H) 1).length := by rw [hc, List.length_map]
  refine ⟨?_, ?_, b3⟩
  · intro i hi
    rw [hlen] at hi ⊢
    rw [hc, getD_scale, mv_scale hf.1 _ (getD_pos pos i)]
    exact b1 i hi
  · rw [hlen]; exact b2
theorem mark_reply (H : Int) : ∀ n : Int, 0 ≤ n → n < 2 ^ 30 → ∃ r, Reply (replyS (markF H) n) n r := by
  intro n h0 h1
  have h : 0 ≤ H.fmod 4 ∧ H.fmod 4 < 4 := by
    rw [Int.fmod_eq_emod_of_nonneg _ (by decide)]; omega
  have e : H.fmod 4 = (((⟨(H.fmod 4).toNat, by omega⟩ : Fin 4) : Nat) : Int) := by
    show _ = (((H.fmod 4).toNat : Nat) : Int)
    omega
  unfold markF
  rw [e]
  exact mark_plain _ n h0 h1
/-- the value at a place is the least that no move from there meets -/
theorem val_mex {H : Int} (h0 : 0 ≤ H) {i : Nat} (hi : i < (chF H).length) : (∀ k, k < mv ((chF H).getD i (0, 0)) → (valF H).getD (i + 1 + k) 0 ≠ (valF H).getD i 0) ∧ ∀ y : Int, 0 ≤ y → y < (valF H).getD i 0 → ∃ k, k < mv ((chF H).getD i (0, 0)) ∧ (valF H).getD (i + 1 + k) 0 = y := by
  have R := row_ok H h0
  have hc := ch_scale H h0
  have hf := facF_b H h0
  obtain ⟨a1, a2, a3, a4, a5, a6, a7⟩ := of_decide_eq_true R.a
  have f1 := of_decide_eq_true R.f
  have pos : ∀ p ∈ chainF (quotF H) 1, 0 < p.2 := fun p hp => by have := a4 p hp; omega
  have hlen : (chF H).length = (chainF (quotF H) 1).length := by rw [hc, List.length_map]
  rw [hlen] at hi
  have hm : mv ((chF H).getD i (0, 0)) = mv ((chainF (quotF H) 1).getD i (0, 0)) := by rw [hc, getD_scale, mv_scale hf.1 _ (getD_pos pos i)]
  obtain ⟨k1, k2⟩ := f1 i hi
  rw [hm]
  refine ⟨fun k hk e => k1 (List.mem_map.mpr ⟨k, List.mem_range.mpr hk, e⟩), fun y y0 y1 => ?_⟩
  have y1' : y < (valsF (quotF H) (quotF H).length).getD i 0 := y1
  have := k2 y.toNat (by omega)
  obtain ⟨k, hk, e⟩ := List.mem_map.mp this
  have e' : (valsF (quotF H) (quotF H).length).getD (i + 1 + k) 0 = y := by rw [e]; omega
  exact ⟨k, List.mem_range.mp hk, e'⟩
theorem fin8 {v : List Int} (h : ∀ x ∈ v, 0 ≤ x ∧ x < 8) (i : Nat) : ∃ x : Fin 8, v.getD i 0 = ((x : Nat) : Int) := by
  have hb : 0 ≤ v.getD i 0 ∧ v.getD i 0 < 8 := by
    rw [List.getD_eq_getElem?_getD]
    cases e : v[i]? with
    | some x => exact h x (List.mem_of_getElem? e)
    | none => exact ⟨by decide, by decide⟩
  exact ⟨⟨(v.getD i 0).toNat, by omega⟩, by show _ = (((v.getD i 0).toNat : Nat) : Int); omega⟩
theorem pair_mex {HA HB : Int} (h0 : 0 ≤ HA) (h1 : HA < 2 ^ 40) (h2 : 0 ≤ HB) (h3 : HB < 2 ^ 40) : ∀ i j, i < (chF HA).length → j < (chF HB).length → IsMex (thereF (chF HA) (chF HB) (tabF HA HB) i j) (tabF HA HB i j) := by
  intro i j hi hj
  have okA := heap_ok2 h0 h1
  have okB := heap_ok2 h2 h3
  obtain ⟨A1, A2⟩ := val_mex h0 hi
  obtain ⟨B1, B2⟩ := val_mex h2 hj
  obtain ⟨x, hx⟩ := fin8 okA.vb i
  obtain ⟨y, hy⟩ := fin8 okB.vb j
  obtain ⟨n1, n2, n3, n4⟩ := nim_all x y
  have ht : tabF HA HB i j = (apartL ((x : Nat) : Int) ((y : Nat) : Int) 3).sum := by unfold tabF; rw [hx, hy]
  refine ⟨by rw [ht]; exact n3, ?_, ?_⟩
  · intro hm
    rcases List.mem_append.mp hm with hm | hm
    · obtain ⟨k, hk, e⟩ := List.mem_map.mp hm
      obtain ⟨x', hx'⟩ := fin8 okA.vb (i + 1 + k)
      rw [ht] at e
      have e2 : tabF HA HB (i + 1 + k) j = (apartL ((x' : Nat) : Int) ((y : Nat) : Int) 3).sum := by unfold tabF; rw [hx', hy]
      rw [e2] at e
      refine n1 x' (fun c => ?_) e
      have := A1 k (List.mem_range.mp hk)
      rw [hx, hx', c] at this
      exact this rfl
    · obtain ⟨k, hk, e⟩ := List.mem_map.mp hm
      obtain ⟨y', hy'⟩ := fin8 okB.vb (j + 1 + k)
      rw [ht] at e
      have e2 : tabF HA HB i (j + 1 + k) = (apartL ((x : Nat) : Int) ((y' : Nat) : Int) 3).sum := by unfold tabF; rw [hy', hx]
      rw [e2] at e
      refine n2 y' (fun c => ?_) e
      have := B1 k (List.mem_range.mp hk)
      rw [hy, hy', c] at this
      exact this rfl
  · intro z z0 z1
    rw [ht] at z1
    have hz : ((z.toNat : Nat) : Int) = z := by omega
    rcases n4 z.toNat (by omega) with ⟨x', hlt, e⟩ | ⟨y', hlt, e⟩
    · obtain ⟨k, hk, e2⟩ := A2 ((x' : Nat) : Int) (by omega) (by rw [hx]; exact Int.ofNat_lt.mpr hlt)
      refine List.mem_append.mpr (.inl (List.mem_map.mpr ⟨k, List.mem_range.mpr hk, ?_⟩))
      unfold tabF
      rw [e2, hy, e, hz]
    · obtain ⟨k, hk, e2⟩ := B2 ((y' : Nat) : Int) (by omega) (by rw [hy]; exact Int.ofNat_lt.mpr hlt)
      refine List.mem_append.mpr (.inr (List.mem_map.mpr ⟨k, List.mem_range.mpr hk, ?_⟩))
      unfold tabF
      rw [e2, hx, e, hz]
end
section
local macro_rules | `(tactic| walk_at "dummy1") => `(tactic| skip)
local macro_rules | `(tactic| k_qdec) => `(tactic| decide +kernel)
section
variable {prog : Program} {w : World} {A : Around} {E : Value → Shared → Prop} {s : Shared} {h₀ : Heap} {L l : Addr} {m : Str → Option Value} {news : List (Addr × Obj)} {value slice : PySem.Expr} {vs : List Value} {ns : List Int} {vl vu vk : Value} {lo hi st : Option Int} {Q : Value → Shared → Prop}
/-- xs[a:b:c] of a list of ints -/
theorem slice3_ints {h₁ : Heap} {ops : List Value} (e : s.heap = h₁.push { cls := .type "slice", data := .fields #[vl, vu, vk] }) (F : Fr h₀ L h₁ m) (N : News h₀ L h₁ news) (hl : h₁.IsList l vs.toArray) (hi' : IntsAre vs ns) (pl : IsPart vl lo) (pu : IsPart vu hi) (pk : IsPart vk st) (h0 : st ≠ some 0) (hz : vs.length ≤ 1000)
    (h : ∀ D h' us, Fr h₀ L h' m → News h₀ L h' ((D, W.listOf (List.toArray us) 0) :: news) → (∀ p ∈ news, p.1 < D) → IntsAre us (pickNums ns lo hi st) → us.length ≤ vs.length → Q (.ref D) { s with heap := h' })
    (hs : subscripted slice false (.ref l) (.ref h₁.objs.size) = operate ops (getItem (.ref l) (.ref h₁.objs.size))) (ht : ∀ r, letTemporaryGo value (.ref l) r = pure ()) :
    wpAny (model prog w) A (subscriptTail value slice (.ref l) (.ref h₁.objs.size)) Q E s := by
  obtain ⟨hp, gens, drawn, toks, os⟩ := s
  dsimp only at e
  subst e
  have hsz := slicePick_size_le vs.toArray lo hi st
  rw [List.size_toArray] at hsz
  refine kmk_slice3_lit (s := ⟨h₁, gens, drawn, toks, os⟩) F N hl pl pu pk h0 rfl (fun D h' F' N' l1 => ?_) hs ht ?_
  · exact h D h' _ F' N' l1 (hi'.pick lo hi st) (by rw [Array.length_toList]; exact hsz)
  · rw [sizeLine_eq, List.size_toArray]; omega
end
theorem fmod_bound (x : Int) : 0 ≤ x.fmod (10 ^ 6) ∧ x.fmod (10 ^ 6) < 10 ^ 6 := by
  rw [Int.fmod_eq_emod_of_nonneg _ (by decide)]
  omega
theorem sum_bound : ∀ ns : List Int, 0 ≤ (ns.map fun x => x.fmod (10 ^ 6)).sum ∧ (ns.map fun x => x.fmod (10 ^ 6)).sum ≤ 10 ^ 6 * ns.length
  | [] => ⟨Int.le_refl _, Int.le_refl _⟩
  | x :: ns => by
    have h := sum_bound ns
    have h2 := fmod_bound x
    simp only [List.map_cons, List.sum_cons, List.length_cons]
    omega
/-- values that are lists of pairs of the ledger's -/
inductive PLists (news : List (Addr × Obj)) : List Value → List (List (Int × Int)) → Prop
  | nil : PLists news [] []
  | cons {a : Addr} {xs : List Value} {n : Nat} {ps : List (Int × Int)} {vs : List Value} {pss : List (List (Int × Int))} : (a, W.listOf xs.toArray n) ∈ news → PairsAre news xs ps → PLists news vs pss → PLists news (.ref a :: vs) (ps :: pss)
/-- six objects ahead of a tail that holds none of them -/
def Six (a b c d e f : Addr) (T : List (Addr × Obj)) : Prop := ∀ p ∈ T, p.1 ≠ a ∧ p.1 ≠ b ∧ p.1 ≠ c ∧ p.1 ≠ d ∧ p.1 ≠ e ∧ p.1 ≠ f
theorem Six.app {a b c d e f : Addr} {o1 o2 o3 o4 o5 o6 : Obj} {T tl : List (Addr × Obj)} (h : Six a b c d e f T) (ho : ∀ q ∈ (a, o1) :: (b, o2) :: (c, o3) :: (d, o4) :: (e, o5) :: (f, o6) :: T, ∀ p ∈ tl, q.1 ≠ p.1) : Six a b c d e f (T ++ tl) := by
  intro p hp
  rcases List.mem_append.mp hp with hp | hp
  · exact h p hp
  · exact ⟨Ne.symm (ho (a, o1) (.head _) p hp), Ne.symm (ho (b, o2) (.tail _ (.head _)) p hp), Ne.symm (ho (c, o3) (.tail _ (.tail _ (.head _))) p hp), Ne.symm (ho (d, o4) (.tail _ (.tail _ (.tail _ (.head _)))) p hp), Ne.symm (ho (e, o5) (.tail _ (.tail _ (.tail _ (.tail _ (.head _))))) p hp), Ne.symm (ho (f, o6) (.tail _ (.tail _ (.tail _ (.tail _ (.tail _ (.head _)))))) p hp)⟩
theorem isInt_at {k : Int} {v : Value} (h : Value.isInt k v = true) : ∃ t, v = .int k t := by
  unfold Value.isInt at h
  split at h
  · rename_i n t
    have : n = k := by simpa using h
    exact ⟨t, by rw [this]⟩
  · exact nomatch h
theorem findE_le {ps : List (Int × Int)} (h : ∀ p ∈ ps, 0 ≤ p.1 ∧ p.1 ≤ 9 ∧ 0 ≤ p.2 ∧ p.2 < 2 ^ 20) (k : Int) : 0 ≤ (findE ps k).getD 0 ∧ (findE ps k).getD 0 < 2 ^ 20 := by
  unfold findE
  cases e : ps.find? (fun p => p.1 = k) with
  | none => exact ⟨by decide, by decide⟩
  | some p => exact ⟨(h p (List.mem_of_find?_eq_some e)).2.2.1, (h p (List.mem_of_find?_eq_some e)).2.2.2⟩
theorem findE_some {ps : List (Int × Int)} {p : Int × Int} (h : p ∈ ps) : ∃ n, findE ps p.1 = some n := by
  unfold findE
  cases e : ps.find? (fun q => q.1 = p.1) with
  | none =>
    have h2 := List.find?_eq_none.mp e p h
    simp at h2
  | some q => exact ⟨q.2, rfl⟩
theorem pow16 {k : Int} (h0 : 0 ≤ k) (h1 : k ≤ 9) : 1 ≤ (16 : Int) ^ k.toNat ∧ (16 : Int) ^ k.toNat ≤ 16 ^ 9 := by
  have key : ∀ j : Fin 10, 1 ≤ (16 : Int) ^ (j : Nat) ∧ (16 : Int) ^ (j : Nat) ≤ 16 ^ 9 := by decide +kernel
  exact key ⟨k.toNat, by omega⟩
def IfJ (n : Int) (s : Shared) (v : Value) (s' : Shared) : Prop := ∃ t k, v = .int n t ∧ s' = { s with toks := k }
theorem ifexp_join {M : Model} {A : Around} {E : Value → Shared → Prop} {e : PySem.Expr} {env : Env} {Q : Value → Shared → Prop} {s : Shared} (n : Int) (h : wpAny M A (eval e env) (IfJ n s) E s) (h2 : ∀ t k, Q (.int n t) { s with toks := k }) : wpAny M A (eval e env) Q E s :=
  wpAny_mono h (fun v s' ⟨t, k, e1, e2⟩ => by rw [e1, e2]; exact h2 t k) fun _ _ e => e
theorem abs_if {p : Prop} [Decidable p] {n : Int} (h : 0 ≤ n) : (if (if p then n else -n) < 0 then -(if p then n else -n) else (if p then n else -n)) = n := by
  by_cases hp : p
  · rw [if_pos hp, if_neg (by omega)]
  · rw [if_neg hp]
    split <;> omega
theorem if_bounds {p : Prop} [Decidable p] {n : Int} (h : 0 ≤ n) (h2 : n < 2 ^ 40) : -(2 ^ 40) < (if p then n else -n) ∧ (if p then n else -n) < 2 ^ 40 := by
  split <;> omega
theorem flat_ones {α : Type} (a : α) : ∀ n : Nat, (List.replicate n [a]).flatten = List.replicate n a
  | 0 => rfl
  | n + 1 => by rw [List.replicate_succ, List.replicate_succ, List.flatten_cons, flat_ones a n]; rfl
theorem bne_same {a b : List UInt8} (h : a = b) : (a.toArray.toList != b.toArray.toList) = false := by
  subst h
  exact bne_self_eq_false _
theorem letters_eq {H : Int} {n : Nat} {z : Int} (h : apF 10 (numbF H) = lettersF H) (hz : z = (n : Int)) (hn : n = (quotF H).length) : apF 10 (numbF H) = List.map (fun n => n.toNat.toUInt8) (List.map (fun x => 65 + x) (lineF (stepsF H))) ++ (List.replicate z.toNat [65]).flatten := by
  rw [h, hz, flat_ones, Int.toNat_natCast, List.map_map, hn]
  rfl
theorem PLists.length {news : List (Addr × Obj)} {vs : List Value} {pss : List (List (Int × Int))} (h : PLists news vs pss) : vs.length = pss.length := by
  induction h with
  | nil => rfl
  | cons _ _ _ ih => rw [List.length_cons, List.length_cons, ih]
theorem PLists.mono {news news' : List (Addr × Obj)} (hs : ∀ p ∈ news, p ∈ news') {vs : List Value} {pss : List (List (Int × Int))} (h : PLists news vs pss) : PLists news' vs pss := by
  induction h with
  | nil => exact .nil
  | cons hm hp _ ih => exact .cons (hs _ hm) (PairsAre.mono hs hp) ih
theorem PLists.snoc {news : List (Addr × Obj)} {a : Addr} {xs : List Value} {n : Nat} {ps : List (Int × Int)} (hm : (a, W.listOf xs.toArray n) ∈ news) (hp : PairsAre news xs ps) {vs : List Value} {pss : List (List (Int × Int))} (h : PLists news vs pss) : PLists news (vs ++ [.ref a]) (pss ++ [ps]) := by
  induction h with
  | nil => exact .cons hm hp .nil
  | cons hm hp _ ih => exact .cons hm hp ih
theorem RowsAre.length {news : List (Addr × Obj)} {vs : List Value} {pss : List (List Int)} (h : RowsAre news vs pss) : vs.length = pss.length := by
  induction h with
  | nil => rfl
  | cons _ _ _ ih => rw [List.length_cons, List.length_cons, ih]
theorem RowsAre.mono' {news news' : List (Addr × Obj)} (hs : ∀ p ∈ news, p ∈ news') {vs : List Value} {pss : List (List Int)} (h : RowsAre news vs pss) : RowsAre news' vs pss := by
  induction h with
  | nil => exact .nil
  | cons hm hp _ ih => exact .cons (hs _ hm) hp ih
theorem RowsAre.snoc {news : List (Addr × Obj)} {a : Addr} {xs : List Value} {n : Nat} {ps : List Int} (hm : (a, W.listOf xs.toArray n) ∈ news) (hp : IntsAre xs ps) {vs : List Value} {pss : List (List Int)} (h : RowsAre news vs pss) : RowsAre news (vs ++ [.ref a]) (pss ++ [ps]) := by
  induction h with
  | nil => exact .cons hm hp .nil
  | cons hm hp _ ih => exact .cons hm hp ih
theorem RowsAre.monoC {news news' : List (Addr × Obj)} (hs : ∀ p ∈ news, p ∈ news') {vs : List Value} {pss : List (List Int)} (h : RowsAre news vs pss) : RowsAre news' vs pss := by
  induction h with
  | nil => exact .nil
  | cons hm hp _ ih => exact .cons (hs _ hm) hp ih
theorem RowsAre.snocC {news : List (Addr × Obj)} {a : Addr} {xs : List Value} {n : Nat} {ps : List Int} (hm : (a, W.listOf xs.toArray n) ∈ news) (hp : IntsAre xs ps) {vs : List Value} {pss : List (List Int)} (h : RowsAre news vs pss) : RowsAre news (vs ++ [.ref a]) (pss ++ [ps]) := by
  induction h with
  | nil => exact .cons hm hp .nil
  | cons hm hp _ ih => exact .cons hm hp ih
theorem map_range_getD {β : Type} (l : List Int) (f : Int → β) : ∀ n : Nat, n = l.length → (List.range n).map (fun i => f (l.getD i 0)) = l.map f := by
  rintro _ rfl
  apply List.ext_getElem
  · simp
  · intro i h1 h2
    simp at h1
    simp [h1]
theorem tab_rows {HA HB : Int} (h1 : (valF HA).length = (chF HA).length) (h2 : (valF HB).length = (chF HB).length) : ((List.range (chF HA).length).map fun i => (List.range (chF HB).length).map (tabF HA HB i)) = (valF HA).map fun x => (valF HB).map fun y => (apartL x y 3).sum := by
  rw [← map_range_getD (valF HA) (fun x => (valF HB).map fun y => (apartL x y 3).sum) _ h1.symm]
  congr 1
  funext i
  exact map_range_getD (valF HB) (fun y => (apartL ((valF HA).getD i 0) y 3).sum) _ h2.symm
theorem said15 : True := by
  k_with_none
  k_with "z0 pyIter ref" => (((with_reducible show wpAny _ _ (pyIter (Value.ref _)) (fun it s₂ => LoopAtV _ _ _ _ _ _ _ _ _ it s₂) _ _); refine Hold.mk ?_))
  k_with "z range" => ((with_unfolding_all refine' range1_rows ?kF ?kN ?_); (case kF => k_asm); (case kN => k_asm))
  k_with "z0 getItem ref int" => ((k_here; (with_reducible show wpAny _ _ (getItem (Value.ref _) (Value.int (-1) _)) _ _ _); k_dflt (refine' get_last ?k1 ?k2 ?_; (case k1 => k_asm); (case k2 => k_mem); k_whole)))
  k_with "z1 setItem ref int" => ((k_here; (with_reducible show wpAny _ _ (setItem (Value.ref _) (Value.int (-1) _) _) _ _ _); k_dflt (refine' set_last ?k1 ?k2 ?k3 ?_; (case k1 => k_asm); (case k2 => k_asm); (case k3 => k_upd); k_whole)))
  k_with "z2 call builtin:list.append" => ((k_here; (with_reducible show wpAny _ _ (call (Value.builtin _) [Value.ref _, _]) _ _ _); k_dflt (refine' append_K ?k1 ?k2 ?k3 ?_ ?z; (case k1 => k_asm); (case k2 => k_asm); (case k3 => k_upd); (case z => first | assumption | size_fits | (simp only [List.size_toArray, List.length_append, List.length_cons, List.length_nil, sizeLine_eq]; omega)); k_whole)))
  k_with "z0 exec While Compare cons nil" => (((with_reducible show wpAny _ _ (exec (Stmt.While _ _ _ _) _) _ _ _); refine Hold.mk ?_))
  k_with "z kmk_list" => (exact listIn (by k_asm) (by k_mem))
  k_with "z is_list" => (exact listIn (by k_asm) (by k_mem))
  k_with "z k_mem" => (((show _ ∈ (_ : List (Addr × Obj))); with_reducible assumption))
  k_with "z3 subscriptTail" => ((k_here; (with_reducible show wpAny _ _ (subscriptTail _ (PySem.Expr.Slice none none (some _) _) (Value.ref _) (Value.ref _)) _ _ _); k_dflt (refine' rev_list ?F ?N ?l ?k ?z ?_ ?s ?t; (case F => k_asm); (case N => k_asm); (case l => k_mem); (case k => exact IsPart.int _ _); (case s => with_unfolding_all rfl); (case t => kmk_pure); (case z => (simp only [sizeLine_eq]; omega)))))
  k_with "z0 exec For Name Subscript cons nil" => ((with_unfolding_all (refine' my_For ?kF ?k1 ?k2 ?_; (case k1 => exact rfl); (case k2 => exact rfl)); (case kF => k_asm)))
  k_with "z0 exec For Name Call cons nil" => ((with_unfolding_all (refine' my_For ?kF ?k1 ?k2 ?_; (case k1 => exact rfl); (case k2 => exact rfl)); (case kF => k_asm)))
  k_with "z0 exec For Name Name cons nil" => ((with_unfolding_all (refine' my_For ?kF ?k1 ?k2 ?_; (case k1 => exact rfl); (case k2 => exact rfl)); (case kF => k_asm)))
  k_with "z enter" => (refine' code_defC ?k1 ?k2 ?k3 ?k4 ?k5 ?kA ?kF ?kK ?k6 ?k7 ?k8 ?k9 ?kB ?kD ?_ ?c2 ?c3 ?c4; (case kA => exact rfl); (case kF => exact rfl); (case kK => assumption); (case k1 => k_asm); (case k2 => k_asm); (case k3 => k_asm); (case k4 => k_asm); (case k5 => k_asm); (case k6 => k_is); (case k7 => k_is); (case k8 => ktr_room); (case k9 => exact BindsTo.of_eq rfl); (case kB => exact rfl); (case kD => decide +kernel); (case c2 => exact rfl); (case c3 => exact rfl); (case c4 => exact rfl); k_whole)
  k_with "z0 eval ListComp" => (((with_reducible show wpAny _ _ (eval (Expr.ListComp _ _ _ _) _) _ _ _); refine Hold.mk ?_))
  k_with "z0 exec Assign cons ListComp" => (((with_reducible show wpAny _ _ (exec (Stmt.Assign [_] (Expr.ListComp _ _ _ _) _) _) _ _ _); refine Hold.mk ?_))
  k_with "z0 CompSrc" => ((refine Hold.mk ?_))
  k_with "z0 CompSrcT" => ((refine Hold.mk ?_))
  k_with "z0 SrcLP" => ((refine Hold.mk ?_))
  k_with "z0 CompEnd" => ((refine Hold.mk ?_))
  k_with "z k_steps" => (repeat' (first | (k_unfold; (try dsimp only)) | (walk1; (try dsimp only)) | (dsimp only; walk1; (try dsimp only)) | (leave1; walk_say "STEP leave1"; try dsimp only) | fail "no step"))
  k_with "z4 call builtin:sum" => ((k_here; (with_reducible show wpAny _ _ (call (Value.builtin "sum") [Value.ref _]) _ _ _); k_dflt (refine' sumK ?kz ?kF ?kN ?kl ?ki ?_; (case kz => exact rfl); (case kF => k_asm); (case kN => k_asm); (case kl => exact listIn (by k_asm) (by k_mem)); (case ki => assumption); k_whole)))
  k_with "z0 eval ListComp" => ((k_here; (with_reducible show wpAny _ _ (eval (Expr.ListComp _ [Comprehension.mk (Expr.Name _ _) _ [] _] _ _) _) _ _ _); k_dflt (refine LCg.ListComp_U (F₀ := by k_asm) (by with_unfolding_all rfl) (by decide) (by rfl) (by decide) (by rfl) ?_)))
  k_with "z0 eval ListComp" => ((k_here; (with_reducible show wpAny _ _ (eval (Expr.ListComp _ [Comprehension.mk (Expr.Name _ _) _ [_] _] _ _) _) _ _ _); k_dflt (refine LCt.ListComp_T (F₀ := by k_asm) (by with_unfolding_all rfl) (by decide) (by rfl) (by decide) (by rfl) ?_)))
  k_with "z0 eval ListComp" => ((k_here; (with_reducible show wpAny _ _ (eval (Expr.ListComp _ [Comprehension.mk (Expr.Tuple [Expr.Name _ _, Expr.Name _ _] _ _) _ [] _] _ _) _) _ _ _); k_dflt (refine LCp.ListComp_P (F₀ := by k_asm) (by with_unfolding_all rfl) (by decide) (by rfl) (by decide) (by rfl) (by rfl) (by decide) ?_)))
  k_with "z0 exec Assign cons ListComp" => ((k_here; (with_reducible show wpAny _ _ (exec (Stmt.Assign [_] (Expr.ListComp _ [Comprehension.mk (Expr.Name _ _) _ [] _] _ _) _) _) _ _ _); k_dflt (refine LCg.Assign_ListComp_U (F₀ := by k_asm) (by rfl) (by with_unfolding_all rfl) (by with_unfolding_all rfl) (by decide) (by rfl) (by decide) (by rfl) (by rfl) (by rfl) ?_)))
  k_with "z0 exec Assign cons ListComp" => ((k_here; (with_reducible show wpAny _ _ (exec (Stmt.Assign [_] (Expr.ListComp _ [Comprehension.mk (Expr.Tuple [Expr.Name _ _, Expr.Name _ _] _ _) _ [] _] _ _) _) _) _ _ _); k_dflt (refine LCp.Assign_ListComp_P (F₀ := by k_asm) (by rfl) (by with_unfolding_all rfl) (by with_unfolding_all rfl) (by decide) (by rfl) (by decide) (by rfl) (by rfl) (by decide) (by rfl) (by rfl) ?_)))
  k_with "z k_mem" => (((show _ ∈ (_ : List (Addr × Obj))); first | with_reducible assumption | with_reducible exact List.Mem.head _ | (with_reducible refine List.mem_cons_of_mem _ ?_; k_mem) | (with_reducible refine List.mem_append_right _ ?_; k_mem) | (with_reducible refine List.mem_append_left _ ?_; k_mem)))
  k_with "z0 exec For Tuple Attribute cons nil" => (((with_unfolding_all (refine' For_turns ?kF ?_)); (case kF => k_asm)))
  k_with "z0 exec For Tuple Name cons nil" => (((with_unfolding_all (refine' For_turns ?kF ?_)); (case kF => k_asm)))
  k_with "z0 exec For Tuple Call cons nil" => (((with_unfolding_all (refine' For_turns ?kF ?_)); (case kF => k_asm)))
  k_with "z0 exec For Tuple Subscript cons nil" => (((with_unfolding_all (refine' For_turns ?kF ?_)); (case kF => k_asm)))
  k_with "z0 pyIter ref" => (((with_reducible show wpAny _ _ (pyIter (Value.ref _)) (fun it s₂ => TurnsAt _ _ _ _ _ _ _ _ _ it s₂) _ _); refine Hold.mk ?_))
  k_with "z0 subscriptTail" => ((k_here; (with_reducible show wpAny _ _ (subscriptTail _ _ (Value.ref _) (Value.int _ _)) _ _ _); k_dflt (refine' item_list_ints ?l ?i ?a ?b ?c ?_; (case l => exact listIn (by k_asm) (by k_mem)); (case i => with_reducible assumption); (case a => omega); (case b => omega); (case c => omega); k_whole); intro _))
  k_with "z3 subscriptTail" => ((k_here; (with_reducible show wpAny _ _ (subscriptTail _ (PySem.Expr.Slice (some _) none none _) (Value.ref _) (Value.ref _)) _ _ _); k_dflt (refine' drop_list ?dlE ?dlF ?dlN ?dlM ?dlP ?dlQ ?dlX ?dlZ ?_ ?dlS ?dlT; (case dlE => exact rfl); (case dlF => k_asm); (case dlN => k_asm); (case dlM => k_mem); (case dlP => exact IsPart.int _ _); (case dlQ => exact IsPart.none); (case dlX => omega); (case dlS => with_unfolding_all rfl); (case dlT => kmk_pure); (case dlZ => ((try simp only [sizeLine_eq, List.length_cons, List.length_nil, List.length_append, List.length_drop, List.length_replicate, List.length_dropLast]); omega)))))
  k_with "z3 subscriptTail" => ((k_here; (with_reducible show wpAny _ _ (subscriptTail _ (PySem.Expr.Slice none (some _) none _) (Value.ref _) (Value.ref _)) _ _ _); k_dflt (refine' init_list ?dlE ?dlF ?dlN ?dlM ?dlQ ?dlP ?dlZ ?_ ?dlS ?dlT; (case dlE => exact rfl); (case dlF => k_asm); (case dlN => k_asm); (case dlM => k_mem); (case dlP => exact IsPart.int _ _); (case dlQ => exact IsPart.none); (case dlS => with_unfolding_all rfl); (case dlT => kmk_pure); (case dlZ => ((try simp only [sizeLine_eq, List.length_cons, List.length_nil, List.length_append, List.length_drop, List.length_replicate, List.length_dropLast]); omega)))))
  k_with "z3 subscriptTail" => ((k_here; (with_reducible show wpAny _ _ (subscriptTail _ (PySem.Expr.Slice none none (some _) _) (Value.ref _) (Value.ref _)) _ _ _); k_dflt (refine' revv_list ?dlE ?dlF ?dlN ?dlM ?dlP ?dlZ ?_ ?dlS ?dlT; (case dlE => exact rfl); (case dlF => k_asm); (case dlN => k_asm); (case dlM => k_mem); (case dlP => exact IsPart.int _ _); (case dlS => with_unfolding_all rfl); (case dlT => kmk_pure); (case dlZ => ((try simp only [sizeLine_eq, List.length_cons, List.length_nil, List.length_append, List.length_drop, List.length_replicate, List.length_dropLast]); omega)))))
  k_with "z3 binaryOp Add ref ref" => ((k_here; (with_reducible show wpAny _ _ (binaryOp _ (Value.ref _) (Value.ref _)) _ _ _); k_dflt (refine' add_l ?alF ?alN ?alA ?alB ?alZ ?_; (case alF => k_asm); (case alN => k_asm); (case alA => k_mem); (case alB => k_mem); (case alZ => ((try simp only [sizeLine_eq, List.length_cons, List.length_nil, List.length_append, List.length_drop, List.length_replicate, List.length_dropLast]); omega)))))
  k_with "z3 binaryOp Mult ref int" => ((k_here; (with_reducible show wpAny _ _ (binaryOp Operator.Mult (Value.ref _) (Value.int _ _)) _ _ _); k_dflt (refine' mul_l ?alF ?alN ?alA ?alB ?alZ ?_; (case alF => k_asm); (case alN => k_asm); (case alA => k_mem); (case alB => omega); (case alZ => omega))))
  k_with "z0 call ref" => (((with_reducible show wpAny _ _ (call (Value.ref _) _) _ _ _); refine Hold.mk ?_))
  k_with "z0 subscriptTail Name Slice ref ref" => (((with_reducible show wpAny _ _ (subscriptTail _ _ (Value.ref _) _) _ _ _); refine Hold.mk ?_))
  k_with "z turns exec For Name Name cons nil" => (skip)
  k_with "z0 subscriptTail" => ((k_here; (with_reducible show wpAny _ _ (subscriptTail _ (PySem.Expr.Constant _ _ _) (Value.ref _) (Value.int 0 _)) _ _ _); k_dflt (refine' pair_0 ?pN ?pM ?_ ?pS; (case pN => k_asm); (case pM => k_mem); (case pS => with_unfolding_all rfl); k_whole)))
  k_with "z0 subscriptTail" => ((k_here; (with_reducible show wpAny _ _ (subscriptTail _ (PySem.Expr.Constant _ _ _) (Value.ref _) (Value.int 1 _)) _ _ _); k_dflt (refine' pair_1 ?pN ?pM ?_ ?pS; (case pN => k_asm); (case pM => k_mem); (case pS => with_unfolding_all rfl); k_whole)))
  k_with "z0 subscriptTail Name Constant ref int" => (((with_reducible show wpAny _ _ (subscriptTail _ _ (Value.ref _) (Value.int _ _)) _ _ _); refine Hold.mk ?_))
  k_with "z0 subscriptTail" => (((with_reducible show wpAny _ _ (subscriptTail _ _ (Value.str _ _) (Value.int _ _)) _ _ _); refine Hold.mk ?_))
  k_with "z0 compareOp NotEq ref ref" => (((with_reducible show wpAny _ _ (compareOp _ (Value.ref _) (Value.ref _)) _ _ _); refine Hold.mk ?_))
  k_with "z0 call builtin:len" => ((k_here; (with_reducible show wpAny _ _ (call (Value.builtin "len") [Value.ref _]) _ _ _); k_dflt (refine len_list (listIn (by k_asm) (by k_mem)) (by (simp only [List.size_toArray]; omega)) ?_)))
  k_with "z0 exec Assign cons ListComp" => (((with_reducible show wpAny _ _ (exec (Stmt.Assign [_] (PySem.Expr.ListComp _ [Comprehension.mk (PySem.Expr.Tuple [_, _] _ _) (PySem.Expr.Call _ _ _ _) _ _] _ _) _) _) _ _ _); refine Hold.mk ?_))
  k_with "z0 call type:zip" => (((with_reducible show wpAny _ _ (call (Value.type "zip") _) _ _ _); refine Hold.mk ?_))
  k_with "z0 eval ListComp" => (((with_reducible show wpAny _ _ (eval (PySem.Expr.ListComp (PySem.Expr.BinOp _ Operator.Mult _ _) _ _ _) _) _ _ _); refine Hold.mk ?_))
  trivial
theorem law_holds : PySem.Challenge.rw_xg0025_01.Holds := by
  refine hd ?_
  k_go0
  (all_goals try k_fold)
  k_steps
  unfold Hold
  rename_i w s₀ s₁ mg mb G Y fa o pm doc ho hg KX X V GL T B TE TW wA wO M wB wC hcd ns hs hlay0 hLy hr hl2 wD wE sl xs wF hLs ra w1 r0 hI hr2 hc1 hc2 K0 hD h₁ tk₁ F oP oS oW oH oV dP dS dW dH dV N0 X0
  have hnl : ns.length ≤ 63 := by
    have := hc1
    omega
  have hxl := hI.length
  have hP : ∃ v, oP.data = Data.cell v := ⟨_, dP⟩
  have hS : ∃ v, oS.data = Data.cell v := ⟨_, dS⟩
  have hW : ∃ v, oW.data = Data.cell v := ⟨_, dW⟩
  have hH : ∃ v, oH.data = Data.cell v := ⟨_, dH⟩
  have hV : ∃ v, oV.data = Data.cell v := ⟨_, dV⟩
  clear dP dS dW dH dV X0 hcd hs hlay0 hLy hr hl2 r0 w1 ra hr2 hD
  have hl₁ : h₁.IsList sl xs.toArray := hLs.at fun o e => F.keep _ o e
  refine slice3_ints rfl F N0 hl₁ hI (IsPart.int _ _) (IsPart.int _ _) (IsPart.int _ _) (by decide) (by omega) ?_ (by with_unfolding_all rfl) (by kmk_pure)
  intro D1 h2 us1 F N0 l1 hu1 hul1
  k_steps
  unfold Hold
  refine LCg.CompSrc.ledger rfl F N0 (.head _) (by rw [List.size_toArray, sizeLine_eq]; omega) ?_
  intro gg
  generalize hLD : (D1, W.listOf us1.toArray 0) :: _ = LD at N0
  generalize hks1 : pickNums ns (some 0) (some 63) (some 2) = ks1 at hu1
  have hkl1 := hu1.length
  refine rest_U (n := us1.toArray.size) (fun i ys led => led = LD ∧ IntsAre ys ((ks1.take i).map fun x => x.fmod (10 ^ 6))) ?_ ?_ _ 0 [] _ (by omega) ⟨rfl, .nil⟩
  · intro i ys led v I oI C oC D m₂ h tk E' hi hJ hv hC hx F N off ne
    refine hideQ ?_
    intro Qh2 hQt2
    obtain ⟨rfl, hys⟩ := hJ
    obtain ⟨x, tx, rfl, hxi⟩ := ints_at hu1 (by simpa using hv)
    clear N0
    dsimp only
    k_steps
    refine hQt2 _ _ ?_
    refine cend_same (by assumption) N off (by first | trivial | exact .inr ⟨W.listOf us1.toArray 0, hLD ▸ .head _, rfl, 0, rfl⟩) ⟨rfl, ?_⟩
    rw [List.take_add_one, hxi, Option.toList_some, List.map_append]
    exact ints_app hys (.cons _ _ .nil)
  · rintro ys led ⟨rfl, hys⟩
    unfold LCg.FinE
    intro D2 h' tk F' N' o1
    clear F N0
    have hd1 := Off1.mem o1
    rw [List.size_toArray, hkl1, List.take_length] at hys
    dsimp only
    k_steps
    unfold Hold
    have hb1 := sum_bound ks1
    generalize hs1 : (ks1.map fun x => x.fmod (10 ^ 6)).sum = sm1 at hb1
    have hk1 : ks1.length ≤ 63 := by omega
    rename Fr _ _ _ _ => F
    rename News _ _ _ _ => N0
    refine slice3_ints rfl F N0 (hLs.at fun o e => F.keep _ o e) hI (IsPart.int _ _) (IsPart.int _ _) (IsPart.int _ _) (by decide) (by omega) ?_ (by with_unfolding_all rfl) (by kmk_pure)
    clear F N0
    intro D3 h3 us2 F N0 l2 hu2 hul2
    k_steps
    unfold Hold
    refine LCg.CompSrc.ledger rfl F N0 (.head _) (by rw [List.size_toArray, sizeLine_eq]; omega) ?_
    intro gg2
    generalize hLD2 : (D3, W.listOf us2.toArray 0) :: _ = LD2 at N0
    generalize hks2 : pickNums ns (some 1) (some 63) (some 2) = ks2 at hu2
    have hkl2 := hu2.length
    refine rest_U (n := us2.toArray.size) (fun i ys led => led = LD2 ∧ IntsAre ys ((ks2.take i).map fun x => x.fmod (10 ^ 6))) ?_ ?_ _ 0 [] _ (by omega) ⟨rfl, .nil⟩
    · intro i ys led v I oI C oC D m₂ h tk E' hi hJ hv hC hx F N off ne
      refine hideQ ?_
      intro Qh2 hQt2
      obtain ⟨rfl, hys⟩ := hJ
      obtain ⟨x, tx, rfl, hxi⟩ := ints_at hu2 (by simpa using hv)
      clear N0
      dsimp only
      k_steps
      refine hQt2 _ _ ?_
      refine cend_same (by assumption) N off (by first | trivial | exact .inr ⟨W.listOf us2.toArray 0, hLD2 ▸ .head _, rfl, 0, rfl⟩) ⟨rfl, ?_⟩
      rw [List.take_add_one, hxi, Option.toList_some, List.map_append]
      exact ints_app hys (.cons _ _ .nil)
    · rintro ys2 led2 ⟨rfl, hys2⟩
      unfold LCg.FinE
      intro D4 h' tk F' N' o2
      clear F N0
      have hd2 := Off1.mem o2
      rw [List.size_toArray, hkl2, List.take_length] at hys2
      have hb2 := sum_bound ks2
      generalize hs2 : (ks2.map fun x => x.fmod (10 ^ 6)).sum = sm2 at hb2
      dsimp only
      k_steps
      rename_i x1 x2 x3 x4 x5 tb lH x7 lH1 x8 lC x9 lC1 x10 lV x11 F9 N9 lV1
      obtain ⟨L, hL0⟩ : ∃ L : Nat, L = s₁.heap.objs.size := ⟨_, rfl⟩
      have mP : (s₁.heap.objs.size + 1 + 1 + 1 + 1 + 1, oP) ∈ led2 := hLD2 ▸ .tail _ (.tail _ (hLD ▸ .tail _ (.head _)))
      have mS : (s₁.heap.objs.size + 1 + 1 + 1 + 1, oS) ∈ led2 := hLD2 ▸ .tail _ (.tail _ (hLD ▸ .tail _ (.tail _ (.head _))))
      have mW : (s₁.heap.objs.size + 1 + 1 + 1, oW) ∈ led2 := hLD2 ▸ .tail _ (.tail _ (hLD ▸ .tail _ (.tail _ (.tail _ (.head _)))))
      have mH : (s₁.heap.objs.size + 1 + 1, oH) ∈ led2 := hLD2 ▸ .tail _ (.tail _ (hLD ▸ .tail _ (.tail _ (.tail _ (.tail _ (.head _))))))
      have mV : (s₁.heap.objs.size + 1, oV) ∈ led2 := hLD2 ▸ .tail _ (.tail _ (hLD ▸ .tail _ (.tail _ (.tail _ (.tail _ (.tail _ (.head _)))))))
      have hbH := AllLt.mem' lH1.2
      have hHC : lH < lC := lC1.1
      have hCV : lC < lV := lV1.1
      have hHV : lH < lV := lV1.2.1
      have bP := hbH _ mP
      have bS := hbH _ mS
      have bW := hbH _ mW
      have bH := hbH _ mH
      have bV := hbH _ mV
      clear hbH lC1 lV1 lH1
      rw [hs2] at N9
      have N2 : News s₁.heap s₁.heap.objs.size x11 ((s₁.heap.objs.size + 1, oV) :: [(lV, W.listOf #[] 0), (lC, W.listOf #[] 0), (lH, W.listOf #[Value.int (91302 + sm1) x1, Value.int (595228 + sm2) x5] 0), (s₁.heap.objs.size + 1 + 1 + 1 + 1 + 1, oP), (s₁.heap.objs.size + 1 + 1 + 1 + 1, oS), (s₁.heap.objs.size + 1 + 1 + 1, oW), (s₁.heap.objs.size + 1 + 1, oH)]) := by
        intro p hp
        refine N9 p ?_
        simp only [List.mem_cons, List.not_mem_nil, or_false] at hp
        rcases hp with rfl | rfl | rfl | rfl | rfl | rfl | rfl | rfl
        · exact .tail _ (.tail _ (.tail _ (.tail _ mV)))
        · exact .head _
        · exact .tail _ (.head _)
        · exact .tail _ (.tail _ (.head _))
        · exact .tail _ (.tail _ (.tail _ (.tail _ mP)))
        · exact .tail _ (.tail _ (.tail _ (.tail _ mS)))
        · exact .tail _ (.tail _ (.tail _ (.tail _ mW)))
        · exact .tail _ (.tail _ (.tail _ (.tail _ mH)))
      have d12 : s₁.heap.objs.size + 1 ≠ s₁.heap.objs.size + 1 + 1 := by omega
      have d13 : s₁.heap.objs.size + 1 ≠ s₁.heap.objs.size + 1 + 1 + 1 := by omega
      have d14 : s₁.heap.objs.size + 1 ≠ s₁.heap.objs.size + 1 + 1 + 1 + 1 := by omega
      have d15 : s₁.heap.objs.size + 1 ≠ s₁.heap.objs.size + 1 + 1 + 1 + 1 + 1 := by omega
      generalize ht9 : [(lV, W.listOf #[] 0), (lC, W.listOf #[] 0), (lH, W.listOf #[Value.int (91302 + sm1) x1, Value.int (595228 + sm2) x5] 0), (s₁.heap.objs.size + 1 + 1 + 1 + 1 + 1, oP), (s₁.heap.objs.size + 1 + 1 + 1 + 1, oS), (s₁.heap.objs.size + 1 + 1 + 1, oW), (s₁.heap.objs.size + 1 + 1, oH)] = t9 at N2
      have oV9 : ∀ p ∈ t9, p.1 ≠ s₁.heap.objs.size + 1 := by
        rw [← ht9]
        intro p hp
        simp only [List.mem_cons, List.not_mem_nil, or_false] at hp
        rcases hp with rfl | rfl | rfl | rfl | rfl | rfl | rfl
        · exact Ne.symm (Nat.ne_of_lt (Nat.lt_trans bV hHV))
        · exact Ne.symm (Nat.ne_of_lt (Nat.lt_trans bV hHC))
        · exact Ne.symm (Nat.ne_of_lt bV)
        · exact Ne.symm d15
        · exact Ne.symm d14
        · exact Ne.symm d13
        · exact Ne.symm d12
      obtain ⟨vV, dV⟩ := hV
      clear N9 mP mS mW mH mV hLD hLD2
      k_steps
      unfold Hold
      rename_i h11 oV2 F9 N9 dV2
      obtain ⟨vH, dH⟩ := hH
      obtain ⟨vW, dW⟩ := hW
      obtain ⟨vS, dS⟩ := hS
      obtain ⟨vP, dP⟩ := hP
      have hA0 : 0 ≤ 91302 + sm1 := by omega
      have hA1 : 91302 + sm1 < 2 ^ 40 := by omega
      have hB0 : 0 ≤ 595228 + sm2 := by omega
      have hB1 : 595228 + sm2 < 2 ^ 40 := by omega
      generalize hHA : 91302 + sm1 = HA at ht9 hA0 hA1
      generalize hHB : 595228 + sm2 = HB at ht9 hB0 hB1
      have hsub9 : ∀ p ∈ [(s₁.heap.objs.size + 1 + 1, oH), (s₁.heap.objs.size + 1 + 1 + 1, oW), (s₁.heap.objs.size + 1 + 1 + 1 + 1, oS), (s₁.heap.objs.size + 1 + 1 + 1 + 1 + 1, oP), (lC, W.listOf ([] : List Value).toArray 0), (lV, W.listOf ([] : List Value).toArray 0)] ++ [(s₁.heap.objs.size + 1, oV2), (lH, W.listOf [Value.int HA x1, Value.int HB x5].toArray 0)], p ∈ (s₁.heap.objs.size + 1, oV2) :: t9 := by
        rw [← ht9]
        intro p hp
        simp only [List.cons_append, List.nil_append, List.mem_cons, List.not_mem_nil, or_false] at hp ⊢
        rcases hp with h | h | h | h | h | h | h | h
        all_goals simp only [h, true_or, or_true]
      have e23 : s₁.heap.objs.size + 1 + 1 ≠ s₁.heap.objs.size + 1 + 1 + 1 := by omega
      have e24 : s₁.heap.objs.size + 1 + 1 ≠ s₁.heap.objs.size + 1 + 1 + 1 + 1 := by omega
      have e25 : s₁.heap.objs.size + 1 + 1 ≠ s₁.heap.objs.size + 1 + 1 + 1 + 1 + 1 := by omega
      have e34 : s₁.heap.objs.size + 1 + 1 + 1 ≠ s₁.heap.objs.size + 1 + 1 + 1 + 1 := by omega
      have e35 : s₁.heap.objs.size + 1 + 1 + 1 ≠ s₁.heap.objs.size + 1 + 1 + 1 + 1 + 1 := by omega
      have e45 : s₁.heap.objs.size + 1 + 1 + 1 + 1 ≠ s₁.heap.objs.size + 1 + 1 + 1 + 1 + 1 := by omega
      refine loop_pat (σ := (Obj × Obj × Obj × Obj) × (List Value × Nat) × (List Value × Nat))
        (fun c => [(s₁.heap.objs.size + 1 + 1, c.1.1), (s₁.heap.objs.size + 1 + 1 + 1, c.1.2.1), (s₁.heap.objs.size + 1 + 1 + 1 + 1, c.1.2.2.1), (s₁.heap.objs.size + 1 + 1 + 1 + 1 + 1, c.1.2.2.2), (lC, W.listOf c.2.1.1.toArray c.2.1.2), (lV, W.listOf c.2.2.1.toArray c.2.2.2)]) (fun _ => [])
        [Str.ofString "row", Str.ofString "factor", Str.ofString "chain", Str.ofString "seen", Str.ofString "steps", Str.ofString "line", Str.ofString "step", Str.ofString "number", Str.ofString "letters"]
        (fun i c rest => (∃ v, c.1.1.data = Data.cell v) ∧ (∃ v, c.1.2.1.data = Data.cell v) ∧ (∃ v, c.1.2.2.1.data = Data.cell v) ∧ (∃ v, c.1.2.2.2.data = Data.cell v) ∧ PLists rest c.2.1.1 ([chF HA, chF HB].take i) ∧ RowsAre rest c.2.2.1 ([valF HA, valF HB].take i))
        [s₁.heap.objs.size + 1 + 1, s₁.heap.objs.size + 1 + 1 + 1, s₁.heap.objs.size + 1 + 1 + 1 + 1, s₁.heap.objs.size + 1 + 1 + 1 + 1 + 1, lC, lV] ((oH, oW, oS, oP), ([], 0), ([], 0)) [(s₁.heap.objs.size + 1, oV2), (lH, W.listOf [Value.int HA x1, Value.int HB x5].toArray 0)]
        rfl (.tail _ (.head _)) F9 N9 hsub9 (fun _ => rfl) ?_ ⟨⟨_, dH⟩, ⟨_, dW⟩, ⟨_, dS⟩, ⟨_, dP⟩, .nil, .nil⟩ (fun _ h => nomatch h) ?_ ?_
      · intro p hp b hb
        simp only [List.mem_cons, List.not_mem_nil, or_false] at hp hb
        rcases hp with rfl | rfl
        · rcases hb with rfl | rfl | rfl | rfl | rfl | rfl
          · exact d12
          · exact d13
          · exact d14
          · exact d15
          · exact Nat.ne_of_lt (Nat.lt_trans bV hHC)
          · exact Nat.ne_of_lt (Nat.lt_trans bV hHV)
        · rcases hb with rfl | rfl | rfl | rfl | rfl | rfl
          · exact Ne.symm (Nat.ne_of_lt bH)
          · exact Ne.symm (Nat.ne_of_lt bW)
          · exact Ne.symm (Nat.ne_of_lt bS)
          · exact Ne.symm (Nat.ne_of_lt bP)
          · exact Nat.ne_of_lt hHC
          · exact Nat.ne_of_lt hHV
      · clear F9 N9 hsub9 oV9 t9 ht9
        intro i v c rest tail h tk u hv hI hrt hoff hsub F'' N''
        refine hideT ?_
        intro Qh1 hQt1
        have hvH : ∃ H tH, v = .int H tH ∧ 0 ≤ H ∧ H < 2 ^ 40 ∧ [chF HA, chF HB].take (i + 1) = [chF HA, chF HB].take i ++ [chF H] ∧ [valF HA, valF HB].take (i + 1) = [valF HA, valF HB].take i ++ [valF H] := by
          rcases i with _ | _ | i
          · cases hv; exact ⟨HA, _, rfl, hA0, hA1, rfl, rfl⟩
          · cases hv; exact ⟨HB, _, rfl, hB0, hB1, rfl, rfl⟩
          · cases hv
        obtain ⟨H, tH, rfl, hH0, hH1, hnC, hnV⟩ := hvH
        obtain ⟨⟨oH, oW, oS, oP⟩, ⟨cs, nC⟩, vs, nV⟩ := c
        obtain ⟨⟨vH, dH⟩, ⟨vW, dW⟩, ⟨vS, dS⟩, ⟨vP, dP⟩, hCs, hVs⟩ := hI
        dsimp only at dH dW dS dP hCs hVs
        dsimp only [names, kstB, List.contains_nil, List.cons_append, List.nil_append] at F'' N''
        have hok := heap_ok hH0 hH1
        have mtV : (s₁.heap.objs.size + 1, oV2) ∈ tail := hrt _ (hsub _ (.head _))
        have hT : Six (s₁.heap.objs.size + 1 + 1) (s₁.heap.objs.size + 1 + 1 + 1) (s₁.heap.objs.size + 1 + 1 + 1 + 1) (s₁.heap.objs.size + 1 + 1 + 1 + 1 + 1) lC lV tail := fun p hp =>
          ⟨hoff p hp _ (.head _), hoff p hp _ (.tail _ (.head _)), hoff p hp _ (.tail _ (.tail _ (.head _))), hoff p hp _ (.tail _ (.tail _ (.tail _ (.head _)))), hoff p hp _ (.tail _ (.tail _ (.tail _ (.tail _ (.head _))))), hoff p hp _ (.tail _ (.tail _ (.tail _ (.tail _ (.tail _ (.head _))))))⟩
        have fH : ∀ p ∈ (s₁.heap.objs.size + 1 + 1 + 1, oW) :: (s₁.heap.objs.size + 1 + 1 + 1 + 1, oS) :: (s₁.heap.objs.size + 1 + 1 + 1 + 1 + 1, oP) :: (lC, W.listOf cs.toArray nC) :: (lV, W.listOf vs.toArray nV) :: tail, p.1 ≠ s₁.heap.objs.size + 1 + 1 :=
          List.forall_mem_cons.mpr ⟨Ne.symm e23, List.forall_mem_cons.mpr ⟨Ne.symm e24, List.forall_mem_cons.mpr ⟨Ne.symm e25, List.forall_mem_cons.mpr ⟨Ne.symm (Nat.ne_of_lt (Nat.lt_trans bH hHC)), List.forall_mem_cons.mpr ⟨Ne.symm (Nat.ne_of_lt (Nat.lt_trans bH hHV)), fun p hp => (hT p hp).1⟩⟩⟩⟩⟩
        k_steps
        unfold Hold
        rename Fr _ _ _ _ => F9
        rename News _ _ _ _ => N9
        rename_i h12 oH1 dH1
        with_unfolding_all refine' use_does (quot_does _ H tH hH0 hH1) ?k1 F9 ?k3 N9 ?k5 ?k6 ⟨rfl, rfl⟩ ?k8 ?k9 ?_
        case k1 => k_asm
        case k3 => k_asm
        case k5 => k_asm
        case k6 => exact rfl
        case k8 => ktr_room
        case k9 => ktr_units
        intro r1 tl1 h13 tk13 F1 N1 ho1 hout1
        obtain ⟨tl1', e1, Dr, rxs, rn, rfl, mr, hr⟩ := hout1
        obtain rfl := List.append_cancel_left e1
        have N2 : News s₁.heap s₁.heap.objs.size h13 ((s₁.heap.objs.size + 1 + 1, oH1) :: (s₁.heap.objs.size + 1 + 1 + 1, oW) :: (s₁.heap.objs.size + 1 + 1 + 1 + 1, oS) :: (s₁.heap.objs.size + 1 + 1 + 1 + 1 + 1, oP) :: (lC, W.listOf cs.toArray nC) :: (lV, W.listOf vs.toArray nV) :: (tail ++ tl1)) := N1
        have hT1 := hT.app ho1
        have mr1 : (Dr, W.listOf rxs.toArray rn) ∈ tail ++ tl1 := List.mem_append.mpr (.inr mr)
        have mtV1 : (s₁.heap.objs.size + 1, oV2) ∈ tail ++ tl1 := List.mem_append.mpr (.inl mtV)
        have hsubA : ∀ p ∈ tail, p ∈ tail ++ tl1 := fun p hp => List.mem_append.mpr (.inl hp)
        have hfreshA : ∀ p ∈ tl1, ∀ q ∈ tail, q.1 ≠ p.1 := fun p hp q hq => ho1 q (.tail _ (.tail _ (.tail _ (.tail _ (.tail _ (.tail _ hq)))))) p hp
        clear N1 N9 ho1 fH mr
        generalize hTA : tail ++ tl1 = TA at N2 hT1 mr1 mtV1 hsubA
        have fW : ∀ p ∈ (s₁.heap.objs.size + 1 + 1 + 1 + 1, oS) :: (s₁.heap.objs.size + 1 + 1 + 1 + 1 + 1, oP) :: (lC, W.listOf cs.toArray nC) :: (lV, W.listOf vs.toArray nV) :: TA, p.1 ≠ s₁.heap.objs.size + 1 + 1 + 1 :=
          List.forall_mem_cons.mpr ⟨Ne.symm e34, List.forall_mem_cons.mpr ⟨Ne.symm e35, List.forall_mem_cons.mpr ⟨Ne.symm (Nat.ne_of_lt (Nat.lt_trans bW hHC)), List.forall_mem_cons.mpr ⟨Ne.symm (Nat.ne_of_lt (Nat.lt_trans bW hHV)), fun p hp => (hT1 p hp).2.1⟩⟩⟩⟩
        k_steps
        unfold Hold
        rename Fr _ _ _ _ => F9
        rename News _ _ _ _ => N9
        rename_i h14 oW1 dW1
        have hfac : 1 ≤ 1 + (H.fdiv 96).fmod 50 ∧ 1 + (H.fdiv 96).fmod 50 ≤ 50 := by
          rw [Int.fmod_eq_emod_of_nonneg _ (by decide)]; omega
        have hwh : 0 ≤ (H.fdiv 28800).fmod 30 ∧ (H.fdiv 28800).fmod 30 ≤ 29 := by
          rw [Int.fmod_eq_emod_of_nonneg _ (by decide)]; omega
        with_unfolding_all refine' use_does (chain_does _ (quotF H) (1 + (H.fdiv 96).fmod 50) hfac.1 hfac.2 hok.rowq hok.rlen hok.rne) ?k1 F9 ?k3 N9 ?k5 ?k6 ⟨rfl, _, _, rfl, Dr, rxs, rn, rfl, .tail _ (.tail _ (.tail _ (.tail _ (.tail _ (.tail _ mr1))))), hr⟩ ?k8 ?k9 ?_
        case k1 => k_asm
        case k3 => k_asm
        case k5 => k_asm
        case k6 => exact rfl
        case k8 => ktr_room
        case k9 => ktr_units
        intro r2 tl2 h15 tk15 F1 N1 ho2 hout2
        obtain ⟨tl2', e2, Dc, cxs, cn, rfl, mc, hcx⟩ := hout2
        obtain rfl := List.append_cancel_left e2
        have N2 : News s₁.heap s₁.heap.objs.size h15 ((s₁.heap.objs.size + 1 + 1, oH1) :: (s₁.heap.objs.size + 1 + 1 + 1, oW1) :: (s₁.heap.objs.size + 1 + 1 + 1 + 1, oS) :: (s₁.heap.objs.size + 1 + 1 + 1 + 1 + 1, oP) :: (lC, W.listOf cs.toArray nC) :: (lV, W.listOf vs.toArray nV) :: (TA ++ tl2)) := N1
        have hT2 := hT1.app ho2
        have mr2 : (Dr, W.listOf rxs.toArray rn) ∈ TA ++ tl2 := List.mem_append.mpr (.inl mr1)
        have mc2 : (Dc, W.listOf cxs.toArray cn) ∈ TA ++ tl2 := List.mem_append.mpr (.inr mc)
        have hcx2 : PairsAre (TA ++ tl2) cxs (chF H) := PairsAre.mono (fun p hp => List.mem_append.mpr (.inr hp)) hcx
        have mtV2 : (s₁.heap.objs.size + 1, oV2) ∈ TA ++ tl2 := List.mem_append.mpr (.inl mtV1)
        have hsubB : ∀ p ∈ tail, p ∈ TA ++ tl2 := fun p hp => List.mem_append.mpr (.inl (hsubA p hp))
        have hfreshB : ∀ p ∈ tl2, ∀ q ∈ TA, q.1 ≠ p.1 := fun p hp q hq => ho2 q (.tail _ (.tail _ (.tail _ (.tail _ (.tail _ (.tail _ hq)))))) p hp
        clear N1 N9 ho2 fW
        generalize hTB : TA ++ tl2 = TB at N2 hT2 mr2 mc2 hcx2 mtV2 hsubB
        obtain ⟨ca, cb, crest, hch, hcb0, hcba, hca, hrun⟩ := hok.head
        rw [hch] at hcx2
        obtain ⟨p0, n0, ta0, tb0, cxr, hcxe, mp0, hcr⟩ : ∃ p0 n0 ta0 tb0 cxr, cxs = Value.ref p0 :: cxr ∧ (p0, pairObj ca cb ta0 tb0 n0) ∈ TB ∧ PairsAre TB cxr crest := by
          cases hcx2 with
          | cons hm hr => exact ⟨_, _, _, _, _, rfl, hm, hr⟩
        have hc0 : cxs[0]? = some (Value.ref p0) := by rw [hcxe]; rfl
        k_steps
        unfold Hold
        rename News _ _ _ _ => N9
        have mcB : ∀ {b1 b2 b3 b4 b5 b6 : Addr × Obj}, ∀ p ∈ TB, p ∈ b1 :: b2 :: b3 :: b4 :: b5 :: b6 :: TB := fun p hp => .tail _ (.tail _ (.tail _ (.tail _ (.tail _ (.tail _ hp)))))
        refine item_pos 0 N9 (mcB _ mc2) rfl (by decide) hc0 ?_ (by with_unfolding_all rfl)
        k_steps
        unfold Hold
        refine item_pos 0 N9 (mcB _ mc2) rfl (by decide) hc0 ?_ (by with_unfolding_all rfl)
        k_steps
        unfold Hold
        have hf4 : 0 ≤ H.fmod 4 ∧ H.fmod 4 < 4 := by
          rw [Int.fmod_eq_emod_of_nonneg _ (by decide)]; omega
        refine KXi.item (n := 4) rfl (by omega) (by omega) (by decide) (fun _ => ?_)
        k_steps
        unfold Hold
        rename Fr _ _ _ _ => F9
        have hmk := mark_ok H
        with_unfolding_all refine' use_does (run_does ca cb (markF H) hmk.1 hmk.2 (mark_reply H) hcb0 hcba (by omega)) ?k1 F9 ?k3 N9 ?k5 ?k6 ⟨_, _, _, rfl⟩ ?k8 ?k9 ?_
        case k1 => k_asm
        case k3 => k_asm
        case k5 => k_asm
        case k6 => exact rfl
        case k8 => ktr_room
        case k9 => ktr_units
        intro r3 tl3 h16 tk16 F1 N1 ho3 hout3
        obtain ⟨Dx, xxs, xn, rfl, mx, hxx⟩ := hout3
        rw [hrun] at hxx
        k_steps
        unfold Hold
        refine ne_ints_same N1 mx hxx (List.mem_append.mpr (.inl (mcB _ mr2))) hr (by ktr_units) ?_
        have N2 : News s₁.heap s₁.heap.objs.size h16 ((s₁.heap.objs.size + 1 + 1, oH1) :: (s₁.heap.objs.size + 1 + 1 + 1, oW1) :: (s₁.heap.objs.size + 1 + 1 + 1 + 1, oS) :: (s₁.heap.objs.size + 1 + 1 + 1 + 1 + 1, oP) :: (lC, W.listOf cs.toArray nC) :: (lV, W.listOf vs.toArray nV) :: (TB ++ tl3)) := N1
        have hT3 := hT2.app ho3
        have lB3 : ∀ p ∈ TB, p ∈ TB ++ tl3 := fun p hp => List.mem_append.mpr (.inl hp)
        have mr3 := lB3 _ mr2
        have mc3 := lB3 _ mc2
        have mp3 := lB3 _ mp0
        have mtV3 := lB3 _ mtV2
        have hcx3 := PairsAre.mono lB3 hcx2
        have hsubC : ∀ p ∈ tail, p ∈ TB ++ tl3 := fun p hp => lB3 _ (hsubB p hp)
        have hfreshC : ∀ p ∈ tl3, ∀ q ∈ TB, q.1 ≠ p.1 := fun p hp q hq => ho3 q (mcB _ hq) p hp
        clear N1 N9 ho3 mx hxx
        generalize hTC : TB ++ tl3 = TC at N2 hT3 mr3 mc3 mp3 mtV3 hcx3 hsubC lB3
        have fS : ∀ p ∈ (s₁.heap.objs.size + 1 + 1 + 1 + 1 + 1, oP) :: (lC, W.listOf cs.toArray nC) :: (lV, W.listOf vs.toArray nV) :: TC, p.1 ≠ s₁.heap.objs.size + 1 + 1 + 1 + 1 :=
          List.forall_mem_cons.mpr ⟨Ne.symm e45, List.forall_mem_cons.mpr ⟨Ne.symm (Nat.ne_of_lt (Nat.lt_trans bS hHC)), List.forall_mem_cons.mpr ⟨Ne.symm (Nat.ne_of_lt (Nat.lt_trans bS hHV)), fun p hp => (hT3 p hp).2.2.1⟩⟩⟩
        k_steps
        unfold Hold
        rename Fr _ _ _ _ => F9
        rename News _ _ _ _ => N9
        rename_i h17 oS1 dS1
        obtain ⟨WH, hWH⟩ : ∃ W, W = (H.fdiv 28800).fmod 30 * (1 + (H.fdiv 96).fmod 50) := ⟨_, rfl⟩
        have hWb : 0 ≤ WH ∧ WH ≤ 29 * 50 := by
          rw [hWH]
          exact ⟨Int.mul_nonneg hwh.1 (by omega), Int.mul_le_mul hwh.2 hfac.2 (by omega) (by decide)⟩
        have dW2 : ∃ t, oW1.data = Data.cell (some (Value.int WH t)) := by rw [hWH]; exact ⟨_, dW1⟩
        obtain ⟨tWH, dW2⟩ := dW2
        clear dW1
        generalize hNW : [(s₁.heap.objs.size + 1 + 1, oH1), (s₁.heap.objs.size + 1 + 1 + 1, oW1), (s₁.heap.objs.size + 1 + 1 + 1 + 1 + 1, oP), (lC, W.listOf cs.toArray nC), (lV, W.listOf vs.toArray nV)] ++ TC = NW
        have wW : (s₁.heap.objs.size + 1 + 1 + 1, oW1) ∈ NW := by rw [← hNW]; exact .tail _ (.head _)
        have wC : (Dc, W.listOf cxs.toArray cn) ∈ NW := by rw [← hNW]; exact .tail _ (.tail _ (.tail _ (.tail _ (.tail _ mc3))))
        have wp : (p0, pairObj ca cb ta0 tb0 n0) ∈ NW := by rw [← hNW]; exact .tail _ (.tail _ (.tail _ (.tail _ (.tail _ mp3))))
        have hsubW : ∀ p ∈ [(s₁.heap.objs.size + 1 + 1 + 1 + 1, oS1)] ++ NW, p ∈ (s₁.heap.objs.size + 1 + 1, oH1) :: (s₁.heap.objs.size + 1 + 1 + 1, oW1) :: (s₁.heap.objs.size + 1 + 1 + 1 + 1, oS1) :: (s₁.heap.objs.size + 1 + 1 + 1 + 1 + 1, oP) :: (lC, W.listOf cs.toArray nC) :: (lV, W.listOf vs.toArray nV) :: TC := by
          rw [← hNW]
          intro p hp
          simp only [List.cons_append, List.nil_append, List.mem_cons] at hp ⊢
          rcases hp with h | h | h | h | h | h | h
          all_goals simp only [h, true_or, or_true]
        have hoffW : ∀ p ∈ NW, ∀ b ∈ [s₁.heap.objs.size + 1 + 1 + 1 + 1], p.1 ≠ b := by
          intro p hp b hb
          rw [List.mem_singleton.mp hb]
          rw [← hNW] at hp
          rcases List.mem_cons.mp hp with rfl | hp
          · exact e24
          · rcases List.mem_cons.mp hp with rfl | hp
            · exact e34
            · exact fS p hp
        clear fS
        refine loop_while (σ := Obj × Int × Tok) (fun c => [(s₁.heap.objs.size + 1 + 1 + 1 + 1, c.1)]) (fun _ => []) [] (fun k c _ => c.1.data = Data.cell (some (.int c.2.1 c.2.2)) ∧ (∃ e : Nat, c.2.1 = 2 ^ e) ∧ 1 ≤ c.2.1 ∧ (c.2.1 = 1 ∨ c.2.1 < 2 * (ca + WH)) ∧ k = (ca + WH - c.2.1).toNat) [s₁.heap.objs.size + 1 + 1 + 1 + 1] _ (oS1, 1, _) NW F9 N9 hsubW (fun _ => rfl) hoffW ⟨dS1, ⟨0, rfl⟩, Int.le_refl _, .inl rfl, rfl⟩ (fun _ h => nomatch h) ?_
        clear F9 N9 hsubW
        intro k c tlw h tk u2 hI hlt4 hoff4 F'' N''
        obtain ⟨oS2, S, tS⟩ := c
        obtain ⟨dS2, ⟨eS, heS⟩, hS1, hS2, hSk⟩ := hI
        dsimp only at dS2 heS hS1 hS2 hSk
        dsimp only [names, kstB, List.nil_append, List.cons_append] at F'' N''
        have wW2 : (s₁.heap.objs.size + 1 + 1 + 1, oW1) ∈ tlw ++ NW := List.mem_append.mpr (.inr wW)
        have wp2 : (p0, pairObj ca cb ta0 tb0 n0) ∈ tlw ++ NW := List.mem_append.mpr (.inr wp)
        have offS : ∀ p ∈ tlw ++ NW, p.1 ≠ s₁.heap.objs.size + 1 + 1 + 1 + 1 := fun p hp => hoff4 p hp _ (.head _)
        have hSb : S < 2 ^ 23 := by omega
        k_steps
        unfold Hold
        refine item_pos 0 N'' (.tail _ (List.mem_append.mpr (.inr wC))) rfl (by decide) hc0 ?_ (by with_unfolding_all rfl)
        k_steps
        · rename Fr _ _ _ _ => F8
          rename News _ _ _ _ => N8
          rename (S < ca + WH) => hlt9
          rename_i h18 oS3 dS3
          refine turn_next (oS3, S * 2, _) [] F8 N8 (List.forall_mem_singleton.mpr (.head _)) (fun p hp => .tail _ hp) (fun _ h => nomatch h) ⟨_, ?_, dS3, ⟨eS + 1, by rw [heS, Int.pow_succ]⟩, by dsimp only; omega, .inr (by dsimp only; omega), rfl⟩ (fun _ h => nomatch h) (fun z _ _ _ => rfl)
          dsimp only
          omega
        · unfold Hold
          rename (¬ S < ca + WH) => hge
          rename Fr _ _ _ _ => F9
          have N2 : News s₁.heap s₁.heap.objs.size h ((s₁.heap.objs.size + 1 + 1, oH1) :: (s₁.heap.objs.size + 1 + 1 + 1, oW1) :: (s₁.heap.objs.size + 1 + 1 + 1 + 1, oS2) :: (s₁.heap.objs.size + 1 + 1 + 1 + 1 + 1, oP) :: (lC, W.listOf cs.toArray nC) :: (lV, W.listOf vs.toArray nV) :: TC) := by
            intro p hp
            refine N'' p ?_
            rw [← hNW]
            simp only [List.cons_append, List.nil_append, List.mem_cons, List.mem_append] at hp ⊢
            rcases hp with h | h | h | h | h | h | h
            all_goals simp only [h, true_or, or_true]
          clear N'' hlt4 hoff4 offS wW2 wp2 wW wC wp hoffW hNW
          rw [← hch] at hcx3
          have hcl := hcx3.length
          have hclen := hok.clen
          have ht0 : 0 ≤ (H.fdiv 4800).fmod 6 ∧ (H.fdiv 4800).fmod 6 ≤ 5 := by
            rw [Int.fmod_eq_emod_of_nonneg _ (by decide)]; omega
          have hwhi : whiF H = WH := hWH.symm
          have hseen := hok.seen S eS heS ca cb crest hch (by rw [hwhi]; omega) (by rw [hwhi]; exact hS2)
          rw [hwhi] at hseen
          have mcL : ∀ {b1 b2 b3 b4 b5 b6 : Addr × Obj}, ∀ p ∈ TC, p ∈ b1 :: b2 :: b3 :: b4 :: b5 :: b6 :: TC := fun p hp => .tail _ (.tail _ (.tail _ (.tail _ (.tail _ (.tail _ hp)))))
          generalize hLED : (s₁.heap.objs.size + 1 + 1, oH1) :: (s₁.heap.objs.size + 1 + 1 + 1, oW1) :: (s₁.heap.objs.size + 1 + 1 + 1 + 1, oS2) :: (s₁.heap.objs.size + 1 + 1 + 1 + 1 + 1, oP) :: (lC, W.listOf cs.toArray nC) :: (lV, W.listOf vs.toArray nV) :: TC = LED at N2
          have ll : ∀ p ∈ TC, p ∈ LED := fun p hp => hLED ▸ mcL p hp
          have llH : (s₁.heap.objs.size + 1 + 1, oH1) ∈ LED := hLED ▸ .head _
          have llW : (s₁.heap.objs.size + 1 + 1 + 1, oW1) ∈ LED := hLED ▸ .tail _ (.head _)
          have llS : (s₁.heap.objs.size + 1 + 1 + 1 + 1, oS2) ∈ LED := hLED ▸ .tail _ (.tail _ (.head _))
          have mcE := ll _ mc3
          have hcxE := PairsAre.mono ll hcx3
          refine LCp.SrcLP.ledger rfl F9 N2 mcE (by rw [List.size_toArray, sizeLine_eq]; omega) ?_
          intro gg3
          refine rest_P (n := cxs.toArray.size) (fun i ys led => ∃ tl, led = tl ++ LED ∧ (∀ p ∈ tl, ∀ q ∈ LED, q.1 ≠ p.1) ∧ PairsAre led ys ((chF H).take i)) ?_ ?_ _ 0 [] _ (by omega) ⟨[], rfl, (fun _ h => nomatch h), .nil⟩
          · intro i ys led hi hJ v hv
            obtain ⟨tl, rfl, htl, hys⟩ := hJ
            obtain ⟨p, a, b, t, u, n, rfl, hpm, hpi⟩ := hcxE.get (i := i) (by simpa using hv)
            refine ⟨p, pairObj a b t u n, .int a t, .int b u, n, rfl, List.mem_append.mpr (.inr hpm), rfl, rfl, ?_⟩
            intro I oI C oC D m₂ h tk E' hC hx1 hx2 F N off ne
            have hpq := List.mem_of_getElem? hpi
            obtain ⟨hb1, hb2, hb3⟩ := hok.pairs _ hpq
            have hsn := hseen _ hpq
            dsimp only at hb1 hb2 hb3 hsn
            have lfH : (s₁.heap.objs.size + 1 + 1, oH1) ∈ tl ++ LED := List.mem_append.mpr (.inr llH)
            have lfW : (s₁.heap.objs.size + 1 + 1 + 1, oW1) ∈ tl ++ LED := List.mem_append.mpr (.inr llW)
            have lfS : (s₁.heap.objs.size + 1 + 1 + 1 + 1, oS2) ∈ tl ++ LED := List.mem_append.mpr (.inr llS)
            clear F9 N2
            dsimp only
            k_steps
            unfold Hold
            rename Fr _ _ _ _ => F9
            rename News _ _ _ _ => N9
            with_unfolding_all refine' use_does (seen_does _ a b S ((H.fdiv 4800).fmod 6) WH hb1 hb2 (by omega) ht0.1 ht0.2 hWb.1 (by omega) hS1 (by omega) hsn) ?k1 F9 ?k3 N9 ?k5 ?k6 ⟨rfl, _, _, _, _, _, rfl⟩ ?k8 ?k9 ?_
            case k1 => k_asm
            case k3 => k_asm
            case k5 => k_asm
            case k6 => exact rfl
            case k8 => ktr_room
            case k9 => ktr_units
            intro v4 tl4 h18 tk18 F1 N1 ho4 hout4
            obtain ⟨tl4', e4, Dp, tp, up, np, rfl, mDp⟩ := hout4
            obtain rfl := List.append_cancel_left e4
            k_steps
            refine cend_new tl4 (by assumption) N1 (fun p hp => List.mem_append.mpr (.inl hp)) (fun p hp => List.mem_append.mpr (.inr hp)) off (fun p hp q hq => ho4 q hq p hp) (.inr ⟨W.listOf cxs.toArray cn, List.mem_append.mpr (.inr (List.mem_append.mpr (.inr mcE))), rfl, cn, rfl⟩) ⟨tl4 ++ tl, (List.append_assoc _ _ _).symm, ?_, ?_⟩
            · intro p hp q hq
              rcases List.mem_append.mp hp with hp | hp
              · exact ho4 q (.tail _ (.tail _ (.tail _ (List.mem_append.mpr (.inr hq))))) p hp
              · exact htl p hp q hq
            · rw [List.take_add_one, hpi, Option.toList_some]
              exact (PairsAre.mono (fun p hp => List.mem_append.mpr (.inr hp)) hys).append (.cons (List.mem_append.mpr (.inl mDp)) .nil)
          · rintro ys led ⟨tl, rfl, htl, hys⟩
            unfold LCg.FinA
            intro Dsn h' tk F' N' o5
            have od5 := Off1.mem o5
            rw [List.size_toArray, hcl, List.take_length] at hys
            clear F9 N2
            have mr4 : (Dr, W.listOf rxs.toArray rn) ∈ (Dsn, LCg.lst ys) :: (tl ++ LED) := .tail _ (List.mem_append.mpr (.inr (ll _ mr3)))
            dsimp only
            k_steps
            unfold Hold
            refine ne_pairs_same (ka := ys.length) N' (.head _) (PairsAre.mono (fun p hp => .tail _ hp) hys) (.tail _ (List.mem_append.mpr (.inr mcE))) (PairsAre.mono (fun p hp => .tail _ (List.mem_append.mpr (.inr hp))) hcxE) (by ktr_units) ?_
            have hrxl := hr.length
            have hrl6 := hok.rlen
            k_steps
            unfold Hold
            rename Fr _ _ _ _ => F9
            rename News _ _ _ _ => N9
            rename IsRange _ _ _ _ _ _ _ _ => R9
            have hz9 : (rxs.toArray.size : Int) = (quotF H).length := by rw [List.size_toArray, hrxl]
            have hst := hok.steps
            have hstn : ((stepsF H : Nat) : Int) = (quotF H).sum - 1 - (quotF H).length := by unfold stepsF; omega
            rename_i h18 tk18 t18 h19 Dl h20 lLn h21 F10 N10 h22 tk22 tz1 tz2 tz3
            clear F10 N10
            have hLl : ∀ q ∈ LED, q.1 ≠ Dl := fun q hq => Nat.ne_of_lt (AllLt.mem' lLn.2 q (List.mem_append.mpr (.inr hq)))
            rw [hz9] at R9
            refine loop_range (σ := Addr) (n := stepsF H) (fun _ => []) (fun c => [(Str.ofString "line", .ref c)]) [] (fun k c rest => (∃ xs n, (c, W.listOf (List.toArray xs) n) ∈ rest ∧ IntsAre xs (lineF k)) ∧ ∀ q ∈ LED, q.1 ≠ c) [] Dl _ rfl R9
              (small_one (by omega) (by omega) (by omega) (by omega)) (by rw [rangeSize_nat]; omega) F9 N9 (fun p hp => hp) (fun _ => rfl) (fun _ _ _ h => nomatch h) ⟨⟨[.int 1 _], 0, .head _, .cons 1 _ .nil⟩, hLl⟩ (List.forall_mem_singleton.mpr rfl) ?_ ?_
            · clear F9 N9 R9
              intro k c rest2 tail2 h tk t u3 hk hI hrt2 hoff2 hsub2 F'' N''
              refine hideQ ?_
              intro Qh4 hQt4
              obtain ⟨⟨lx, ln, ml, hlx⟩, hlf⟩ := hI
              have mlT := hrt2 _ ml
              have hlxl := hlx.length
              rw [lineF_len] at hlxl
              have hk10 : k < 11 := by omega
              dsimp only [names, kstB, List.contains_nil, List.nil_append] at F'' N''
              k_steps
              unfold Hold
              rename Fr _ _ _ _ => F9
              refine Assign_ListComp_Z ([0] ++ lineF k) (lineF k ++ [0]) (fun a b => a + b) F9 rfl (by with_unfolding_all rfl) (by with_unfolding_all rfl) (by decide) (by rfl) (by decide) (by rfl) (by rfl) (by decide) (by rfl) (by rfl) ?_
              k_steps
              unfold Hold
              rename News _ _ _ _ => N7
              rename Fr _ _ _ _ => F7
              refine zip_src (l1 := _) (l2 := _) rfl F7 N7 (.tail _ (.tail _ (.head _))) (.head _) (ints_app (.cons 0 _ .nil) hlx) (ints_app hlx (.cons 0 _ .nil)) (by show (lineF k).length + 1 ≤ 1000; rw [lineF_len]; omega) ?_ ?_
              · intro C oC i a b ta tb m₃ s₃ E' ha hb hoC hx1 hx2 F3 N3 hlt
                clear F7 N7
                k_steps
                exact ⟨⟨_, rfl⟩, _, _, rfl, fun _ _ e => e⟩
              · intro D zs h tk F3 N3 hltZ hzs
                clear F7 N7
                k_steps
                rename Fr _ _ _ _ => F8
                rename News _ _ _ _ => N8
                refine hQt4 _ _ ?_
                refine turn_next D [(D, LCg.lst zs)] F8 N8 (List.forall_mem_singleton.mpr (.head _)) (fun p hp => .tail _ (.tail _ (.tail _ (.tail _ (.tail _ hp))))) (List.forall_mem_singleton.mpr fun q hq => Nat.ne_of_lt (hltZ q (.tail _ (.tail _ (.tail _ (.tail _ hq)))))) ⟨⟨zs, zs.length, .head _, hzs⟩, fun q hq => Nat.ne_of_lt (hltZ q (.tail _ (.tail _ (.tail _ (.tail _ (hrt2 _ (hsub2 _ (.tail _ (.tail _ (List.mem_append.mpr (.inr hq)))))))))))⟩ (List.forall_mem_singleton.mpr rfl) ?_
                intro z h1 h2 _
                have h5 : z ≠ Str.ofString "line" := h2 _ (.head _)
                repeat (first | rw [if_neg h5] | rw [if_neg h1])
                rfl
            · clear F9 N9 R9
              intro c tl5 h tk u4 ht5 hI F'' N''
              obtain ⟨⟨lx, ln, ml, hlx⟩, hlf⟩ := hI
              dsimp only [names, kstB, List.contains_nil, List.nil_append] at F'' N''
              have N2 : News s₁.heap s₁.heap.objs.size h ((s₁.heap.objs.size + 1 + 1, oH1) :: (s₁.heap.objs.size + 1 + 1 + 1, oW1) :: (s₁.heap.objs.size + 1 + 1 + 1 + 1, oS2) :: (s₁.heap.objs.size + 1 + 1 + 1 + 1 + 1, oP) :: (lC, W.listOf cs.toArray nC) :: (lV, W.listOf vs.toArray nV) :: ((c, W.listOf lx.toArray ln) :: TC)) := by
                intro p hp
                refine N'' p ?_
                have hp2 : p = (c, W.listOf lx.toArray ln) ∨ p ∈ LED := by
                  rw [← hLED]
                  simp only [List.mem_cons] at hp ⊢
                  rcases hp with h | h | h | h | h | h | h | h
                  all_goals simp only [h, true_or, or_true]
                rcases hp2 with rfl | hp2
                · exact ml
                · exact List.mem_append.mpr (.inr (.tail _ (.tail _ (List.mem_append.mpr (.inr hp2)))))
              have hT5 : Six (s₁.heap.objs.size + 1 + 1) (s₁.heap.objs.size + 1 + 1 + 1) (s₁.heap.objs.size + 1 + 1 + 1 + 1) (s₁.heap.objs.size + 1 + 1 + 1 + 1 + 1) lC lV ((c, W.listOf lx.toArray ln) :: TC) := by
                refine List.forall_mem_cons.mpr ⟨⟨Ne.symm (hlf (_, oH1) (hLED ▸ .head _)), Ne.symm (hlf (_, oW1) (hLED ▸ .tail _ (.head _))), Ne.symm (hlf (_, oS2) (hLED ▸ .tail _ (.tail _ (.head _)))), Ne.symm (hlf (_, oP) (hLED ▸ .tail _ (.tail _ (.tail _ (.head _))))), Ne.symm (hlf (lC, W.listOf cs.toArray nC) (hLED ▸ .tail _ (.tail _ (.tail _ (.tail _ (.head _)))))), Ne.symm (hlf (lV, W.listOf vs.toArray nV) (hLED ▸ .tail _ (.tail _ (.tail _ (.tail _ (.tail _ (.head _)))))))⟩, hT3⟩
              have l5 : ∀ p ∈ TC, p ∈ (c, W.listOf lx.toArray ln) :: TC := fun p hp => .tail _ hp
              have mr5 := l5 _ mr3
              have mc5 := l5 _ mc3
              have mtV5 := l5 _ mtV3
              have hcx5 := PairsAre.mono l5 hcx3
              have hsub5 : ∀ p ∈ tail, p ∈ (c, W.listOf lx.toArray ln) :: TC := fun p hp => l5 _ (hsubC p hp)
              have hfresh5 : ∀ q ∈ TC, q.1 ≠ c := fun q hq => hlf q (ll q hq)
              clear N'' ht5 hlf
              generalize hT5e : (c, W.listOf lx.toArray ln) :: TC = T5 at N2 hT5 mr5 mc5 mtV5 hcx5 hsub5
              have ml5 : (c, W.listOf lx.toArray ln) ∈ T5 := hT5e ▸ .head _
              have m5L : ∀ {b1 b2 b3 b4 b5 b6 : Addr × Obj}, ∀ p ∈ T5, p ∈ b1 :: b2 :: b3 :: b4 :: b5 :: b6 :: T5 := fun p hp => .tail _ (.tail _ (.tail _ (.tail _ (.tail _ (.tail _ hp)))))
              have hpne : 1 ≤ (chF H).length := by rw [hch]; simp
              k_steps
              unfold Hold
              rename Fr _ _ _ _ => F9
              with_unfolding_all refine' use_does (plays_does (chF H) (fun p hp => ⟨(hok.pairs p hp).1, (hok.pairs p hp).2.1, by have := (hok.pairs p hp).2.2; omega⟩) hok.clen hpne hok.mvs hok.sz1 hok.sz2) ?k1 F9 ?k3 N2 ?k5 ?k6 ⟨_, rfl, Dc, cxs, cn, rfl, m5L _ mc5, PairsAre.mono m5L hcx5⟩ ?k8 ?k9 ?_
              case k1 => k_asm
              case k3 => k_asm
              case k5 => k_asm
              case k6 => exact rfl
              case k8 => ktr_room
              case k9 => ktr_units
              intro r6 tl6 h26 tk26 F1 N1 ho6 hout6
              obtain ⟨dP6, odP, kvP, rfl, mdP, hdP, heP, hsP⟩ := hout6
              have hT6 := hT5.app ho6
              have mdP6 : (dP6, odP) ∈ T5 ++ tl6 := by
                obtain ⟨es6, ep6, _, hdt, _⟩ := hdP
                rcases List.mem_cons.mp mdP with h | mdP
                · rw [(Prod.mk.inj h).2, dH1] at hdt; exact nomatch hdt
                rcases List.mem_cons.mp mdP with h | mdP
                · rw [(Prod.mk.inj h).2, dW2] at hdt; exact nomatch hdt
                rcases List.mem_cons.mp mdP with h | mdP
                · rw [(Prod.mk.inj h).2, dS2] at hdt; exact nomatch hdt
                rcases List.mem_cons.mp mdP with h | mdP
                · rw [(Prod.mk.inj h).2, dP] at hdt; exact nomatch hdt
                rcases List.mem_cons.mp mdP with h | mdP
                · rw [(Prod.mk.inj h).2] at hdt; exact nomatch hdt
                rcases List.mem_cons.mp mdP with h | mdP
                · rw [(Prod.mk.inj h).2] at hdt; exact nomatch hdt
                exact mdP
              have l6 : ∀ p ∈ T5, p ∈ T5 ++ tl6 := fun p hp => List.mem_append.mpr (.inl hp)
              have mr6 := l6 _ mr5
              have mc6 := l6 _ mc5
              have mtV6 := l6 _ mtV5
              have ml6 := l6 _ ml5
              have hcx6 := PairsAre.mono l6 hcx5
              have hsub6 : ∀ p ∈ tail, p ∈ T5 ++ tl6 := fun p hp => l6 _ (hsub5 p hp)
              have hfresh6 : ∀ p ∈ tl6, ∀ q ∈ T5, q.1 ≠ p.1 := fun p hp q hq => ho6 q (m5L _ hq) p hp
              have N3 : News s₁.heap s₁.heap.objs.size h26 ((s₁.heap.objs.size + 1 + 1, oH1) :: (s₁.heap.objs.size + 1 + 1 + 1, oW1) :: (s₁.heap.objs.size + 1 + 1 + 1 + 1, oS2) :: (s₁.heap.objs.size + 1 + 1 + 1 + 1 + 1, oP) :: (lC, W.listOf cs.toArray nC) :: (lV, W.listOf vs.toArray nV) :: (T5 ++ tl6)) := N1
              clear N1 N2 ho6 F9 mdP
              generalize hT6e : T5 ++ tl6 = T6 at N3 hT6 mr6 mc6 mtV6 ml6 hcx6 hsub6 mdP6
              have fP : ∀ p ∈ (lC, W.listOf cs.toArray nC) :: (lV, W.listOf vs.toArray nV) :: T6, p.1 ≠ s₁.heap.objs.size + 1 + 1 + 1 + 1 + 1 :=
                List.forall_mem_cons.mpr ⟨Ne.symm (Nat.ne_of_lt (Nat.lt_trans bP hHC)), List.forall_mem_cons.mpr ⟨Ne.symm (Nat.ne_of_lt (Nat.lt_trans bP hHV)), fun p hp => (hT6 p hp).2.2.2.1⟩⟩
              w_top off
              k_with "z0 subscriptTail Name Name ref int" => (((with_reducible show wpAny _ _ (subscriptTail _ _ (Value.ref _) (Value.int _ _)) _ _ _); refine Hold.mk ?_))
              k_with "z0 eval ListComp" => (((with_reducible show wpAny _ _ (eval (PySem.Expr.ListComp (PySem.Expr.BinOp _ Operator.Add _ _) _ _ _) _) _ _ _); refine Hold.mk ?_))
              k_with "z0 call type:bytes" => (((with_reducible show wpAny _ _ (call (Value.type "bytes") _) _ _ _); refine Hold.mk ?_))
              k_with "z0 binaryOp Mult bytes int" => (((with_reducible show wpAny _ _ (binaryOp _ (Value.bytes _ _) (Value.int _ _)) _ _ _); refine Hold.mk ?_))
              k_with "z0 binaryOp Add bytes bytes" => (((with_reducible show wpAny _ _ (binaryOp _ (Value.bytes _ _) (Value.bytes _ _)) _ _ _); refine Hold.mk ?_))
              k_with "z0 eval IfExp" => (((with_reducible show wpAny _ _ (eval (PySem.Expr.IfExp _ _ _ _) _) _ _ _); refine Hold.mk ?_))
              k_with "z0 compareOp NotEq bytes bytes" => (((with_reducible show wpAny _ _ (compareOp _ (Value.bytes _ _) (Value.bytes _ _)) _ _ _); refine Hold.mk ?_))
              k_steps
              unfold Hold
              rename Fr _ _ _ _ => F9
              rename News _ _ _ _ => N9
              rename_i h27 oP1 dP1
              clear fP
              have hpl := hok.pl
              have hpll := hok.pll
              have hkl := heP.length
              refine ListComp_D F9 (by with_unfolding_all rfl) (by decide) (by rfl) (by decide) (by rfl) ?_
              k_steps
              have m7 : ∀ {b1 b2 b3 b4 b5 b6 : Addr × Obj}, ∀ p ∈ T6, p ∈ b1 :: b2 :: b3 :: b4 :: b5 :: b6 :: T6 := fun p hp => .tail _ (.tail _ (.tail _ (.tail _ (.tail _ (.tail _ hp)))))
              generalize hLED7 : (s₁.heap.objs.size + 1 + 1, oH1) :: (s₁.heap.objs.size + 1 + 1 + 1, oW1) :: (s₁.heap.objs.size + 1 + 1 + 1 + 1, oS2) :: (s₁.heap.objs.size + 1 + 1 + 1 + 1 + 1, oP1) :: (lC, W.listOf cs.toArray nC) :: (lV, W.listOf vs.toArray nV) :: T6 = LED7 at N9
              have ld7 : (dP6, odP) ∈ LED7 := hLED7 ▸ m7 _ mdP6
              have lP7 : (s₁.heap.objs.size + 1 + 1 + 1 + 1 + 1, oP1) ∈ LED7 := hLED7 ▸ .tail _ (.tail _ (.tail _ (.head _)))
              refine ⟨dP6, odP, kvP, LED7, rfl, rfl, F9, N9, ld7, hdP, hsP, by rw [sizeLine_eq]; omega, ?_⟩
              rintro s₂ ⟨g7, rfl⟩
              refine rest_U (n := kvP.length) (fun i ys led => led = LED7 ∧ IntsAre ys (((playsF (chF H)).take i).map fun p => (findE (playsF (chF H)) p.1).getD 0 * 16 ^ p.1.toNat)) ?_ ?_ _ 0 [] _ (by omega) ⟨rfl, .nil⟩
              · intro i ys led v I oI C oC D m₂ h tk E' hi hJ hv hC hx F N off ne
                refine hideQ ?_
                intro Qh5 hQt5
                obtain ⟨rfl, hys⟩ := hJ
                obtain ⟨k, y, hk, hik⟩ := hv
                obtain ⟨t, rfl⟩ := isInt_at hik
                obtain ⟨n, tn, hkn, hpk⟩ := heP.get hk
                have hmm := List.mem_of_getElem? hpk
                obtain ⟨q, hq⟩ := findE_some hmm
                dsimp only at hq hmm hpk
                have hk09 := hpl _ hmm
                dsimp only at hk09
                have hqb := findE_le hpl k
                rw [hq, Option.getD_some] at hqb
                obtain ⟨tq, htq⟩ := (heP.value k).2 q hq
                have hp16 := pow16 hk09.1 hk09.2.1
                have hpr : 0 ≤ q * 16 ^ k.toNat ∧ q * 16 ^ k.toNat < 2 ^ 57 := by
                  have h1 : q * 16 ^ k.toNat ≤ q * 16 ^ 9 := Int.mul_le_mul_of_nonneg_left hp16.2 hqb.1
                  have h2 : 0 ≤ q * 16 ^ k.toNat := Int.mul_nonneg hqb.1 (by omega)
                  omega
                clear F9 N9
                dsimp only
                k_steps
                unfold Hold
                rename News _ _ _ _ => N9
                refine kda_item N9 (.tail _ (.tail _ (.tail _ ld7))) hdP (intKind_is _ _ _ _) htq ?_
                k_steps
                refine hQt5 _ _ ?_
                refine cend_same (by assumption) (by assumption) off (by first | trivial | exact ld7) ⟨rfl, ?_⟩
                rw [List.take_add_one, hpk, Option.toList_some, List.map_append]
                refine ints_app hys ?_
                show IntsAre _ [(findE (playsF (chF H)) k).getD 0 * 16 ^ k.toNat]
                rw [hq]
                exact .cons _ _ .nil
              · rintro ys led ⟨rfl, hys⟩
                rw [hkl, List.take_length] at hys
                unfold LCg.FinE
                intro D2 h' tk F' N' o1
                clear F9 N9
                dsimp only
                k_steps
                unfold Hold
                rename Fr _ _ _ _ => F9
                rename News _ _ _ _ => N9
                change Fr _ _ _ (fun y => if y = Str.ofString "number" then some (Value.int (numbF H) _) else _) at F9
                have hnb := hok.numb
                generalize hNB : numbF H = NB at F9 hnb
                refine LCg.ListComp_U F9 (by with_unfolding_all rfl) (by decide) (by rfl) (by decide) (by rfl) ?_
                k_steps
                have hlb := hok.line
                have hll := hlx.length
                rw [lineF_len] at hll
                have ll8 : (c, W.listOf lx.toArray ln) ∈ (D2, LCg.lst ys) :: led := .tail _ (hLED7 ▸ m7 _ ml6)
                refine LCg.CompSrc.ledger rfl F9 N9 ll8 (by rw [List.size_toArray, sizeLine_eq]; omega) ?_
                intro gg4
                refine rest_U (n := lx.toArray.size) (fun i ys' led' => led' = (D2, LCg.lst ys) :: led ∧ IntsAre ys' (((lineF (stepsF H)).take i).map fun x => 65 + x)) ?_ ?_ _ 0 [] _ (by omega) ⟨rfl, .nil⟩
                · intro i ys' led' v I oI C oC D m₂ h tk E' hi hJ hv hC hx F N off ne
                  refine hideQ ?_
                  intro Qh5 hQt5
                  obtain ⟨rfl, hys'⟩ := hJ
                  obtain ⟨x, tx, rfl, hxi⟩ := ints_at hlx (by simpa using hv)
                  have hxb := hlb _ (List.mem_of_getElem? hxi)
                  clear F9 N9
                  dsimp only
                  k_steps
                  refine hQt5 _ _ ?_
                  refine cend_same (by assumption) (by assumption) off (by first | trivial | exact .inr ⟨W.listOf lx.toArray ln, ll8, rfl, ln, rfl⟩) ⟨rfl, ?_⟩
                  rw [List.take_add_one, hxi, Option.toList_some, List.map_append]
                  exact ints_app hys' (.cons _ _ .nil)
                · rintro ys' led' ⟨rfl, hys'⟩
                  rw [List.size_toArray, hll, ← lineF_len (stepsF H), List.take_length] at hys'
                  unfold LCg.FinE
                  intro D3 h' tk F' N' o3
                  clear F9 N9
                  dsimp only
                  k_steps
                  unfold Hold
                  rename Fr _ _ _ _ => F9
                  rename News _ _ _ _ => N9
                  have hyl := hys'.length
                  rw [List.length_map, lineF_len] at hyl
                  refine bytes_K F9 N9 (listIn N9 (.head _)) hys' ?_ (by rw [sizeLine_eq]; omega) rfl ?_
                  · intro n hn
                    obtain ⟨x, hx, rfl⟩ := List.mem_map.mp hn
                    have := hlb x hx
                    omega
                  intro h8 t8 k8 F' N' _
                  have N2 : News s₁.heap s₁.heap.objs.size h8 ((s₁.heap.objs.size + 1 + 1, oH1) :: (s₁.heap.objs.size + 1 + 1 + 1, oW1) :: (s₁.heap.objs.size + 1 + 1 + 1 + 1, oS2) :: (s₁.heap.objs.size + 1 + 1 + 1 + 1 + 1, oP1) :: (lC, W.listOf cs.toArray nC) :: (lV, W.listOf vs.toArray nV) :: T6) := fun p hp => N' p (.tail _ (.tail _ (hLED7 ▸ hp)))
                  clear F9 N9 N' ld7 lP7 ll8 o1 o3 hys hys' hyl hLED7
                  dsimp only
                  k_steps
                  unfold Hold
                  refine bytes_mul_any (by decide) (by omega) (by omega) (by decide) (fun t' k' => ?_)
                  dsimp only
                  k_steps
                  unfold Hold
                  refine bytes_add_K ?_ rfl (fun t' k' => ?_)
                  · simp only [List.size_toArray, List.length_map, lineF_len, List.length_flatten, List.map_replicate, List.length_cons, List.length_nil, List.sum_replicate_nat]
                    omega
                  dsimp only
                  w_top off
                  k_with_none
                  k_with "z0 pyIter ref" => (((with_reducible show wpAny _ _ (pyIter (Value.ref _)) (fun it s₂ => LoopAtV _ _ _ _ _ _ _ _ _ it s₂) _ _); refine Hold.mk ?_))
                  k_with "z range" => ((with_unfolding_all refine' range1_rows ?kF ?kN ?_); (case kF => k_asm); (case kN => k_asm))
                  k_with "z0 getItem ref int" => ((k_here; (with_reducible show wpAny _ _ (getItem (Value.ref _) (Value.int (-1) _)) _ _ _); k_dflt (refine' get_last ?k1 ?k2 ?_; (case k1 => k_asm); (case k2 => k_mem); k_whole)))
                  k_with "z1 setItem ref int" => ((k_here; (with_reducible show wpAny _ _ (setItem (Value.ref _) (Value.int (-1) _) _) _ _ _); k_dflt (refine' set_last ?k1 ?k2 ?k3 ?_; (case k1 => k_asm); (case k2 => k_asm); (case k3 => k_upd); k_whole)))
                  k_with "z2 call builtin:list.append" => ((k_here; (with_reducible show wpAny _ _ (call (Value.builtin _) [Value.ref _, _]) _ _ _); k_dflt (refine' append_K ?k1 ?k2 ?k3 ?_ ?z; (case k1 => k_asm); (case k2 => k_asm); (case k3 => k_upd); (case z => first | assumption | size_fits | (simp only [List.size_toArray, List.length_append, List.length_cons, List.length_nil, sizeLine_eq]; omega)); k_whole)))
                  k_with "z0 exec While Compare cons nil" => (((with_reducible show wpAny _ _ (exec (Stmt.While _ _ _ _) _) _ _ _); refine Hold.mk ?_))
                  k_with "z kmk_list" => (exact listIn (by k_asm) (by k_mem))
                  k_with "z is_list" => (exact listIn (by k_asm) (by k_mem))
                  k_with "z k_mem" => (((show _ ∈ (_ : List (Addr × Obj))); with_reducible assumption))
                  k_with "z3 subscriptTail" => ((k_here; (with_reducible show wpAny _ _ (subscriptTail _ (PySem.Expr.Slice none none (some _) _) (Value.ref _) (Value.ref _)) _ _ _); k_dflt (refine' rev_list ?F ?N ?l ?k ?z ?_ ?s ?t; (case F => k_asm); (case N => k_asm); (case l => k_mem); (case k => exact IsPart.int _ _); (case s => with_unfolding_all rfl); (case t => kmk_pure); (case z => (simp only [sizeLine_eq]; omega)))))
                  k_with "z0 exec For Name Subscript cons nil" => ((with_unfolding_all (refine' my_For ?kF ?k1 ?k2 ?_; (case k1 => exact rfl); (case k2 => exact rfl)); (case kF => k_asm)))
                  k_with "z0 exec For Name Call cons nil" => ((with_unfolding_all (refine' my_For ?kF ?k1 ?k2 ?_; (case k1 => exact rfl); (case k2 => exact rfl)); (case kF => k_asm)))
                  k_with "z0 exec For Name Name cons nil" => ((with_unfolding_all (refine' my_For ?kF ?k1 ?k2 ?_; (case k1 => exact rfl); (case k2 => exact rfl)); (case kF => k_asm)))
                  k_with "z enter" => (refine' code_defC ?k1 ?k2 ?k3 ?k4 ?k5 ?kA ?kF ?kK ?k6 ?k7 ?k8 ?k9 ?kB ?kD ?_ ?c2 ?c3 ?c4; (case kA => exact rfl); (case kF => exact rfl); (case kK => assumption); (case k1 => k_asm); (case k2 => k_asm); (case k3 => k_asm); (case k4 => k_asm); (case k5 => k_asm); (case k6 => k_is); (case k7 => k_is); (case k8 => ktr_room); (case k9 => exact BindsTo.of_eq rfl); (case kB => exact rfl); (case kD => decide +kernel); (case c2 => exact rfl); (case c3 => exact rfl); (case c4 => exact rfl); k_whole)
                  k_with "z0 eval ListComp" => (((with_reducible show wpAny _ _ (eval (Expr.ListComp _ _ _ _) _) _ _ _); refine Hold.mk ?_))
                  k_with "z0 exec Assign cons ListComp" => (((with_reducible show wpAny _ _ (exec (Stmt.Assign [_] (Expr.ListComp _ _ _ _) _) _) _ _ _); refine Hold.mk ?_))
                  k_with "z0 CompSrc" => ((refine Hold.mk ?_))
                  k_with "z0 CompSrcT" => ((refine Hold.mk ?_))
                  k_with "z0 SrcLP" => ((refine Hold.mk ?_))
                  k_with "z0 CompEnd" => ((refine Hold.mk ?_))
                  k_with "z k_steps" => (repeat' (first | (k_unfold; (try dsimp only)) | (walk1; (try dsimp only)) | (dsimp only; walk1; (try dsimp only)) | (leave1; walk_say "STEP leave1"; try dsimp only) | fail "no step"))
                  k_with "z4 call builtin:sum" => ((k_here; (with_reducible show wpAny _ _ (call (Value.builtin "sum") [Value.ref _]) _ _ _); k_dflt (refine' sumK ?kz ?kF ?kN ?kl ?ki ?_; (case kz => exact rfl); (case kF => k_asm); (case kN => k_asm); (case kl => exact listIn (by k_asm) (by k_mem)); (case ki => assumption); k_whole)))
                  k_with "z0 eval ListComp" => ((k_here; (with_reducible show wpAny _ _ (eval (Expr.ListComp _ [Comprehension.mk (Expr.Name _ _) _ [] _] _ _) _) _ _ _); k_dflt (refine LCg.ListComp_U (F₀ := by k_asm) (by with_unfolding_all rfl) (by decide) (by rfl) (by decide) (by rfl) ?_)))
                  k_with "z0 eval ListComp" => ((k_here; (with_reducible show wpAny _ _ (eval (Expr.ListComp _ [Comprehension.mk (Expr.Name _ _) _ [_] _] _ _) _) _ _ _); k_dflt (refine LCt.ListComp_T (F₀ := by k_asm) (by with_unfolding_all rfl) (by decide) (by rfl) (by decide) (by rfl) ?_)))
                  k_with "z0 eval ListComp" => ((k_here; (with_reducible show wpAny _ _ (eval (Expr.ListComp _ [Comprehension.mk (Expr.Tuple [Expr.Name _ _, Expr.Name _ _] _ _) _ [] _] _ _) _) _ _ _); k_dflt (refine LCp.ListComp_P (F₀ := by k_asm) (by with_unfolding_all rfl) (by decide) (by rfl) (by decide) (by rfl) (by rfl) (by decide) ?_)))
                  k_with "z0 exec Assign cons ListComp" => ((k_here; (with_reducible show wpAny _ _ (exec (Stmt.Assign [_] (Expr.ListComp _ [Comprehension.mk (Expr.Name _ _) _ [] _] _ _) _) _) _ _ _); k_dflt (refine LCg.Assign_ListComp_U (F₀ := by k_asm) (by rfl) (by with_unfolding_all rfl) (by with_unfolding_all rfl) (by decide) (by rfl) (by decide) (by rfl) (by rfl) (by rfl) ?_)))
                  k_with "z0 exec Assign cons ListComp" => ((k_here; (with_reducible show wpAny _ _ (exec (Stmt.Assign [_] (Expr.ListComp _ [Comprehension.mk (Expr.Tuple [Expr.Name _ _, Expr.Name _ _] _ _) _ [] _] _ _) _) _) _ _ _); k_dflt (refine LCp.Assign_ListComp_P (F₀ := by k_asm) (by rfl) (by with_unfolding_all rfl) (by with_unfolding_all rfl) (by decide) (by rfl) (by decide) (by rfl) (by rfl) (by decide) (by rfl) (by rfl) ?_)))
                  k_with "z k_mem" => (((show _ ∈ (_ : List (Addr × Obj))); first | with_reducible assumption | with_reducible exact List.Mem.head _ | (with_reducible refine List.mem_cons_of_mem _ ?_; k_mem) | (with_reducible refine List.mem_append_right _ ?_; k_mem) | (with_reducible refine List.mem_append_left _ ?_; k_mem)))
                  k_with "z0 exec For Tuple Attribute cons nil" => (((with_unfolding_all (refine' For_turns ?kF ?_)); (case kF => k_asm)))
                  k_with "z0 exec For Tuple Name cons nil" => (((with_unfolding_all (refine' For_turns ?kF ?_)); (case kF => k_asm)))
                  k_with "z0 exec For Tuple Call cons nil" => (((with_unfolding_all (refine' For_turns ?kF ?_)); (case kF => k_asm)))
                  k_with "z0 exec For Tuple Subscript cons nil" => (((with_unfolding_all (refine' For_turns ?kF ?_)); (case kF => k_asm)))
                  k_with "z0 pyIter ref" => (((with_reducible show wpAny _ _ (pyIter (Value.ref _)) (fun it s₂ => TurnsAt _ _ _ _ _ _ _ _ _ it s₂) _ _); refine Hold.mk ?_))
                  k_with "z0 subscriptTail" => ((k_here; (with_reducible show wpAny _ _ (subscriptTail _ _ (Value.ref _) (Value.int _ _)) _ _ _); k_dflt (refine' item_list_ints ?l ?i ?a ?b ?c ?_; (case l => exact listIn (by k_asm) (by k_mem)); (case i => with_reducible assumption); (case a => omega); (case b => omega); (case c => omega); k_whole); intro _))
                  k_with "z3 subscriptTail" => ((k_here; (with_reducible show wpAny _ _ (subscriptTail _ (PySem.Expr.Slice (some _) none none _) (Value.ref _) (Value.ref _)) _ _ _); k_dflt (refine' drop_list ?dlE ?dlF ?dlN ?dlM ?dlP ?dlQ ?dlX ?dlZ ?_ ?dlS ?dlT; (case dlE => exact rfl); (case dlF => k_asm); (case dlN => k_asm); (case dlM => k_mem); (case dlP => exact IsPart.int _ _); (case dlQ => exact IsPart.none); (case dlX => omega); (case dlS => with_unfolding_all rfl); (case dlT => kmk_pure); (case dlZ => ((try simp only [sizeLine_eq, List.length_cons, List.length_nil, List.length_append, List.length_drop, List.length_replicate, List.length_dropLast]); omega)))))
                  k_with "z3 subscriptTail" => ((k_here; (with_reducible show wpAny _ _ (subscriptTail _ (PySem.Expr.Slice none (some _) none _) (Value.ref _) (Value.ref _)) _ _ _); k_dflt (refine' init_list ?dlE ?dlF ?dlN ?dlM ?dlQ ?dlP ?dlZ ?_ ?dlS ?dlT; (case dlE => exact rfl); (case dlF => k_asm); (case dlN => k_asm); (case dlM => k_mem); (case dlP => exact IsPart.int _ _); (case dlQ => exact IsPart.none); (case dlS => with_unfolding_all rfl); (case dlT => kmk_pure); (case dlZ => ((try simp only [sizeLine_eq, List.length_cons, List.length_nil, List.length_append, List.length_drop, List.length_replicate, List.length_dropLast]); omega)))))
                  k_with "z3 subscriptTail" => ((k_here; (with_reducible show wpAny _ _ (subscriptTail _ (PySem.Expr.Slice none none (some _) _) (Value.ref _) (Value.ref _)) _ _ _); k_dflt (refine' revv_list ?dlE ?dlF ?dlN ?dlM ?dlP ?dlZ ?_ ?dlS ?dlT; (case dlE => exact rfl); (case dlF => k_asm); (case dlN => k_asm); (case dlM => k_mem); (case dlP => exact IsPart.int _ _); (case dlS => with_unfolding_all rfl); (case dlT => kmk_pure); (case dlZ => ((try simp only [sizeLine_eq, List.length_cons, List.length_nil, List.length_append, List.length_drop, List.length_replicate, List.length_dropLast]); omega)))))
                  k_with "z3 binaryOp Add ref ref" => ((k_here; (with_reducible show wpAny _ _ (binaryOp _ (Value.ref _) (Value.ref _)) _ _ _); k_dflt (refine' add_l ?alF ?alN ?alA ?alB ?alZ ?_; (case alF => k_asm); (case alN => k_asm); (case alA => k_mem); (case alB => k_mem); (case alZ => ((try simp only [sizeLine_eq, List.length_cons, List.length_nil, List.length_append, List.length_drop, List.length_replicate, List.length_dropLast]); omega)))))
                  k_with "z3 binaryOp Mult ref int" => ((k_here; (with_reducible show wpAny _ _ (binaryOp Operator.Mult (Value.ref _) (Value.int _ _)) _ _ _); k_dflt (refine' mul_l ?alF ?alN ?alA ?alB ?alZ ?_; (case alF => k_asm); (case alN => k_asm); (case alA => k_mem); (case alB => omega); (case alZ => omega))))
                  k_with "z0 call ref" => (((with_reducible show wpAny _ _ (call (Value.ref _) _) _ _ _); refine Hold.mk ?_))
                  k_with "z0 subscriptTail Name Slice ref ref" => (((with_reducible show wpAny _ _ (subscriptTail _ _ (Value.ref _) _) _ _ _); refine Hold.mk ?_))
                  k_with "z turns exec For Name Name cons nil" => (skip)
                  k_with "z0 subscriptTail" => ((k_here; (with_reducible show wpAny _ _ (subscriptTail _ (PySem.Expr.Constant _ _ _) (Value.ref _) (Value.int 0 _)) _ _ _); k_dflt (refine' pair_0 ?pN ?pM ?_ ?pS; (case pN => k_asm); (case pM => k_mem); (case pS => with_unfolding_all rfl); k_whole)))
                  k_with "z0 subscriptTail" => ((k_here; (with_reducible show wpAny _ _ (subscriptTail _ (PySem.Expr.Constant _ _ _) (Value.ref _) (Value.int 1 _)) _ _ _); k_dflt (refine' pair_1 ?pN ?pM ?_ ?pS; (case pN => k_asm); (case pM => k_mem); (case pS => with_unfolding_all rfl); k_whole)))
                  k_with "z0 subscriptTail Name Constant ref int" => (((with_reducible show wpAny _ _ (subscriptTail _ _ (Value.ref _) (Value.int _ _)) _ _ _); refine Hold.mk ?_))
                  k_with "z0 subscriptTail" => (((with_reducible show wpAny _ _ (subscriptTail _ _ (Value.str _ _) (Value.int _ _)) _ _ _); refine Hold.mk ?_))
                  k_with "z0 compareOp NotEq ref ref" => (((with_reducible show wpAny _ _ (compareOp _ (Value.ref _) (Value.ref _)) _ _ _); refine Hold.mk ?_))
                  k_with "z0 call builtin:len" => ((k_here; (with_reducible show wpAny _ _ (call (Value.builtin "len") [Value.ref _]) _ _ _); k_dflt (refine len_list (listIn (by k_asm) (by k_mem)) (by (simp only [List.size_toArray]; omega)) ?_)))
                  k_with "z0 exec Assign cons ListComp" => (((with_reducible show wpAny _ _ (exec (Stmt.Assign [_] (PySem.Expr.ListComp _ [Comprehension.mk (PySem.Expr.Tuple [_, _] _ _) (PySem.Expr.Call _ _ _ _) _ _] _ _) _) _) _ _ _); refine Hold.mk ?_))
                  k_with "z0 call type:zip" => (((with_reducible show wpAny _ _ (call (Value.type "zip") _) _ _ _); refine Hold.mk ?_))
                  k_with "z0 eval ListComp" => (((with_reducible show wpAny _ _ (eval (PySem.Expr.ListComp (PySem.Expr.BinOp _ Operator.Mult _ _) _ _ _) _) _ _ _); refine Hold.mk ?_))
                  k_with "z0 eval IfExp" => (((fail_if_success (with_reducible show wpAny _ _ _ (IfJ _ _) _ _)); refine Hold.mk ?_))
                  k_with "z0 compareOp NotEq bytes bytes" => (((with_reducible show wpAny _ _ (compareOp _ (Value.bytes _ _) (Value.bytes _ _)) _ _ _); refine Hold.mk ?_))
                  k_with "z0 compareOp NotEq int int" => (((with_reducible show wpAny _ _ (compareOp _ (Value.int (2 ^ _) _) (Value.int _ _)) _ _ _); refine Hold.mk ?_))
                  k_with "z0 call builtin:list.append" => (((with_reducible show wpAny _ _ (call (Value.builtin _) [Value.ref _, _]) _ _ _); refine Hold.mk ?_))
                  k_steps
                  unfold Hold
                  refine ifexp_join (if H.fmod 2 = 0 then NB else -NB) ?_ ?_
                  · k_steps
                    · rename (H.fmod 2 = 0) => he
                      exact ⟨_, _, by rw [if_pos he], rfl⟩
                    · rename (¬ H.fmod 2 = 0) => he
                      exact ⟨_, _, by rw [if_neg he], rfl⟩
                  intro t9 k9
                  dsimp only
                  k_steps
                  unfold Hold
                  rename Fr _ _ _ _ => F9
                  rename News _ _ _ _ => N9
                  with_unfolding_all refine' use_does (ap_does (if H.fmod 2 = 0 then NB else -NB) (if_bounds hnb.1 hnb.2).1 (if_bounds hnb.1 hnb.2).2) ?k1 F9 ?k3 N9 ?k5 ?k6 ⟨_, rfl⟩ ?k8 ?k9 ?_
                  case k1 => k_asm
                  case k3 => k_asm
                  case k5 => k_asm
                  case k6 => exact rfl
                  case k8 => ktr_room
                  case k9 => ktr_units
                  intro r7 tl7 h29 tk29 F1 N1 ho7 hout7
                  obtain ⟨t7, rfl⟩ := hout7
                  rw [abs_if hnb.1]
                  clear F9 N9
                  k_steps
                  unfold Hold
                  refine ne_bytes ?_
                  rw [bne_same (by rw [← hNB]; exact letters_eq hok.lets rfl (by rw [List.size_toArray, hrxl]))]
                  k_steps
                  unfold Hold
                  rename Fr _ _ _ _ => F9
                  rename News _ _ _ _ => N9
                  with_unfolding_all refine' use_does (count_does (playsF (chF H)) (fun p hp => (hok.pl p hp).2.2) (by omega)) ?k1 F9 ?k3 N9 ?k5 ?k6 ⟨_, rfl, dP6, odP, kvP, rfl, List.mem_append.mpr (.inl (m7 _ mdP6)), hdP, heP, hsP⟩ ?k8 ?k9 ?_
                  case k1 => k_asm
                  case k3 => k_asm
                  case k5 => k_asm
                  case k6 => exact rfl
                  case k8 => ktr_room
                  case k9 => ktr_units
                  intro r8 tl8 h30 tk30 F1 N1 ho8 hout8
                  obtain ⟨t8, rfl⟩ := hout8
                  rw [hok.cnt]
                  clear F9 N9
                  k_steps
                  unfold Hold
                  rw [show ((quotF H).sum - 1 - (rxs.toArray.size : Int)).toNat = stepsF H from by unfold stepsF; rw [List.size_toArray, hrxl]]
                  refine ne_int ?_
                  rw [bne_self_eq_false]
                  have N3 : News s₁.heap s₁.heap.objs.size h30 ((s₁.heap.objs.size + 1 + 1, oH1) :: (s₁.heap.objs.size + 1 + 1 + 1, oW1) :: (s₁.heap.objs.size + 1 + 1 + 1 + 1, oS2) :: (s₁.heap.objs.size + 1 + 1 + 1 + 1 + 1, oP1) :: (lC, W.listOf cs.toArray nC) :: (lV, W.listOf vs.toArray nV) :: T6) := fun p hp => N1 p (List.mem_append.mpr (.inl (List.mem_append.mpr (.inl hp))))
                  clear N1
                  k_steps
                  unfold Hold
                  rename Fr _ _ _ _ => F9
                  rename News _ _ _ _ => N9
                  have hcl2 := hCs.length
                  rw [List.length_take] at hcl2
                  have hcl3 : cs.toArray.size ≤ sizeLine := by
                    rw [List.size_toArray, sizeLine_eq, hcl2]
                    exact Nat.le_trans (Nat.min_le_right _ _) (show 2 ≤ 16777216 by decide)
                  refine append_K F9 N9 (.tail (Nat.ne_of_lt (Nat.lt_trans bH hHC)) (.tail (Nat.ne_of_lt (Nat.lt_trans bW hHC)) (.tail (Nat.ne_of_lt (Nat.lt_trans bS hHC)) (.tail (Nat.ne_of_lt (Nat.lt_trans bP hHC)) (.head (List.forall_mem_cons.mpr ⟨Ne.symm (Nat.ne_of_lt hCV), fun p hp => (hT6 p hp).2.2.2.2.1⟩)))))) ?_ hcl3
                  intro h31 F1 F1N
                  clear F9 N9
                  dsimp only
                  k_steps
                  unfold Hold
                  rename Fr _ _ _ _ => F9
                  with_unfolding_all refine' use_does (values_does _ (quotF H) hok.rowq hok.rlen (List.length_pos_iff.mpr hok.rne)) ?k1 F9 ?k3 F1N ?k5 ?k6 ⟨rfl, _, rfl, Dr, rxs, rn, rfl, m7 _ mr6, hr⟩ ?k8 ?k9 ?_
                  case k1 => k_asm
                  case k3 => k_asm
                  case k5 => k_asm
                  case k6 => exact rfl
                  case k8 => ktr_room
                  case k9 => ktr_units
                  intro r9 tl9 h32 tk32 F2 N4 ho9 hout9
                  obtain ⟨tl9', e9, Dv, vxs, vn, rfl, mv, hvx⟩ := hout9
                  obtain rfl := List.append_cancel_left e9
                  clear F9
                  have hvl2 := hVs.length
                  rw [List.length_take] at hvl2
                  have hvl3 : vs.toArray.size ≤ sizeLine := by
                    rw [List.size_toArray, sizeLine_eq, hvl2]
                    exact Nat.le_trans (Nat.min_le_right _ _) (show 2 ≤ 16777216 by decide)
                  k_steps
                  unfold Hold
                  rename Fr _ _ _ _ => F9
                  rename News _ _ _ _ => N9
                  have hoV : ∀ p ∈ T6 ++ tl9, p.1 ≠ lV := by
                    intro p hp
                    rcases List.mem_append.mp hp with hp | hp
                    · exact (hT6 p hp).2.2.2.2.2
                    · exact Ne.symm (ho9 (lV, W.listOf vs.toArray nV) (.tail _ (.tail _ (.tail _ (.tail _ (.tail _ (.head _)))))) p hp)
                  refine append_K (news := (s₁.heap.objs.size + 1 + 1, oH1) :: (s₁.heap.objs.size + 1 + 1 + 1, oW1) :: (s₁.heap.objs.size + 1 + 1 + 1 + 1, oS2) :: (s₁.heap.objs.size + 1 + 1 + 1 + 1 + 1, oP1) :: (lC, W.listOf (cs.toArray.push (Value.ref Dc)) (nC + 1)) :: (lV, W.listOf vs.toArray nV) :: (T6 ++ tl9)) F9 N9 (.tail (Nat.ne_of_lt (Nat.lt_trans bH hHV)) (.tail (Nat.ne_of_lt (Nat.lt_trans bW hHV)) (.tail (Nat.ne_of_lt (Nat.lt_trans bS hHV)) (.tail (Nat.ne_of_lt (Nat.lt_trans bP hHV)) (.tail (Nat.ne_of_lt hCV) (.head hoV)))))) ?_ hvl3
                  intro h33 F1 N1
                  clear F9 N9
                  dsimp only
                  k_steps
                  rename Fr _ _ _ _ => F9
                  rename News _ _ _ _ => N9
                  rw [List.push_toArray, List.push_toArray] at N9
                  have m10 : ∀ {b1 b2 b3 b4 b5 b6 : Addr × Obj}, ∀ p ∈ T6 ++ tl9, p ∈ b1 :: b2 :: b3 :: b4 :: b5 :: b6 :: (T6 ++ tl9) := fun p hp => .tail _ (.tail _ (.tail _ (.tail _ (.tail _ (.tail _ hp)))))
                  have e6 : ∀ p ∈ TB, p ∈ T6 := by
                    intro p hp
                    rw [← hT6e, ← hT5e]
                    exact List.mem_append.mpr (.inl (.tail _ (lB3 _ hp)))
                  have eB : ∀ p ∈ tl2, p ∈ TB := fun p hp => hTB ▸ List.mem_append.mpr (.inr hp)
                  refine hQt1 _ _ ?_
                  refine turn_next ((oH1, oW1, oS2, oP1), (cs ++ [Value.ref Dc], nC + 1), (vs ++ [Value.ref Dv], nV + 1)) (tl2 ++ tl9) F9 N9 ?_ (fun p hp => m10 _ (List.mem_append.mpr (.inl (hsub6 p hp)))) ?_ ⟨⟨_, dH1⟩, ⟨_, dW2⟩, ⟨_, dS2⟩, ⟨_, dP1⟩, ?_, ?_⟩ (fun _ h => nomatch h) ?_
                  · intro p hp
                    rcases List.mem_append.mp hp with hp | hp
                    · dsimp only at hp
                      simp only [List.mem_cons, List.not_mem_nil, or_false] at hp
                      rcases hp with rfl | rfl | rfl | rfl | rfl | rfl
                      · exact .head _
                      · exact .tail _ (.head _)
                      · exact .tail _ (.tail _ (.head _))
                      · exact .tail _ (.tail _ (.tail _ (.head _)))
                      · exact .tail _ (.tail _ (.tail _ (.tail _ (.head _))))
                      · exact .tail _ (.tail _ (.tail _ (.tail _ (.tail _ (.head _)))))
                    · rcases List.mem_append.mp hp with hp | hp
                      · exact m10 _ (List.mem_append.mpr (.inl (e6 _ (eB _ hp))))
                      · exact m10 _ (List.mem_append.mpr (.inr hp))
                  · intro p hp q hq
                    rcases List.mem_append.mp hp with hp | hp
                    · rcases List.mem_append.mp hq with hq | hq
                      · have hs := hT2 p (eB p hp)
                        dsimp only at hq
                        simp only [List.mem_cons, List.not_mem_nil, or_false] at hq
                        rcases hq with rfl | rfl | rfl | rfl | rfl | rfl
                        · exact Ne.symm hs.1
                        · exact Ne.symm hs.2.1
                        · exact Ne.symm hs.2.2.1
                        · exact Ne.symm hs.2.2.2.1
                        · exact Ne.symm hs.2.2.2.2.1
                        · exact Ne.symm hs.2.2.2.2.2
                      · exact hfreshB p hp q (hsubA q hq)
                    · rcases List.mem_append.mp hq with hq | hq
                      · dsimp only at hq
                        simp only [List.mem_cons, List.not_mem_nil, or_false] at hq
                        rcases hq with rfl | rfl | rfl | rfl | rfl | rfl
                        · exact ho9 _ (.head _) p hp
                        · exact ho9 _ (.tail _ (.head _)) p hp
                        · exact ho9 _ (.tail _ (.tail _ (.head _))) p hp
                        · exact ho9 _ (.tail _ (.tail _ (.tail _ (.head _)))) p hp
                        · exact ho9 _ (.tail _ (.tail _ (.tail _ (.tail _ (.head _))))) p hp
                        · exact ho9 _ (.tail _ (.tail _ (.tail _ (.tail _ (.tail _ (.head _)))))) p hp
                      · exact ho9 q (.tail _ (.tail _ (.tail _ (.tail _ (.tail _ (.tail _ (hsub6 q hq))))))) p hp
                  · show PLists ((tl2 ++ tl9) ++ rest) (cs ++ [Value.ref Dc]) _
                    rw [hnC]
                    exact PLists.snoc (List.mem_append.mpr (.inl (List.mem_append.mpr (.inl mc)))) (PairsAre.mono (fun p hp => List.mem_append.mpr (.inl (List.mem_append.mpr (.inl hp)))) hcx) (PLists.mono (fun p hp => List.mem_append.mpr (.inr hp)) hCs)
                  · show RowsAre ((tl2 ++ tl9) ++ rest) (vs ++ [Value.ref Dv]) _
                    rw [hnV]
                    exact RowsAre.snoc (List.mem_append.mpr (.inl (List.mem_append.mpr (.inr mv)))) hvx (RowsAre.mono' (fun p hp => List.mem_append.mpr (.inr hp)) hVs)
                  · intro z _ _ hz
                    have hz2 := hz
                    simp only [List.contains_eq_mem, decide_eq_false_iff_not, List.mem_cons, List.not_mem_nil, or_false, not_or] at hz2
                    obtain ⟨z1, z2, z3, z4, z5, z6, z7, z8, z9⟩ := hz2
                    simp only [if_neg z1, if_neg z2, if_neg z3, if_neg z4, if_neg z5, if_neg z6, if_neg z7, if_neg z8, if_neg z9, hz, Bool.false_eq_true, if_false]
      · intro c tl h tk u _ _ _ _
        w_top off
        k_with_none
        k_with "z0 pyIter ref" => (((with_reducible show wpAny _ _ (pyIter (Value.ref _)) (fun it s₂ => LoopAtV _ _ _ _ _ _ _ _ _ it s₂) _ _); refine Hold.mk ?_))
        k_with "z range" => ((with_unfolding_all refine' range1_rows ?kF ?kN ?_); (case kF => k_asm); (case kN => k_asm))
        k_with "z0 getItem ref int" => ((k_here; (with_reducible show wpAny _ _ (getItem (Value.ref _) (Value.int (-1) _)) _ _ _); k_dflt (refine' get_last ?k1 ?k2 ?_; (case k1 => k_asm); (case k2 => k_mem); k_whole)))
        k_with "z1 setItem ref int" => ((k_here; (with_reducible show wpAny _ _ (setItem (Value.ref _) (Value.int (-1) _) _) _ _ _); k_dflt (refine' set_last ?k1 ?k2 ?k3 ?_; (case k1 => k_asm); (case k2 => k_asm); (case k3 => k_upd); k_whole)))
        k_with "z2 call builtin:list.append" => ((k_here; (with_reducible show wpAny _ _ (call (Value.builtin _) [Value.ref _, _]) _ _ _); k_dflt (refine' append_K ?k1 ?k2 ?k3 ?_ ?z; (case k1 => k_asm); (case k2 => k_asm); (case k3 => k_upd); (case z => first | assumption | size_fits | (simp only [List.size_toArray, List.length_append, List.length_cons, List.length_nil, sizeLine_eq]; omega)); k_whole)))
        k_with "z0 exec While Compare cons nil" => (((with_reducible show wpAny _ _ (exec (Stmt.While _ _ _ _) _) _ _ _); refine Hold.mk ?_))
        k_with "z kmk_list" => (exact listIn (by k_asm) (by k_mem))
        k_with "z is_list" => (exact listIn (by k_asm) (by k_mem))
        k_with "z k_mem" => (((show _ ∈ (_ : List (Addr × Obj))); with_reducible assumption))
        k_with "z3 subscriptTail" => ((k_here; (with_reducible show wpAny _ _ (subscriptTail _ (PySem.Expr.Slice none none (some _) _) (Value.ref _) (Value.ref _)) _ _ _); k_dflt (refine' rev_list ?F ?N ?l ?k ?z ?_ ?s ?t; (case F => k_asm); (case N => k_asm); (case l => k_mem); (case k => exact IsPart.int _ _); (case s => with_unfolding_all rfl); (case t => kmk_pure); (case z => (simp only [sizeLine_eq]; omega)))))
        k_with "z0 exec For Name Subscript cons nil" => ((with_unfolding_all (refine' my_For ?kF ?k1 ?k2 ?_; (case k1 => exact rfl); (case k2 => exact rfl)); (case kF => k_asm)))
        k_with "z0 exec For Name Call cons nil" => ((with_unfolding_all (refine' my_For ?kF ?k1 ?k2 ?_; (case k1 => exact rfl); (case k2 => exact rfl)); (case kF => k_asm)))
        k_with "z0 exec For Name Name cons nil" => ((with_unfolding_all (refine' my_For ?kF ?k1 ?k2 ?_; (case k1 => exact rfl); (case k2 => exact rfl)); (case kF => k_asm)))
        k_with "z enter" => (refine' code_defC ?k1 ?k2 ?k3 ?k4 ?k5 ?kA ?kF ?kK ?k6 ?k7 ?k8 ?k9 ?kB ?kD ?_ ?c2 ?c3 ?c4; (case kA => exact rfl); (case kF => exact rfl); (case kK => assumption); (case k1 => k_asm); (case k2 => k_asm); (case k3 => k_asm); (case k4 => k_asm); (case k5 => k_asm); (case k6 => k_is); (case k7 => k_is); (case k8 => ktr_room); (case k9 => exact BindsTo.of_eq rfl); (case kB => exact rfl); (case kD => decide +kernel); (case c2 => exact rfl); (case c3 => exact rfl); (case c4 => exact rfl); k_whole)
        k_with "z0 eval ListComp" => (((with_reducible show wpAny _ _ (eval (Expr.ListComp _ _ _ _) _) _ _ _); refine Hold.mk ?_))
        k_with "z0 exec Assign cons ListComp" => (((with_reducible show wpAny _ _ (exec (Stmt.Assign [_] (Expr.ListComp _ _ _ _) _) _) _ _ _); refine Hold.mk ?_))
        k_with "z0 CompSrc" => ((refine Hold.mk ?_))
        k_with "z0 CompSrcT" => ((refine Hold.mk ?_))
        k_with "z0 SrcLP" => ((refine Hold.mk ?_))
        k_with "z0 CompEnd" => ((refine Hold.mk ?_))
        k_with "z k_steps" => (repeat' (first | (k_unfold; (try dsimp only)) | (walk1; (try dsimp only)) | (dsimp only; walk1; (try dsimp only)) | (leave1; walk_say "STEP leave1"; try dsimp only) | fail "no step"))
        k_with "z4 call builtin:sum" => ((k_here; (with_reducible show wpAny _ _ (call (Value.builtin "sum") [Value.ref _]) _ _ _); k_dflt (refine' sumK ?kz ?kF ?kN ?kl ?ki ?_; (case kz => exact rfl); (case kF => k_asm); (case kN => k_asm); (case kl => exact listIn (by k_asm) (by k_mem)); (case ki => assumption); k_whole)))
        k_with "z0 eval ListComp" => ((k_here; (with_reducible show wpAny _ _ (eval (Expr.ListComp _ [Comprehension.mk (Expr.Name _ _) _ [] _] _ _) _) _ _ _); k_dflt (refine LCg.ListComp_U (F₀ := by k_asm) (by with_unfolding_all rfl) (by decide) (by rfl) (by decide) (by rfl) ?_)))
        k_with "z0 eval ListComp" => ((k_here; (with_reducible show wpAny _ _ (eval (Expr.ListComp _ [Comprehension.mk (Expr.Name _ _) _ [_] _] _ _) _) _ _ _); k_dflt (refine LCt.ListComp_T (F₀ := by k_asm) (by with_unfolding_all rfl) (by decide) (by rfl) (by decide) (by rfl) ?_)))
        k_with "z0 eval ListComp" => ((k_here; (with_reducible show wpAny _ _ (eval (Expr.ListComp _ [Comprehension.mk (Expr.Tuple [Expr.Name _ _, Expr.Name _ _] _ _) _ [] _] _ _) _) _ _ _); k_dflt (refine LCp.ListComp_P (F₀ := by k_asm) (by with_unfolding_all rfl) (by decide) (by rfl) (by decide) (by rfl) (by rfl) (by decide) ?_)))
        k_with "z0 exec Assign cons ListComp" => ((k_here; (with_reducible show wpAny _ _ (exec (Stmt.Assign [_] (Expr.ListComp _ [Comprehension.mk (Expr.Name _ _) _ [] _] _ _) _) _) _ _ _); k_dflt (refine LCg.Assign_ListComp_U (F₀ := by k_asm) (by rfl) (by with_unfolding_all rfl) (by with_unfolding_all rfl) (by decide) (by rfl) (by decide) (by rfl) (by rfl) (by rfl) ?_)))
        k_with "z0 exec Assign cons ListComp" => ((k_here; (with_reducible show wpAny _ _ (exec (Stmt.Assign [_] (Expr.ListComp _ [Comprehension.mk (Expr.Tuple [Expr.Name _ _, Expr.Name _ _] _ _) _ [] _] _ _) _) _) _ _ _); k_dflt (refine LCp.Assign_ListComp_P (F₀ := by k_asm) (by rfl) (by with_unfolding_all rfl) (by with_unfolding_all rfl) (by decide) (by rfl) (by decide) (by rfl) (by rfl) (by decide) (by rfl) (by rfl) ?_)))
        k_with "z k_mem" => (((show _ ∈ (_ : List (Addr × Obj))); first | with_reducible assumption | with_reducible exact List.Mem.head _ | (with_reducible refine List.mem_cons_of_mem _ ?_; k_mem) | (with_reducible refine List.mem_append_right _ ?_; k_mem) | (with_reducible refine List.mem_append_left _ ?_; k_mem)))
        k_with "z0 exec For Tuple Attribute cons nil" => (((with_unfolding_all (refine' For_turns ?kF ?_)); (case kF => k_asm)))
        k_with "z0 exec For Tuple Name cons nil" => (((with_unfolding_all (refine' For_turns ?kF ?_)); (case kF => k_asm)))
        k_with "z0 exec For Tuple Call cons nil" => (((with_unfolding_all (refine' For_turns ?kF ?_)); (case kF => k_asm)))
        k_with "z0 exec For Tuple Subscript cons nil" => (((with_unfolding_all (refine' For_turns ?kF ?_)); (case kF => k_asm)))
        k_with "z0 pyIter ref" => (((with_reducible show wpAny _ _ (pyIter (Value.ref _)) (fun it s₂ => TurnsAt _ _ _ _ _ _ _ _ _ it s₂) _ _); refine Hold.mk ?_))
        k_with "z0 subscriptTail" => ((k_here; (with_reducible show wpAny _ _ (subscriptTail _ _ (Value.ref _) (Value.int _ _)) _ _ _); k_dflt (refine' item_list_ints ?l ?i ?a ?b ?c ?_; (case l => exact listIn (by k_asm) (by k_mem)); (case i => with_reducible assumption); (case a => omega); (case b => omega); (case c => omega); k_whole); intro _))
        k_with "z3 subscriptTail" => ((k_here; (with_reducible show wpAny _ _ (subscriptTail _ (PySem.Expr.Slice (some _) none none _) (Value.ref _) (Value.ref _)) _ _ _); k_dflt (refine' drop_list ?dlE ?dlF ?dlN ?dlM ?dlP ?dlQ ?dlX ?dlZ ?_ ?dlS ?dlT; (case dlE => exact rfl); (case dlF => k_asm); (case dlN => k_asm); (case dlM => k_mem); (case dlP => exact IsPart.int _ _); (case dlQ => exact IsPart.none); (case dlX => omega); (case dlS => with_unfolding_all rfl); (case dlT => kmk_pure); (case dlZ => ((try simp only [sizeLine_eq, List.length_cons, List.length_nil, List.length_append, List.length_drop, List.length_replicate, List.length_dropLast]); omega)))))
        k_with "z3 subscriptTail" => ((k_here; (with_reducible show wpAny _ _ (subscriptTail _ (PySem.Expr.Slice none (some _) none _) (Value.ref _) (Value.ref _)) _ _ _); k_dflt (refine' init_list ?dlE ?dlF ?dlN ?dlM ?dlQ ?dlP ?dlZ ?_ ?dlS ?dlT; (case dlE => exact rfl); (case dlF => k_asm); (case dlN => k_asm); (case dlM => k_mem); (case dlP => exact IsPart.int _ _); (case dlQ => exact IsPart.none); (case dlS => with_unfolding_all rfl); (case dlT => kmk_pure); (case dlZ => ((try simp only [sizeLine_eq, List.length_cons, List.length_nil, List.length_append, List.length_drop, List.length_replicate, List.length_dropLast]); omega)))))
        k_with "z3 subscriptTail" => ((k_here; (with_reducible show wpAny _ _ (subscriptTail _ (PySem.Expr.Slice none none (some _) _) (Value.ref _) (Value.ref _)) _ _ _); k_dflt (refine' revv_list ?dlE ?dlF ?dlN ?dlM ?dlP ?dlZ ?_ ?dlS ?dlT; (case dlE => exact rfl); (case dlF => k_asm); (case dlN => k_asm); (case dlM => k_mem); (case dlP => exact IsPart.int _ _); (case dlS => with_unfolding_all rfl); (case dlT => kmk_pure); (case dlZ => ((try simp only [sizeLine_eq, List.length_cons, List.length_nil, List.length_append, List.length_drop, List.length_replicate, List.length_dropLast]); omega)))))
        k_with "z3 binaryOp Add ref ref" => ((k_here; (with_reducible show wpAny _ _ (binaryOp _ (Value.ref _) (Value.ref _)) _ _ _); k_dflt (refine' add_l ?alF ?alN ?alA ?alB ?alZ ?_; (case alF => k_asm); (case alN => k_asm); (case alA => k_mem); (case alB => k_mem); (case alZ => ((try simp only [sizeLine_eq, List.length_cons, List.length_nil, List.length_append, List.length_drop, List.length_replicate, List.length_dropLast]); omega)))))
        k_with "z3 binaryOp Mult ref int" => ((k_here; (with_reducible show wpAny _ _ (binaryOp Operator.Mult (Value.ref _) (Value.int _ _)) _ _ _); k_dflt (refine' mul_l ?alF ?alN ?alA ?alB ?alZ ?_; (case alF => k_asm); (case alN => k_asm); (case alA => k_mem); (case alB => omega); (case alZ => omega))))
        k_with "z0 call ref" => (((with_reducible show wpAny _ _ (call (Value.ref _) _) _ _ _); refine Hold.mk ?_))
        k_with "z0 subscriptTail Name Slice ref ref" => (((with_reducible show wpAny _ _ (subscriptTail _ _ (Value.ref _) _) _ _ _); refine Hold.mk ?_))
        k_with "z turns exec For Name Name cons nil" => (skip)
        k_with "z0 subscriptTail" => ((k_here; (with_reducible show wpAny _ _ (subscriptTail _ (PySem.Expr.Constant _ _ _) (Value.ref _) (Value.int 0 _)) _ _ _); k_dflt (refine' pair_0 ?pN ?pM ?_ ?pS; (case pN => k_asm); (case pM => k_mem); (case pS => with_unfolding_all rfl); k_whole)))
        k_with "z0 subscriptTail" => ((k_here; (with_reducible show wpAny _ _ (subscriptTail _ (PySem.Expr.Constant _ _ _) (Value.ref _) (Value.int 1 _)) _ _ _); k_dflt (refine' pair_1 ?pN ?pM ?_ ?pS; (case pN => k_asm); (case pM => k_mem); (case pS => with_unfolding_all rfl); k_whole)))
        k_with "z0 subscriptTail Name Constant ref int" => (((with_reducible show wpAny _ _ (subscriptTail _ _ (Value.ref _) (Value.int _ _)) _ _ _); refine Hold.mk ?_))
        k_with "z0 subscriptTail" => (((with_reducible show wpAny _ _ (subscriptTail _ _ (Value.str _ _) (Value.int _ _)) _ _ _); refine Hold.mk ?_))
        k_with "z0 compareOp NotEq ref ref" => (((with_reducible show wpAny _ _ (compareOp _ (Value.ref _) (Value.ref _)) _ _ _); refine Hold.mk ?_))
        k_with "z0 call builtin:len" => ((k_here; (with_reducible show wpAny _ _ (call (Value.builtin "len") [Value.ref _]) _ _ _); k_dflt (refine len_list (listIn (by k_asm) (by k_mem)) (by (simp only [List.size_toArray]; omega)) ?_)))
        k_with "z0 exec Assign cons ListComp" => (((with_reducible show wpAny _ _ (exec (Stmt.Assign [_] (PySem.Expr.ListComp _ [Comprehension.mk (PySem.Expr.Tuple [_, _] _ _) (PySem.Expr.Call _ _ _ _) _ _] _ _) _) _) _ _ _); refine Hold.mk ?_))
        k_with "z0 call type:zip" => (((with_reducible show wpAny _ _ (call (Value.type "zip") _) _ _ _); refine Hold.mk ?_))
        k_with "z0 eval ListComp" => (((with_reducible show wpAny _ _ (eval (PySem.Expr.ListComp (PySem.Expr.BinOp _ Operator.Mult _ _) _ _ _) _) _ _ _); refine Hold.mk ?_))
        k_with "z0 eval ListComp" => (((with_reducible show wpAny _ _ (eval (PySem.Expr.ListComp (PySem.Expr.ListComp _ _ _ _) _ _ _) _) _ _ _); refine Hold.mk ?_))
        k_with "z0 compareOp Eq ref ref" => (((with_reducible show wpAny _ _ (compareOp _ (Value.ref _) (Value.ref _)) _ _ _); refine Hold.mk ?_))
        rename_i hlt9 hI9 F2 N2
        clear F9 N9
        obtain ⟨⟨oH2, oW2, oS2, oP2⟩, ⟨cs, nC⟩, vs, nV⟩ := c
        obtain ⟨⟨vH2, dH2⟩, ⟨vW2, dW2⟩, ⟨vS2, dS2⟩, ⟨vP2, dP2⟩, hCs, hVs⟩ := hI9
        dsimp only at dH2 dW2 dS2 dP2 hCs hVs
        dsimp only [names, kstB, List.contains_nil, List.cons_append, List.nil_append] at F2 N2
        have hokA := heap_ok hA0 hA1
        have hokB := heap_ok hB0 hB1
        have hokA2 := heap_ok2 hA0 hA1
        have hokB2 := heap_ok2 hB0 hB1
        obtain ⟨a1, c1, n1, a2, c2, n2, hcs, m1, p1, m2, p2⟩ : ∃ a1 c1 n1 a2 c2 n2, cs = [Value.ref a1, Value.ref a2] ∧ (a1, W.listOf (List.toArray c1) n1) ∈ tl ++ [(s₁.heap.objs.size + 1, oV2), (lH, W.listOf #[Value.int HA x1, Value.int HB x5] 0)] ∧ PairsAre (tl ++ [(s₁.heap.objs.size + 1, oV2), (lH, W.listOf #[Value.int HA x1, Value.int HB x5] 0)]) c1 (chF HA) ∧ (a2, W.listOf (List.toArray c2) n2) ∈ tl ++ [(s₁.heap.objs.size + 1, oV2), (lH, W.listOf #[Value.int HA x1, Value.int HB x5] 0)] ∧ PairsAre (tl ++ [(s₁.heap.objs.size + 1, oV2), (lH, W.listOf #[Value.int HA x1, Value.int HB x5] 0)]) c2 (chF HB) := by
          cases hCs with
          | cons ma pa hr =>
            cases hr with
            | cons mb pb hr => cases hr with | nil => exact ⟨_, _, _, _, _, _, rfl, ma, pa, mb, pb⟩
        obtain ⟨b1, d1, k1, b2, d2, k2, hvs, q1, i1, q2, i2⟩ : ∃ a1 c1 n1 a2 c2 n2, vs = [Value.ref a1, Value.ref a2] ∧ (a1, W.listOf (List.toArray c1) n1) ∈ tl ++ [(s₁.heap.objs.size + 1, oV2), (lH, W.listOf #[Value.int HA x1, Value.int HB x5] 0)] ∧ IntsAre c1 (valF HA) ∧ (a2, W.listOf (List.toArray c2) n2) ∈ tl ++ [(s₁.heap.objs.size + 1, oV2), (lH, W.listOf #[Value.int HA x1, Value.int HB x5] 0)] ∧ IntsAre c2 (valF HB) := by
          cases hVs with
          | cons ma pa hr =>
            cases hr with
            | cons mb pb hr => cases hr with | nil => exact ⟨_, _, _, _, _, _, rfl, ma, pa, mb, pb⟩
        have mV9 : (s₁.heap.objs.size + 1, oV2) ∈ tl ++ [(s₁.heap.objs.size + 1, oV2), (lH, W.listOf #[Value.int HA x1, Value.int HB x5] 0)] := List.mem_append.mpr (.inr (.head _))
        generalize hTL : tl ++ [(s₁.heap.objs.size + 1, oV2), (lH, W.listOf #[Value.int HA x1, Value.int HB x5] 0)] = TL at N2 m1 p1 m2 p2 q1 q2 mV9
        have g1 : cs[0]? = some (Value.ref a1) := by rw [hcs]; rfl
        have g2 : cs[1]? = some (Value.ref a2) := by rw [hcs]; rfl
        have g3 : vs[0]? = some (Value.ref b1) := by rw [hvs]; rfl
        have g4 : vs[1]? = some (Value.ref b2) := by rw [hvs]; rfl
        have m9 : ∀ {b1 b2 b3 b4 b5 b6 : Addr × Obj}, ∀ p ∈ TL, p ∈ b1 :: b2 :: b3 :: b4 :: b5 :: b6 :: TL := fun p hp => .tail _ (.tail _ (.tail _ (.tail _ (.tail _ (.tail _ hp)))))
        clear hCs hVs
        k_steps
        unfold Hold
        rename Fr _ _ _ _ => F9
        rename News _ _ _ _ => N9
        refine item_pos 0 N9 (.tail _ (.tail _ (.tail _ (.tail _ (.head _))))) rfl (by decide) g1 ?_ (by with_unfolding_all rfl)
        k_steps
        unfold Hold
        rename News _ _ _ _ => N9
        refine item_pos 1 N9 (.tail _ (.tail _ (.tail _ (.tail _ (.head _))))) rfl (by decide) g2 ?_ (by with_unfolding_all rfl)
        k_steps
        unfold Hold
        rename Fr _ _ _ _ => F9
        rename News _ _ _ _ => N9
        with_unfolding_all refine' use_does (beside_does (chF HA) (chF HB) (tabF HA HB) (fun p hp => ⟨(hokA.pairs p hp).1, (hokA.pairs p hp).2.1, by have := (hokA.pairs p hp).2.2; omega⟩) (fun p hp => ⟨(hokB.pairs p hp).1, (hokB.pairs p hp).2.1, by have := (hokB.pairs p hp).2.2; omega⟩) (by have := hokA.clen; omega) (by have := hokB.clen; omega) hokA2.mvb hokB2.mvb (pair_mex hA0 hA1 hB0 hB1)) ?k1 F9 ?k3 N9 ?k5 ?k6 ⟨_, _, rfl, ⟨a1, c1, n1, rfl, m9 _ m1, PairsAre.mono m9 p1⟩, ⟨a2, c2, n2, rfl, m9 _ m2, PairsAre.mono m9 p2⟩⟩ ?k8 ?k9 ?_
        case k1 => k_asm
        case k3 => k_asm
        case k5 => k_asm
        case k6 => exact rfl
        case k8 => ktr_room
        case k9 => ktr_units
        intro r1 tl1 h13 tk13 F1 N1 ho1 hout1
        obtain ⟨ra, rxs, rn, rfl, mr, hr⟩ := hout1
        clear F9 N9
        k_steps
        unfold Hold
        rename Fr _ _ _ _ => F9
        refine ListComp_C F9 (by with_unfolding_all rfl) (by rfl) (by decide) (fun n => rfl) (fun h => rfl) (by rfl) ?_
        k_steps
        unfold Hold
        rename News _ _ _ _ => N9
        refine item_pos 0 N9 (List.mem_append.mpr (.inl (.tail _ (.tail _ (.tail _ (.tail _ (.tail _ (.head _)))))))) rfl (by decide) g3 ?_ (by with_unfolding_all rfl)
        have lz : ∀ {b1 b2 b3 b4 b5 b6 : Addr × Obj}, ∀ p ∈ TL, p ∈ (b1 :: b2 :: b3 :: b4 :: b5 :: b6 :: TL) ++ tl1 := fun p hp => List.mem_append.mpr (.inl (m9 p hp))
        generalize hLD : ((s₁.heap.objs.size + 1 + 1, oH2) :: (s₁.heap.objs.size + 1 + 1 + 1, oW2) :: (s₁.heap.objs.size + 1 + 1 + 1 + 1, oS2) :: (s₁.heap.objs.size + 1 + 1 + 1 + 1 + 1, oP2) :: (lC, W.listOf cs.toArray nC) :: (lV, W.listOf vs.toArray nV) :: TL) ++ tl1 = LD at N9
        have lV9 : (lV, W.listOf vs.toArray nV) ∈ LD := hLD ▸ List.mem_append.mpr (.inl (.tail _ (.tail _ (.tail _ (.tail _ (.tail _ (.head _)))))))
        have lv9 : (s₁.heap.objs.size + 1, oV2) ∈ LD := hLD ▸ lz _ mV9
        have lq1 : (b1, W.listOf (List.toArray d1) k1) ∈ LD := hLD ▸ lz _ q1
        have lq2 : (b2, W.listOf (List.toArray d2) k2) ∈ LD := hLD ▸ lz _ q2
        have lr9 : (ra, W.listOf (List.toArray rxs) rn) ∈ LD := by rw [← hLD]; exact mr
        rw [hLD] at hr
        have hdl1 := i1.length
        have hdl2 := i2.length
        have hvl1 := hokA2.vlen
        have hvl2 := hokB2.vlen
        have hcl1 := hokA.clen
        have hcl2 := hokB.clen
        refine ⟨b1, d1, k1, LD, fun i ys nw => ∃ tl, nw = tl ++ LD ∧ RowsAre nw ys (((valF HA).take i).map fun x => (valF HB).map fun y => (apartL x y 3).sum), rfl, rfl, F9, N9, lq1, by rw [sizeLine_eq]; omega, ⟨[], rfl, .nil⟩, ?_, ?_, ?_⟩
        · rintro i ys nw ⟨tl, rfl, _⟩
          exact List.mem_append.mpr (.inr lq1)
        · rintro i ys nw v K oK I oI C oC D h tk E' hv ⟨tlx, rfl, hys⟩ hoK F N off
          obtain ⟨x, tx, rfl, hxi⟩ := ints_at i1 hv
          have hxb := hokA2.vb _ (List.mem_of_getElem? hxi)
          have lvx : (s₁.heap.objs.size + 1, oV2) ∈ tlx ++ LD := List.mem_append.mpr (.inr lv9)
          have lVx : (lV, W.listOf vs.toArray nV) ∈ tlx ++ LD := List.mem_append.mpr (.inr lV9)
          clear F9 N9
          dsimp only
          k_steps
          unfold Hold
          rename Fr _ _ _ _ => F9
          rename News _ _ _ _ => N9
          refine item_pos 1 N9 (.tail _ (.tail _ (.tail _ (.tail _ lVx)))) rfl (by decide) g4 ?_ (by with_unfolding_all rfl)
          k_steps
          unfold Hold
          have lqx : (b2, W.listOf (List.toArray d2) k2) ∈ (K, oK) :: (I, oI) :: (C, oC) :: (D, LCg.lst ys) :: (tlx ++ LD) := .tail _ (.tail _ (.tail _ (.tail _ (List.mem_append.mpr (.inr lq2)))))
          have lKx : (K, oK) ∈ (K, oK) :: (I, oI) :: (C, oC) :: (D, LCg.lst ys) :: (tlx ++ LD) := .head _
          generalize hLX : (K, oK) :: (I, oI) :: (C, oC) :: (D, LCg.lst ys) :: (tlx ++ LD) = LX at N9 lqx lKx
          refine LCg.CompSrc.ledger rfl F9 N9 lqx (by rw [List.size_toArray, sizeLine_eq]; omega) ?_
          intro gg4
          refine rest_U (n := d2.toArray.size) (fun j ys' led' => led' = LX ∧ IntsAre ys' (((valF HB).take j).map fun y => (apartL x y 3).sum)) ?_ ?_ _ 0 [] _ (by omega) ⟨rfl, .nil⟩
          · intro j ys' led' v I' oI' C' oC' D' m₂ h' tk' E2 hj hJ' hv' hC' hx' F' N' off' ne'
            refine hideQ ?_
            intro Qh6 hQt6
            obtain ⟨rfl, hys'⟩ := hJ'
            obtain ⟨y, ty, rfl, hyj⟩ := ints_at i2 (by simpa using hv')
            have hyb := hokB2.vb _ (List.mem_of_getElem? hyj)
            clear F9 N9
            dsimp only
            k_steps
            unfold Hold
            rename Fr _ _ _ _ => F9
            rename News _ _ _ _ => N9
            with_unfolding_all refine' use_does (apart_does x y (by omega) (by omega) (by omega) (by omega)) ?k1 F9 ?k3 N9 ?k5 ?k6 ⟨_, _, rfl⟩ ?k8 ?k9 ?_
            case k1 => k_asm
            case k3 => k_asm
            case k5 => k_asm
            case k6 => exact rfl
            case k8 => ktr_room
            case k9 => ktr_units
            intro r7 tl7 h29 tk29 F1 N1 ho7 hout7
            obtain ⟨t7, rfl⟩ := hout7
            k_steps
            refine hQt6 _ _ ?_
            refine cend_same (by assumption) (fun p hp => N1 p (List.mem_append.mpr (.inl hp))) off' (by first | trivial | exact .inr ⟨W.listOf d2.toArray k2, lqx, rfl, k2, rfl⟩) ⟨rfl, ?_⟩
            rw [List.take_add_one, hyj, Option.toList_some, List.map_append]
            exact ints_app hys' (.cons _ _ .nil)
          · rintro ys' led' ⟨rfl, hys'⟩
            rw [List.size_toArray, hdl2, List.take_length] at hys'
            unfold LCg.FinE
            intro D' h' tk' F' N' o3
            have od := Off1.mem o3
            rw [← hLX] at N' od
            refine ⟨h', tk', (D', LCg.lst ys') :: (tlx ++ LD), rfl, F', fun p hp => N' p ?_, ?_, (D', LCg.lst ys') :: tlx, rfl, ?_⟩
            · rcases List.mem_cons.mp hp with rfl | hp
              · exact .tail _ (.head _)
              rcases List.mem_cons.mp hp with rfl | hp
              · exact .tail _ (.tail _ (.head _))
              rcases List.mem_cons.mp hp with rfl | hp
              · exact .tail _ (.tail _ (.tail _ (.head _)))
              rcases List.mem_cons.mp hp with rfl | hp
              · exact .tail _ (.tail _ (.tail _ (.tail _ (.head _))))
              rcases List.mem_cons.mp hp with rfl | hp
              · exact .head _
              · exact .tail _ (.tail _ (.tail _ (.tail _ (.tail _ hp))))
            · intro p hp
              rcases List.mem_cons.mp hp with rfl | hp
              · exact ⟨Ne.symm (od (K, oK) (.head _)), Ne.symm (od (I, oI) (.tail _ (.head _))), Ne.symm (od (C, oC) (.tail _ (.tail _ (.head _)))), Ne.symm (od (D, LCg.lst ys) (.tail _ (.tail _ (.tail _ (.head _)))))⟩
              · exact off p hp
            · rw [List.take_add_one, hxi, Option.toList_some, List.map_append]
              exact RowsAre.snocC (.head _) hys' (RowsAre.monoC (fun p hp => .tail _ hp) hys)
        · rintro D h tk ys nw F N hD ⟨tlx, rfl, hys⟩
          rw [hdl1, List.take_length, ← tab_rows hvl1 hvl2] at hys
          clear F9 N9
          dsimp only
          k_steps
          unfold Hold
          rename News _ _ _ _ => N9
          refine eq_rows_same (rs := (List.range (chF HA).length).map fun i => (List.range (chF HB).length).map (tabF HA HB i)) N9 (.tail _ (List.mem_append.mpr (.inr lr9))) (RowsAre.monoC (fun p hp => .tail _ (List.mem_append.mpr (.inr hp))) hr) (.head _) (RowsAre.monoC (fun p hp => .tail _ hp) hys) (by ktr_units) ?_
          k_steps
          wrow_close
end
end
end Mine
theorem PySem.Challenge.cw_xg0025_01_holds : PySem.Challenge.rw_xg0025_01.Holds :=
  Mine.law_holds
