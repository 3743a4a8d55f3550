import PyProof.Rows.All
import Wide.All
import OpenK.AllK
import Wide.FinOn
import Lean
import PySem.Challenge.RW_xg0019_01
set_option Elab.async false
set_option maxRecDepth 100000
set_option linter.unusedVariables false
namespace Mine
/-- a goal put away while its premises are taken apart: so the goal is not written out at each step -/
theorem hide {P : Prop} (h : ∀ G : Prop, (P → G) → G) : P := h P id
end Mine
namespace Mine
open PySem

/-- what a run was made of -/
noncomputable def SegP (M : Model) (Γ : Ctx) (F : Frame) (fs : List Frame) (e₁ : End) (s₁ : Shared) (e : End) (s' : Shared) : Prop :=
  match e₁ with
  | .ret r => (match F with
    | .ret k _ _ _ c₁ p₁ _ => Runs M (Γ.goto c₁) p₁ (k r) fs s₁ e s'
    | .gen g k _ c₁ p₁ => Runs M (Γ.goto c₁) p₁ (k (End.ret r).result) fs (s₁.setGen g .finished) e s')
  | .susp v g₀ l₀ k₀ c₀ p₀ fs₀ => ∀ q, splitAtGen (F :: fs) = q → (match q with
    | none => e = .susp v g₀ l₀ k₀ c₀ p₀ (fs₀ ++ F :: fs) ∧ s' = s₁
    | some (pre, (g, k, c₁, p₁), rest) => Runs M (Γ.goto c₁) p₁ (k (.yielded v)) rest (s₁.setGen g (End.susp v g₀ l₀ k₀ c₀ p₀ (fs₀ ++ pre)).genState) e s')
noncomputable def ResP (M : Model) (Γ : Ctx) (p : Pos) (g : Nat) (r : Resume) (k : GenResult → Sem Fin) (s : Shared) (e : End) (s' : Shared) : Option GenState → Prop
  | some (.fresh c) => (match r with
    | .send v => (v = .none → ∃ e₁ s₁, Runs M (Γ.wake c p) p (M.den c) [] (s.setGen g .running) e₁ s₁ ∧ Runs M Γ p (k e₁.result) [] (s₁.setGen g e₁.genState) e s') ∧ (v ≠ .none → Runs M Γ p (k .justStarted) [] s e s')
    | .throw x => Runs M Γ p (k (.raised x)) [] (s.setGen g .finished) e s')
  | some (.suspended k₀ _ c₀ p₀ fs _) => ∃ e₁ s₁, Runs M (Γ.wake c₀ p) p₀ (k₀ r) fs (s.setGen g .running) e₁ s₁ ∧ Runs M Γ p (k e₁.result) [] (s₁.setGen g e₁.genState) e s'
  | some .running => Runs M Γ p (k .running) [] s e s'
  | some .finished => Runs M Γ p (k .finished) [] s e s'
  | none => True
theorem ResP.to {M : Model} {Γ : Ctx} {p : Pos} {g : Nat} {r : Resume} {k : GenResult → Sem Fin} {s : Shared} {e : End} {s' : Shared} {q : GenState} (h : s.gens[g]? = some q) (x : ResP M Γ p g r k s e s' (some q)) : ResP M Γ p g r k s e s' s.gens[g]? := h ▸ x
theorem ResP.of {M : Model} {Γ : Ctx} {p : Pos} {g : Nat} {r : Resume} {k : GenResult → Sem Fin} {s : Shared} {e : End} {s' : Shared} {q : GenState} (h : s.gens[g]? = some q) (x : ResP M Γ p g r k s e s' s.gens[g]?) : ResP M Γ p g r k s e s' (some q) := h ▸ x
noncomputable def InvR (M : Model) (Γ : Ctx) (p : Pos) (t : Sem Fin) (fs : List Frame) (s : Shared) (e : End) (s' : Shared) : Prop :=
  match fs with
  | F :: fs => ∃ e₁ s₁, Runs M (Γ.over (F :: fs)) p t [] s e₁ s₁ ∧ SegP M Γ F fs e₁ s₁ e s'
  | [] => (match t with
    | .pure (.done f) => e = .ret (.ok f) ∧ s' = s
    | .pure (.again c) => Runs M (Γ.goto c) p (M.den c) [] s e s'
    | .raise x => e = .ret (.error x) ∧ s' = s
    | .rule _ k => Runs M Γ p (k ()) [] s e s'
    | .at p' k => Runs M Γ p' (k ()) [] s e s'
    | .load a _ k => ∃ o, s.heap.get? a = some o ∧ Runs M Γ p (k o) [] s e s'
    | .update a _ f k => Runs M Γ p (k ()) [] { s with heap := s.heap.update a f } e s'
    | .loadIfAlive a k => Runs M Γ p (k (s.heap.get? a)) [] s e s'
    | .point _ k => Runs M Γ p (k ()) [] s e s'
    | .alloc o k => Runs M Γ p (k s.heap.objs.size) [] { s with heap := s.heap.push o } e s'
    | .fresh k => Runs M Γ p (k s.toks) [] { s with toks := s.toks + 1 } e s'
    | .ask k => Runs M Γ p (k ⟨M.prog, M.w.params⟩) [] s e s'
    | .choose src n k => Runs M Γ p (k (M.w.draws src (s.drawn.get src) % n)) [] { s with drawn := s.drawn.bump src } e s'
    | .os q _ k => Runs M Γ p (k (Os.step s.os q).2) [] { s with os := (Os.step s.os q).1 } e s'
    | .handled own k => Runs M Γ p (k (if own then Γ.own else Γ.handled)) [] s e s'
    | .genState g k => ∃ st, s.gens[g]? = some st ∧ Runs M Γ p (k st.seen) [] s e s'
    | .stack k => Runs M Γ p (k ((Γ.code, p) :: Γ.below)) [] s e s'
    | .thread k => Runs M Γ p (k 0) [] s e s'
    | .newGen c k => Runs M Γ p (k s.gens.size) [] { s with gens := s.gens.push (.fresh c) } e s'
    | .call c h g l k => ∃ e₁ s₁, Runs M (Γ.enter c h p) p (M.den c) [] s e₁ s₁ ∧ (match e₁ with
      | .ret r => Runs M Γ p (k r) [] s₁ e s'
      | .susp v g₀ l₀ k₀ c₀ p₀ fs => e = .susp v g₀ l₀ k₀ c₀ p₀ (fs ++ [.ret k h g l Γ.code p []]) ∧ s' = s₁)
    | .yield v g l k => e = .susp v g l k Γ.code p [] ∧ s' = s
    | .resume g r _ k => ResP M Γ p g r k s e s' s.gens[g]?
    | _ => True)
theorem InvR.res {M : Model} {Γ : Ctx} {p : Pos} {g : Nat} {r : Resume} {l : List Value} {k : GenResult → Sem Fin} {s : Shared} {e : End} {s' : Shared} (x : ResP M Γ p g r k s e s' s.gens[g]?) : InvR M Γ p (.resume g r l k) [] s e s' := x
theorem runs_inv {M : Model} {Γ : Ctx} {p : Pos} {t : Sem Fin} {fs : List Frame} {s : Shared} {e : End} {s' : Shared} (h : Runs M Γ p t fs s e s') : InvR M Γ p t fs s e s' := by
  induction h with
  | done => exact ⟨rfl, rfl⟩
  | raise => exact ⟨rfl, rfl⟩
  | yield => exact ⟨rfl, rfl⟩
  | load e x _ => exact ⟨_, e, x⟩
  | genState e x _ => exact ⟨_, e, x⟩
  | call a b _ _ => exact ⟨_, _, a, b⟩
  | callSusp a _ => exact ⟨_, _, a, rfl, rfl⟩
  | resumeFresh e a q b _ _ => exact InvR.res (ResP.to e ⟨fun _ => ⟨_, _, a, b⟩, fun h => absurd rfl h⟩)
  | resumeSuspended e a q b _ _ => exact InvR.res (ResP.to e ⟨_, _, a, b⟩)
  | resumeJustStarted e hv b _ => exact InvR.res (ResP.to e ⟨fun h => absurd h hv, fun _ => b⟩)
  | resumeThrowFresh e b _ => exact InvR.res (ResP.to e b)
  | resumeRunning e b _ => exact InvR.res (ResP.to e b)
  | resumeFinished e b _ => exact InvR.res (ResP.to e b)
  | segRet a b _ _ => exact ⟨_, _, a, b⟩
  | segGen a b _ _ => exact ⟨_, _, a, b⟩
  | segSuspOut hs a _ => exact ⟨_, _, a, fun q e => by subst e; rw [hs]; exact ⟨rfl, rfl⟩⟩
  | segSuspGen hs a q b _ _ => exact ⟨_, _, a, fun q e => by subst e; rw [hs]; exact b⟩
  | again _ x _ => exact x
  | rule x _ => exact x
  | «at» x _ => exact x
  | update _ x _ => exact x
  | loadIfAlive x _ => exact x
  | point x _ => exact x
  | alloc x _ => exact x
  | fresh x _ => exact x
  | ask x _ => exact x
  | choose _ x _ => exact x
  | os x _ => exact x
  | handled x _ => exact x
  | stack x _ => exact x
  | thread x _ => exact x
  | newGen x _ => exact x
theorem inv_resume {M : Model} {Γ : Ctx} {p : Pos} {g : Nat} {r : Resume} {l : List Value} {k : GenResult → Sem Fin} {s : Shared} {e : End} {s' : Shared} (h : Runs M Γ p (.resume g r l k) [] s e s') : ResP M Γ p g r k s e s' s.gens[g]? := runs_inv h
theorem runs_det {M : Model} {Γ : Ctx} {p : Pos} {t : Sem Fin} {fs : List Frame} {s : Shared} {e₁ e₂ : End} {s₁ s₂ : Shared} (h₁ : Runs M Γ p t fs s e₁ s₁) (h₂ : Runs M Γ p t fs s e₂ s₂) : e₁ = e₂ ∧ s₁ = s₂ := by
  induction h₁ generalizing e₂ s₂ with
  | done => have q := runs_inv h₂; exact ⟨q.1.symm, q.2.symm⟩
  | raise => have q := runs_inv h₂; exact ⟨q.1.symm, q.2.symm⟩
  | yield => have q := runs_inv h₂; exact ⟨q.1.symm, q.2.symm⟩
  | load e _ ih => obtain ⟨o, e', x⟩ := runs_inv h₂; rw [e] at e'; cases e'; exact ih x
  | genState e _ ih => obtain ⟨o, e', x⟩ := runs_inv h₂; rw [e] at e'; cases e'; exact ih x
  | call _ _ ih1 ih2 => obtain ⟨e', s', a, b⟩ := runs_inv h₂; obtain ⟨x, y⟩ := ih1 a; subst x y; exact ih2 b
  | callSusp _ ih => obtain ⟨e', s', a, b⟩ := runs_inv h₂; obtain ⟨x, y⟩ := ih a; subst x y; exact ⟨b.1.symm, b.2.symm⟩
  | resumeFresh e _ _ _ ih1 ih2 => obtain ⟨e', s', a, b⟩ := (ResP.of e (inv_resume h₂)).1 rfl; obtain ⟨x, y⟩ := ih1 a; subst x y; exact ih2 b
  | resumeSuspended e _ _ _ ih1 ih2 => obtain ⟨e', s', a, b⟩ := ResP.of e (inv_resume h₂); obtain ⟨x, y⟩ := ih1 a; subst x y; exact ih2 b
  | resumeJustStarted e hv _ ih => exact ih ((ResP.of e (inv_resume h₂)).2 hv)
  | resumeThrowFresh e _ ih => exact ih (ResP.of e (inv_resume h₂))
  | resumeRunning e _ ih => exact ih (ResP.of e (inv_resume h₂))
  | resumeFinished e _ ih => exact ih (ResP.of e (inv_resume h₂))
  | segRet _ _ ih1 ih2 => obtain ⟨e', s', a, b⟩ := runs_inv h₂; obtain ⟨x, y⟩ := ih1 a; subst x y; exact ih2 b
  | segGen _ _ ih1 ih2 => obtain ⟨e', s', a, b⟩ := runs_inv h₂; obtain ⟨x, y⟩ := ih1 a; subst x y; exact ih2 b
  | segSuspOut hs _ ih => obtain ⟨e', s', a, b⟩ := runs_inv h₂; obtain ⟨x, y⟩ := ih a; subst x y; exact ⟨(b _ hs).1.symm, (b _ hs).2.symm⟩
  | segSuspGen hs _ _ _ ih1 ih2 => obtain ⟨e', s', a, b⟩ := runs_inv h₂; obtain ⟨x, y⟩ := ih1 a; subst x y; exact ih2 (b _ hs)
  | again _ _ ih => exact ih (runs_inv h₂)
  | rule _ ih => exact ih (runs_inv h₂)
  | «at» _ ih => exact ih (runs_inv h₂)
  | update _ _ ih => exact ih (runs_inv h₂)
  | loadIfAlive _ ih => exact ih (runs_inv h₂)
  | point _ ih => exact ih (runs_inv h₂)
  | alloc _ ih => exact ih (runs_inv h₂)
  | fresh _ ih => exact ih (runs_inv h₂)
  | ask _ ih => exact ih (runs_inv h₂)
  | choose _ _ ih => exact ih (runs_inv h₂)
  | os _ ih => exact ih (runs_inv h₂)
  | handled _ ih => exact ih (runs_inv h₂)
  | stack _ ih => exact ih (runs_inv h₂)
  | thread _ ih => exact ih (runs_inv h₂)
  | newGen _ ih => exact ih (runs_inv h₂)

theorem wakes_det {M : Model} {Γ : Ctx} {p : Pos} {g : Nat} {r : Resume} {s : Shared} {a b : GenResult} {s₁ s₂ : Shared} (h₁ : Wakes M Γ p g r s a s₁) (h₂ : Wakes M Γ p g r s b s₂) : a = b ∧ s₁ = s₂ := by
  unfold Wakes at h₁ h₂
  generalize s.gens[g]? = q at h₁ h₂
  have two : ∀ {x y : GenResult} {u v w : Shared}, (x = y ∧ u = w) → (b = y ∧ v = w) → x = b ∧ u = v := fun h h' => ⟨h.1.trans h'.1.symm, h.2.trans h'.2.symm⟩
  have run : ∀ {Γ : Ctx} {p : Pos} {t : Sem Fin} {fs : List Frame} {s : Shared} {x y : GenResult} {u v : Shared},
      (∃ e₁ t₁, Runs M Γ p t fs s e₁ t₁ ∧ e₁.quiet = true ∧ x = e₁.result ∧ u = t₁.setGen g e₁.genState) →
      (∃ e₁ t₁, Runs M Γ p t fs s e₁ t₁ ∧ e₁.quiet = true ∧ y = e₁.result ∧ v = t₁.setGen g e₁.genState) → x = y ∧ u = v := by
    rintro Γ p t fs s x y u v ⟨e, t, x1, _, rfl, rfl⟩ ⟨e', t', x1', _, rfl, rfl⟩
    obtain ⟨q1, q2⟩ := runs_det x1 x1'
    subst q1 q2; exact ⟨rfl, rfl⟩
  cases q with
  | none => exact h₁.elim
  | some gs =>
    cases gs with
    | fresh c =>
      cases r with
      | send v => cases v <;> first | exact run h₁ h₂ | exact two h₁ h₂
      | throw x => exact two h₁ h₂
    | suspended => exact run h₁ h₂
    | running => exact two h₁ h₂
    | finished => exact two h₁ h₂

theorem wpCode_and {M : Model} {Γ : Ctx} {R R' : Result → Shared → Prop} {p : Pos} {s : Shared} (h : wpCode M Γ R p s) (h' : wpCode M Γ R' p s) : wpCode M Γ (fun r s => R r s ∧ R' r s) p s := by
  obtain ⟨r, s₁, a, b⟩ := h
  obtain ⟨r', s₁', a', b'⟩ := h'
  obtain ⟨x, y⟩ := runs_det a a'
  cases x; subst y
  exact ⟨r, s₁, a, b, b'⟩

theorem wp_and {α : Type} {M : Model} {Γ : Ctx} {Q Q' : α → Pos → Shared → Prop} {E E' : Value → Pos → Shared → Prop} (t : Sem α) :
    ∀ {p : Pos} {s : Shared}, Sem.wp M Γ t Q E p s → Sem.wp M Γ t Q' E' p s → Sem.wp M Γ t (fun a p s => Q a p s ∧ Q' a p s) (fun a p s => E a p s ∧ E' a p s) p s := by
  induction t with
  | pure a => intro p s h h'; exact ⟨h, h'⟩
  | raise e => intro p s h h'; exact ⟨h, h'⟩
  | unsupported => intro p s h _; exact h.elim
  | finish => intro p s h _; exact h.elim
  | rule _ k ih => intro p s h h'; exact ih () h h'
  | «at» _ k ih => intro p s h h'; exact ih () h h'
  | load a q k ih => intro p s h h'; obtain ⟨o, e, x⟩ := h; obtain ⟨o', e', x'⟩ := h'; rw [e] at e'; cases e'; exact ⟨o, e, ih o x x'⟩
  | update a q f k ih => intro p s h h'; exact ⟨h.1, ih () h.2 h'.2⟩
  | alloc o k ih => intro p s h h'; exact ih _ h h'
  | loadIfAlive a k ih => intro p s h h'; exact ih _ h h'
  | point l k ih => intro p s h h'; exact ih () h h'
  | register a k ih => intro p s h _; exact h.elim
  | fresh k ih => intro p s h h'; exact ih _ h h'
  | ask k ih => intro p s h h'; exact ih _ h h'
  | choose src n k ih => intro p s h h'; exact ⟨h.1, ih _ h.2 h'.2⟩
  | os q l k ih => intro p s h h'; exact ih _ h h'
  | call c hd g l k ih =>
    intro p s h h'
    obtain ⟨r, s₁, a, b⟩ := h
    obtain ⟨r', s₁', a', b'⟩ := h'
    obtain ⟨x, y⟩ := runs_det a a'
    cases x; subst y
    exact ⟨r, s₁, a, ih r b b'⟩
  | handled own k ih => intro p s h h'; exact ih _ h h'
  | newGen c k ih => intro p s h h'; exact ih _ h h'
  | genState g k ih => intro p s h h'; obtain ⟨o, e, x⟩ := h; obtain ⟨o', e', x'⟩ := h'; rw [e] at e'; cases e'; exact ⟨o, e, ih _ x x'⟩
  | resume g r l k ih =>
    intro p s h h'
    refine hide fun GG kk => ?_
    obtain ⟨r, s₁, a, b⟩ := h
    obtain ⟨r', s₁', a', b'⟩ := h'
    obtain ⟨x, y⟩ := wakes_det a a'
    subst x y
    refine kk ?_
    clear kk GG
    exact ⟨r, s₁, a, ih r b b'⟩
  | yield => intro p s h _; exact h.elim
  | stack k ih => intro p s h h'; exact ih _ h h'
  | fork => intro p s h _; exact h.elim
  | thread k ih => intro p s h h'; exact ih _ h h'
  | await => intro p s h _; exact h.elim

theorem wpAny_and {α : Type} {M : Model} {A : Around} {Q Q' : α → Shared → Prop} {E E' : Value → Shared → Prop} {t : Sem α} {s : Shared} (h : wpAny M A t Q E s) (h' : wpAny M A t Q' E' s) :
    wpAny M A t (fun a s => Q a s ∧ Q' a s) (fun a s => E a s ∧ E' a s) s := fun Γ p hΓ => wp_and t (h Γ p hΓ) (h' Γ p hΓ)

open PyProof.Rows in
/-- all objects but the one at L, written out -/
noncomputable def allBut (h : Heap) (L : Addr) : List (Addr × Obj) := (List.range h.objs.size).filterMap fun a => if a = L then none else (h.get? a).map fun o => (a, o)
theorem mem_allBut {h : Heap} {L a : Addr} {o : Obj} (e : h.get? a = some o) (hne : a ≠ L) : (a, o) ∈ allBut h L := by
  unfold allBut
  rw [List.mem_filterMap]
  exact ⟨a, List.mem_range.mpr (Heap.lt_size e), by rw [if_neg hne, e]; rfl⟩
open PyProof.Rows in
theorem news_all {h : Heap} {L : Addr} : News {} L h (allBut h L) := by
  intro p hp
  unfold allBut at hp
  rw [List.mem_filterMap] at hp
  obtain ⟨a, _, e⟩ := hp
  split at e
  · cases e
  · rename_i hne
    cases q : h.get? a with
    | none => rw [q] at e; cases e
    | some o => rw [q] at e; cases e; exact ⟨q, hne, rfl⟩
open PyProof.Rows in
theorem fr_all {h : Heap} {L : Addr} {m : Str → Option Value} (n : h.Ns L m) : Fr {} L h m := ⟨n, fun b o e => by simp [Heap.get?] at e, Nat.zero_le _⟩

open PyProof.Rows in
/-- a rule of the ledger's kind, where everything is kept -/
theorem keep_all {M : Model} {A : Around} {t : Sem Value} {s : Shared} {L₁ L₂ : Addr} {m₁ m₂ : Str → Option Value} {Q : Value → Shared → Prop} (n₁ : s.heap.Ns L₁ m₁) (n₂ : s.heap.Ns L₂ m₂) (hne : L₁ ≠ L₂)
    (h : ∀ L m, s.heap.Ns L m → wpAny M A t (fun v s' => Q v s' ∧ ∃ m', Fr {} L s'.heap m' ∧ News {} L s'.heap (allBut s.heap L)) (fun _ _ => False) s) {E : Value → Shared → Prop} :
    wpAny M A t (fun v s' => Q v s' ∧ ∀ b o, s.heap.get? b = some o → s'.heap.get? b = some o) E s := by
  refine wpAny_mono (wpAny_and (h L₁ m₁ n₁) (h L₂ m₂ n₂)) (fun v s' q => ⟨q.1.1, fun b o e => ?_⟩) fun _ _ x => x.1.elim
  obtain ⟨⟨_, _, _, N1⟩, _, _, _, N2⟩ := q
  by_cases hb : b = L₁
  · exact (N2 _ (mem_allBut e (hb ▸ hne))).1
  · exact (N1 _ (mem_allBut e hb)).1
end Mine
namespace Mine
open PySem PySem.W PySem.Calls PyProof.Rows

/-- the data that the law's text handles -/
inductive D where
  | none
  | bool (b : Bool)
  | int (i : Int)
  | str (x : Str)
  | byt (b : Array UInt8)
  | tup (l : List D)
  | lst (l : List D)
  | dct (ks : List Int) (l : List D)
  | cmpr (l : D)

/-- the frozen part of a heap -/
noncomputable abbrev KM := Addr → Option Obj

/-- the world's data -/
structure Wd where
  prog : Program
  w : World
  mg : Str → Option Value
  mb : Str → Option Value
  PC : Addr
  PT : Addr
  CT : Addr
  hB : Heap
  LF : Addr
  AF : Option (List Env)

noncomputable abbrev Wd.M (W : Wd) : Model := model W.prog W.w
noncomputable def Wd.Fr (W : Wd) (a : Addr) : Prop := a ≠ W.PT ∧ a ≠ W.LF
noncomputable abbrev Wd.ik (W : Wd) : KeyKind W.prog W.w Int := intKind W.prog W.w

noncomputable abbrev selName : Str := Str.ofString "comp_select_list"

mutual
inductive IsD (W : Wd) (K : KM) : Value → D → Prop
  | none : IsD W K Value.none D.none
  | bool (b : Bool) : IsD W K (Value.bool b) (D.bool b)
  | int (i : Int) (t : Tok) : IsD W K (Value.int i t) (D.int i)
  | str (x : Str) (t : Tok) : IsD W K (Value.str x t) (D.str x)
  | byt (b : Array UInt8) (t : Tok) : IsD W K (Value.bytes b t) (D.byt b)
  | tup {a : Addr} {o : Obj} {vs : Array Value} {n : Nat} {ds : List D} : K a = some o → o.cls = .type "tuple" → o.data = .seq vs n → AllD W K vs.toList ds → IsD W K (Value.ref a) (D.tup ds)
  | lst {a : Addr} {o : Obj} {vs : Array Value} {n : Nat} {ds : List D} : K a = some o → o.cls = .type "list" → o.data = .seq vs n → AllD W K vs.toList ds → IsD W K (Value.ref a) (D.lst ds)
  | dct {a : Addr} {o : Obj} {kvs : List (Int × Value)} {ds : List D} : K a = some o → (a == sysModules) = false → o.IsDictOf W.ik kvs → AllD W K (kvs.map (·.2)) ds → IsD W K (Value.ref a) (D.dct (kvs.map (·.1)) ds)
  | cmpr {a da : Addr} {n : Nat} {hs : Int} {t : Tok} {v : Value} {d : D} : K a = some (instObj W.CT da) → K da = some (dictOf [⟨hs, .str selName t, v⟩] n) → IsD W K v d → IsD W K (Value.ref a) (D.cmpr d)
inductive AllD (W : Wd) (K : KM) : List Value → List D → Prop
  | nil : AllD W K [] []
  | cons {v : Value} {vs : List Value} {d : D} {ds : List D} : IsD W K v d → AllD W K vs ds → AllD W K (v :: vs) (d :: ds)
end

/-- everything stays but the table at PT, which may grow, and the slots of the object at LF -/
structure Le (W : Wd) (h h' : Heap) : Prop where
  keep : ∀ b o, W.Fr b → h.get? b = some o → h'.get? b = some o
  tab : ∀ ps : Array Value, TriplesOk ps.toList → h.get? W.PT = some (X.tableObj ps) → ∃ more : Array Value, TriplesOk (ps ++ more).toList ∧ h'.get? W.PT = some (X.tableObj (ps ++ more))
  lf : ∀ o, h.get? W.LF = some o → ∃ sl, h'.get? W.LF = some { o with slots := sl }

theorem Le.refl {W : Wd} (h : Heap) : Le W h h := ⟨fun _ _ _ e => e, fun ps hp e => ⟨#[], by simpa using hp, by simpa using e⟩, fun o e => ⟨o.slots, e⟩⟩
theorem Le.trans {W : Wd} {h h' h'' : Heap} (x : Le W h h') (y : Le W h' h'') : Le W h h'' :=
  ⟨fun b o hb e => y.keep b o hb (x.keep b o hb e), fun ps hp e => by
    obtain ⟨m, hm, e'⟩ := x.tab ps hp e
    obtain ⟨m', hm', e''⟩ := y.tab _ hm e'
    exact ⟨m ++ m', by rw [← Array.append_assoc]; exact hm', by rw [← Array.append_assoc]; exact e''⟩, fun o e => by
    obtain ⟨sl, e'⟩ := x.lf o e
    obtain ⟨sl', e''⟩ := y.lf _ e'
    exact ⟨sl', e''⟩⟩
theorem Le.of_keep {W : Wd} {h h' : Heap} (k : ∀ b o, h.get? b = some o → h'.get? b = some o) : Le W h h' :=
  ⟨fun b o _ e => k b o e, fun ps hp e => ⟨#[], by simpa using hp, by simpa using k _ _ e⟩, fun o e => ⟨o.slots, k _ _ e⟩⟩
theorem ns_slots {h h' : Heap} {a : Addr} {m : Str → Option Value} (n : h.Ns a m) (k : ∀ o, h.get? a = some o → ∃ sl, h'.get? a = some { o with slots := sl }) : h'.Ns a m := by
  obtain ⟨o, es, nx, ho, hd, r⟩ := n
  obtain ⟨sl, e⟩ := k o ho
  exact ⟨_, es, nx, e, hd, r⟩
theorem Le.up {W : Wd} {h h' : Heap} (l : Le W h h') {a : Addr} (ha : a ≠ W.PT) (o : Obj) (e : h.get? a = some o) : ∃ sl, h'.get? a = some { o with slots := sl } := by
  by_cases q : a = W.LF
  · subst q; exact l.lf o e
  · exact ⟨o.slots, l.keep a o ⟨ha, q⟩ e⟩

/-- the base stands; the frozen part stands -/
structure Ok (W : Wd) (K : KM) (s : Shared) : Prop where
  base : Le W W.hB s.heap
  sub : ∀ a o, K a = some o → s.heap.get? a = some o
  pt : K W.PT = none
  lf : K W.LF = none
  live : ∃ o, s.heap.get? W.LF = some o ∧ ∀ vs, o.data ≠ .fields vs
  b0 : W.hB.get? W.LF = none
  tk : 1 ≤ s.toks

/-- what a step leaves -/
structure Ext (W : Wd) (K : KM) (s : Shared) (K' : KM) (s' : Shared) : Prop where
  le : Le W s.heap s'.heap
  kk : ∀ a o, K a = some o → K' a = some o
  ok : Ok W K' s'
  fr : ∀ a o, K' a = some o → K a = some o ∨ s.heap.get? a = none
  os : s'.os = s.os
  gens : AllBare s.gens → AllBare s'.gens
  tk : s.toks ≤ s'.toks

theorem Ext.refl {W : Wd} {K : KM} {s : Shared} (o : Ok W K s) : Ext W K s K s := ⟨Le.refl _, fun _ _ e => e, o, fun _ _ e => .inl e, rfl, id, Nat.le_refl _⟩

theorem get_none_of {h h' : Heap} {W : Wd} {a : Addr} (l : Le W h h') (ha : a ≠ W.PT) (e : h'.get? a = none) : h.get? a = none := by
  cases q : h.get? a with
  | none => rfl
  | some o => obtain ⟨sl, q'⟩ := l.up ha o q; rw [q'] at e; cases e

theorem Ext.trans {W : Wd} {K K' K'' : KM} {s s' s'' : Shared} (x : Ext W K s K' s') (y : Ext W K' s' K'' s'') : Ext W K s K'' s'' :=
  { le := x.le.trans y.le
    kk := fun a o e => y.kk a o (x.kk a o e)
    ok := y.ok
    fr := fun a o e => by
      rcases y.fr a o e with h | h
      · exact x.fr a o h
      · refine .inr (get_none_of x.le ?_ h)
        intro q
        rw [q, y.ok.pt] at e
        exact absurd e (by simp)
    os := y.os.trans x.os
    gens := fun g => y.gens (x.gens g)
    tk := Nat.le_trans x.tk y.tk }

theorem IsD.mono {W : Wd} {K K' : KM} (hs : ∀ a o, K a = some o → K' a = some o) {v : Value} {d : D} (h : IsD W K v d) : IsD W K' v d :=
  IsD.rec (motive_1 := fun v d _ => IsD W K' v d) (motive_2 := fun vs ds _ => AllD W K' vs ds) .none (fun b => .bool b) (fun i t => .int i t) (fun x t => .str x t) (fun b t => .byt b t)
    (fun h c d _ r => .tup (hs _ _ h) c d r) (fun h c d _ r => .lst (hs _ _ h) c d r) (fun h c d _ r => .dct (hs _ _ h) c d r) (fun h c _ r => .cmpr (hs _ _ h) (hs _ _ c) r) .nil (fun _ _ a b => .cons a b) h
theorem AllD.ind {W : Wd} {K : KM} {P : List Value → List D → Prop} (h0 : P [] []) (h1 : ∀ v vs d ds, IsD W K v d → AllD W K vs ds → P vs ds → P (v :: vs) (d :: ds)) {vs : List Value} {ds : List D} (h : AllD W K vs ds) : P vs ds :=
  AllD.rec (motive_1 := fun _ _ _ => True) (motive_2 := fun vs ds _ => P vs ds) trivial (fun _ => trivial) (fun _ _ => trivial) (fun _ _ => trivial) (fun _ _ => trivial)
    (fun _ _ _ _ _ => trivial) (fun _ _ _ _ _ => trivial) (fun _ _ _ _ _ => trivial) (fun _ _ _ _ => trivial) h0 (fun a b _ ih => h1 _ _ _ _ a b ih) h
theorem AllD.mono {W : Wd} {K K' : KM} (hs : ∀ a o, K a = some o → K' a = some o) {vs : List Value} {ds : List D} (h : AllD W K vs ds) : AllD W K' vs ds :=
  AllD.ind (P := AllD W K') .nil (fun _ _ _ _ a _ r => .cons (a.mono hs) r) h
theorem AllD.length {W : Wd} {K : KM} {vs : List Value} {ds : List D} (h : AllD W K vs ds) : vs.length = ds.length :=
  AllD.ind (P := fun vs ds => vs.length = ds.length) rfl (fun _ _ _ _ _ _ ih => congrArg (· + 1) ih) h
theorem AllD.append {W : Wd} {K : KM} {vs ws : List Value} {ds es : List D} (h : AllD W K vs ds) (k : AllD W K ws es) : AllD W K (vs ++ ws) (ds ++ es) :=
  AllD.ind (P := fun vs ds => AllD W K (vs ++ ws) (ds ++ es)) k (fun _ _ _ _ a _ ih => .cons a ih) h
theorem AllD.get {W : Wd} {K : KM} {vs : List Value} {ds : List D} (h : AllD W K vs ds) : ∀ {i : Nat} {d : D}, ds[i]? = some d → ∃ v, vs[i]? = some v ∧ IsD W K v d :=
  AllD.ind (P := fun vs ds => ∀ {i : Nat} {d : D}, ds[i]? = some d → ∃ v, vs[i]? = some v ∧ IsD W K v d) (fun e => nomatch e) (fun v vs d ds a _ ih {i} {d'} e => by
    cases i with
    | zero => cases e; exact ⟨_, rfl, a⟩
    | succ i => exact ih (i := i) e) h
theorem AllD.take {W : Wd} {K : KM} {vs : List Value} {ds : List D} (h : AllD W K vs ds) : ∀ n, AllD W K (vs.take n) (ds.take n) :=
  AllD.ind (P := fun vs ds => ∀ n, AllD W K (vs.take n) (ds.take n)) (fun n => by rw [List.take_nil, List.take_nil]; exact .nil) (fun _ _ _ _ a _ ih n => by
    cases n with
    | zero => exact .nil
    | succ n => exact .cons a (ih n)) h
theorem AllD.drop {W : Wd} {K : KM} {vs : List Value} {ds : List D} (h : AllD W K vs ds) : ∀ n, AllD W K (vs.drop n) (ds.drop n) :=
  AllD.ind (P := fun vs ds => ∀ n, AllD W K (vs.drop n) (ds.drop n)) (fun n => by rw [List.drop_nil, List.drop_nil]; exact .nil) (fun _ _ _ _ a r ih n => by
    cases n with
    | zero => exact .cons a r
    | succ n => exact ih n) h

/-- what the base gives -/
structure Good (W : Wd) : Prop where
  pt : ∃ ps : Array Value, TriplesOk ps.toList ∧ W.hB.get? W.PT = some (X.tableObj ps)
  pt0 : W.hB.get? W.PT = some (X.tableObj #[])
  two : 2 < W.hB.objs.size
  g : W.hB.Ns mainGlobals W.mg
  gPT : mainGlobals ≠ W.PT
  b : W.hB.Ns builtinsNs W.mb
  bPT : builtinsNs ≠ W.PT
  nolim : W.hB.NoLimit
  cPT : cStatics ≠ W.PT
  lf0 : W.hB.get? W.LF = none

theorem Ok.ptSome {W : Wd} {K : KM} {s : Shared} (G : Good W) (o : Ok W K s) : ∃ ps : Array Value, TriplesOk ps.toList ∧ s.heap.get? W.PT = some (X.tableObj ps) := by
  obtain ⟨ps, hp, e⟩ := G.pt
  obtain ⟨m, hm, e'⟩ := o.base.tab ps hp e
  exact ⟨_, hm, e'⟩
theorem Ok.ne_pt {W : Wd} {K : KM} {s : Shared} (G : Good W) (o : Ok W K s) {a : Addr} (h : s.heap.get? a = none) : a ≠ W.PT := by
  rintro rfl
  obtain ⟨_, _, e⟩ := o.ptSome G
  rw [h] at e; cases e

theorem Ok.fr_fresh {W : Wd} {K : KM} {s : Shared} (G : Good W) (o : Ok W K s) {a : Addr} (h : s.heap.get? a = none) : W.Fr a :=
  ⟨o.ne_pt G h, fun q => by obtain ⟨_, e, _⟩ := o.live; rw [← q, h] at e; cases e⟩
theorem Good.fr {W : Wd} (G : Good W) {a : Addr} {o : Obj} (h : a ≠ W.PT) (e : W.hB.get? a = some o) : W.Fr a := ⟨h, fun q => by rw [q, G.lf0] at e; cases e⟩
theorem Ok.keepB {W : Wd} {K : KM} {s : Shared} (G : Good W) (ok : Ok W K s) {a : Addr} {o : Obj} (h : a ≠ W.PT) (e : W.hB.get? a = some o) : s.heap.get? a = some o := ok.base.keep _ _ (G.fr h e) e
theorem Ok.g {W : Wd} {K : KM} {s : Shared} (G : Good W) (o : Ok W K s) : s.heap.Ns mainGlobals W.mg := G.g.at' fun _ e => o.keepB G G.gPT e
theorem Ok.b {W : Wd} {K : KM} {s : Shared} (G : Good W) (o : Ok W K s) : s.heap.Ns builtinsNs W.mb := G.b.at' fun _ e => o.keepB G G.bPT e
theorem Ok.nolim {W : Wd} {K : KM} {s : Shared} (G : Good W) (o : Ok W K s) : s.heap.NoLimit := let ⟨mc, a, b⟩ := G.nolim; ⟨mc, a.at' fun _ e => o.keepB G G.cPT e, b⟩
theorem Ok.size {W : Wd} {K : KM} {s : Shared} (G : Good W) (o : Ok W K s) : 3 < s.heap.objs.size := (o.g G).lt

/-- one more frozen object -/
noncomputable def putK (K : KM) (a : Addr) (o : Obj) : KM := fun b => if b = a then some o else K b
theorem putK_self (K : KM) (a : Addr) (o : Obj) : putK K a o a = some o := if_pos rfl
theorem putK_of {K : KM} {a : Addr} {o : Obj} (hn : K a = none) {b : Addr} {o' : Obj} (e : K b = some o') : putK K a o b = some o' := by
  unfold putK
  rw [if_neg]
  · exact e
  · rintro rfl; rw [hn] at e; cases e
theorem Ok.noneK {W : Wd} {K : KM} {s : Shared} (ok : Ok W K s) {a : Addr} (hn : s.heap.get? a = none) : K a = none := by
  cases q : K a with
  | none => rfl
  | some o => rw [ok.sub _ _ q] at hn; cases hn

theorem Ext.same {W : Wd} {K : KM} {s : Shared} (ok : Ok W K s) {h' : Heap} {n : Nat} (hk : ∀ b o, s.heap.get? b = some o → h'.get? b = some o) (ht : s.toks ≤ n) :
    Ext W K s K { s with heap := h', toks := n } :=
  { le := .of_keep hk
    kk := fun _ _ e => e
    ok := ⟨ok.base.trans (.of_keep hk), fun a o e => hk _ _ (ok.sub _ _ e), ok.pt, ok.lf, ok.live.imp fun _ e => ⟨hk _ _ e.1, e.2⟩, ok.b0, Nat.le_trans ok.tk ht⟩
    fr := fun _ _ e => .inl e
    os := rfl
    gens := id
    tk := ht }
theorem Ext.toks {W : Wd} {K : KM} {s : Shared} (ok : Ok W K s) {n : Nat} (ht : s.toks ≤ n) : Ext W K s K { s with toks := n } := Ext.same ok (fun _ _ e => e) ht
theorem Ext.add {W : Wd} {K : KM} {s : Shared} (G : Good W) (ok : Ok W K s) {h' : Heap} {n : Nat} {a : Addr} {o : Obj} (hk : ∀ b o, s.heap.get? b = some o → h'.get? b = some o) (ht : s.toks ≤ n)
    (hn : s.heap.get? a = none) (ha : h'.get? a = some o) : Ext W K s (putK K a o) { s with heap := h', toks := n } :=
  { le := .of_keep hk
    kk := fun b o' e => putK_of (ok.noneK hn) e
    ok := ⟨ok.base.trans (.of_keep hk), fun b o' e => by
        unfold putK at e
        split at e
        · rename_i q; subst q; cases e; exact ha
        · exact hk _ _ (ok.sub _ _ e), by unfold putK; rw [if_neg (Ne.symm (ok.ne_pt G hn))]; exact ok.pt, by unfold putK; rw [if_neg (Ne.symm (ok.fr_fresh G hn).2)]; exact ok.lf, ok.live.imp fun _ e => ⟨hk _ _ e.1, e.2⟩, ok.b0, Nat.le_trans ok.tk ht⟩
    fr := fun b o' e => by
      unfold putK at e
      split at e
      · rename_i q; subst q; exact .inr hn
      · exact .inl e
    os := rfl
    gens := id
    tk := ht }
theorem get_size_none (h : Heap) : h.get? h.objs.size = none := Heap.get?_none_of_le (Nat.le_refl _)
theorem Ext.push {W : Wd} {K : KM} {s : Shared} (G : Good W) (ok : Ok W K s) {n : Nat} {o : Obj} (ht : s.toks ≤ n) (hf : o.isFreed = false := by rfl) :
    Ext W K s (putK K s.heap.objs.size o) { s with heap := s.heap.push o, toks := n } :=
  Ext.add G ok (fun _ _ e => Heap.get?_push_of_some _ e) ht (get_size_none _) (Heap.get?_push_size _ hf)

/-- what a place holds: a frozen datum, or a list or dict of the frame's own -/
inductive LV where
  | v (d : D)
  | o (d : D)
noncomputable def LV.d : LV → D
  | .v d => d
  | .o d => d

/-- a datum whose top object is read in the heap, its items frozen -/
inductive View (W : Wd) (K : KM) (h : Heap) : Value → D → Prop
  | v {x : Value} {d : D} : IsD W K x d → View W K h x d
  | lst {a : Addr} {vs : List Value} {n : Nat} {ds : List D} : h.get? a = some (listOf vs.toArray n) → AllD W K vs ds → View W K h (.ref a) (.lst ds)
  | dct {a : Addr} {o : Obj} {kvs : List (Int × Value)} {ds : List D} : h.get? a = some o → (a == sysModules) = false → o.IsDictOf W.ik kvs → AllD W K (kvs.map (·.2)) ds → View W K h (.ref a) (.dct (kvs.map (·.1)) ds)

/-- an address of the frame's own: not frozen, younger than the base -/
noncomputable def Own (W : Wd) (K : KM) (a : Addr) : Prop := K a = none ∧ W.Fr a ∧ W.hB.get? a = none
/-- the same, for the place of a frame -/
noncomputable def OwnL (W : Wd) (K : KM) (a : Addr) : Prop := K a = none ∧ a ≠ W.PT ∧ W.hB.get? a = none
theorem Own.toL {W : Wd} {K : KM} {a : Addr} (w : Own W K a) : OwnL W K a := ⟨w.1, w.2.1.1, w.2.2⟩

inductive IsLV (W : Wd) (K : KM) (h : Heap) : Value → LV → Prop
  | v {x : Value} {d : D} : IsD W K x d → IsLV W K h x (.v d)
  | lst {a : Addr} {vs : List Value} {n : Nat} {ds : List D} : Own W K a → h.get? a = some (listOf vs.toArray n) → AllD W K vs ds → IsLV W K h (.ref a) (.o (.lst ds))
  | dct {a : Addr} {o : Obj} {kvs : List (Int × Value)} {ds : List D} : Own W K a → h.get? a = some o → (a == sysModules) = false → o.IsDictOf W.ik kvs → AllD W K (kvs.map (·.2)) ds → IsLV W K h (.ref a) (.o (.dct (kvs.map (·.1)) ds))

theorem IsLV.view {W : Wd} {K : KM} {h : Heap} {x : Value} {l : LV} (i : IsLV W K h x l) : View W K h x l.d := by
  cases i with
  | v h => exact .v h
  | lst _ h r => exact .lst h r
  | dct _ h c d r => exact .dct h c d r

/-- what a step leaves that may write to B -/
structure ExtB (W : Wd) (B : Addr → Prop) (K : KM) (s : Shared) (K' : KM) (s' : Shared) : Prop where
  keep : ∀ b o, W.Fr b → ¬ B b → s.heap.get? b = some o → s'.heap.get? b = some o
  lf : ¬ B W.LF → ∀ o, s.heap.get? W.LF = some o → ∃ sl, s'.heap.get? W.LF = some { o with slots := sl }
  tab : ∀ ps : Array Value, TriplesOk ps.toList → s.heap.get? W.PT = some (X.tableObj ps) → ∃ more : Array Value, TriplesOk (ps ++ more).toList ∧ s'.heap.get? W.PT = some (X.tableObj (ps ++ more))
  kk : ∀ a o, K a = some o → K' a = some o
  ok : Ok W K' s'
  fr : ∀ a o, K' a = some o → K a = some o ∨ s.heap.get? a = none ∨ B a
  os : s'.os = s.os
  gens : AllBare s.gens → AllBare s'.gens
  tk : s.toks ≤ s'.toks

theorem Ext.toB {W : Wd} {B : Addr → Prop} {K K' : KM} {s s' : Shared} (x : Ext W K s K' s') : ExtB W B K s K' s' :=
  ⟨fun b o hb _ e => x.le.keep b o hb e, fun _ => x.le.lf, x.le.tab, x.kk, x.ok, fun a o e => (x.fr a o e).elim .inl (fun h => .inr (.inl h)), x.os, x.gens, x.tk⟩
theorem ExtB.toExt {W : Wd} {B : Addr → Prop} {K K' : KM} {s s' : Shared} (x : ExtB W B K s K' s') (hB : ∀ a, B a → s.heap.get? a = none) : Ext W K s K' s' :=
  ⟨⟨fun b o hb e => x.keep b o hb (fun q => by rw [hB b q] at e; cases e) e, x.tab, fun o e => x.lf (fun q => by rw [hB _ q] at e; cases e) o e⟩, x.kk, x.ok, fun a o e => (x.fr a o e).elim .inl (fun h => .inr (h.elim id (hB a))), x.os, x.gens, x.tk⟩
theorem ExtB.refl {W : Wd} {B : Addr → Prop} {K : KM} {s : Shared} (o : Ok W K s) : ExtB W B K s K s := (Ext.refl o).toB
theorem ExtB.trans {W : Wd} {B B' : Addr → Prop} {K K' K'' : KM} {s s' s'' : Shared} (x : ExtB W B K s K' s') (y : ExtB W B' K' s' K'' s'') (hB : ∀ a, B' a → B a ∨ s.heap.get? a = none) : ExtB W B K s K'' s'' :=
  { keep := fun b o hb nb e => y.keep b o hb (fun q => (hB b q).elim nb (fun h => by rw [h] at e; cases e)) (x.keep b o hb nb e)
    lf := fun nb o e => by
      obtain ⟨sl, e'⟩ := x.lf nb o e
      obtain ⟨sl', e''⟩ := y.lf (fun q => (hB _ q).elim nb (fun h => by rw [h] at e; cases e)) _ e'
      exact ⟨sl', e''⟩
    tab := fun ps hp e => by
      obtain ⟨m, hm, e'⟩ := x.tab ps hp e
      obtain ⟨m', hm', e''⟩ := y.tab _ hm e'
      exact ⟨m ++ m', by rw [← Array.append_assoc]; exact hm', by rw [← Array.append_assoc]; exact e''⟩
    kk := fun a o e => y.kk a o (x.kk a o e)
    ok := y.ok
    fr := fun a o e => by
      rcases y.fr a o e with h | h | h
      · exact x.fr a o h
      · by_cases nb : B a
        · exact .inr (.inr nb)
        · refine .inr (.inl ?_)
          cases q : s.heap.get? a with
          | none => rfl
          | some o' =>
            have : s'.heap.get? a = some o' := x.keep a o' ⟨fun z => by (rw [z, y.ok.pt] at e; cases e), fun z => by (rw [z, y.ok.lf] at e; cases e)⟩ nb q
            rw [h] at this; cases this
      · exact .inr ((hB a h).symm)
    os := y.os.trans x.os
    gens := fun g => y.gens (x.gens g)
    tk := Nat.le_trans x.tk y.tk }
theorem ExtB.mono {W : Wd} {B B' : Addr → Prop} {K K' : KM} {s s' : Shared} (ok : Ok W K s) (x : ExtB W B K s K' s') (hB : ∀ a, B a → B' a ∨ s.heap.get? a = none) : ExtB W B' K s K' s' :=
  (ExtB.refl ok).trans x hB

theorem Own.extB {W : Wd} {B : Addr → Prop} {K K' : KM} {s s' : Shared} {a : Addr} {o : Obj} (w : Own W K a) (x : ExtB W B K s K' s') (hb : ¬ B a) (e : s.heap.get? a = some o) : Own W K' a :=
  ⟨by
    cases q : K' a with
    | none => rfl
    | some o' =>
      rcases x.fr a o' q with h | h | h
      · rw [w.1] at h; cases h
      · rw [e] at h; cases h
      · exact absurd h hb, w.2⟩
theorem OwnL.extB {W : Wd} {B : Addr → Prop} {K K' : KM} {s s' : Shared} {a : Addr} {o : Obj} (w : OwnL W K a) (x : ExtB W B K s K' s') (hb : ¬ B a) (e : s.heap.get? a = some o) : OwnL W K' a :=
  ⟨by
    cases q : K' a with
    | none => rfl
    | some o' =>
      rcases x.fr a o' q with h | h | h
      · rw [w.1] at h; cases h
      · rw [e] at h; cases h
      · exact absurd h hb, w.2⟩
theorem OwnL.ext {W : Wd} {K K' : KM} {s s' : Shared} {a : Addr} {o : Obj} (w : OwnL W K a) (x : Ext W K s K' s') (e : s.heap.get? a = some o) : OwnL W K' a := w.extB (B := fun _ => False) x.toB id e
theorem ExtB.up {W : Wd} {B : Addr → Prop} {K K' : KM} {s s' : Shared} (x : ExtB W B K s K' s') {a : Addr} (ha : a ≠ W.PT) (nb : ¬ B a) (o : Obj) (e : s.heap.get? a = some o) : ∃ sl, s'.heap.get? a = some { o with slots := sl } := by
  by_cases q : a = W.LF
  · subst q; exact x.lf nb o e
  · exact ⟨o.slots, x.keep a o ⟨ha, q⟩ nb e⟩
theorem Own.ext {W : Wd} {K K' : KM} {s s' : Shared} {a : Addr} {o : Obj} (w : Own W K a) (x : Ext W K s K' s') (e : s.heap.get? a = some o) : Own W K' a := w.extB (B := fun _ => False) x.toB id e
theorem Own.fresh {W : Wd} {K : KM} {s : Shared} {a : Addr} (G : Good W) (ok : Ok W K s) (e : s.heap.get? a = none) : Own W K a :=
  ⟨ok.noneK e, ok.fr_fresh G e, get_none_of ok.base (ok.ne_pt G e) e⟩

theorem IsLV.extB {W : Wd} {B : Addr → Prop} {K K' : KM} {s s' : Shared} {x : Value} {l : LV} (i : IsLV W K s.heap x l) (e : ExtB W B K s K' s') (hB : ∀ a, x = .ref a → (∃ d, l = .o d) → ¬ B a) : IsLV W K' s'.heap x l := by
  cases i with
  | v h => exact .v (h.mono e.kk)
  | lst w h r => exact .lst (w.extB e (hB _ rfl ⟨_, rfl⟩) h) (e.keep _ _ w.2.1 (hB _ rfl ⟨_, rfl⟩) h) (r.mono e.kk)
  | dct w h c d r => exact .dct (w.extB e (hB _ rfl ⟨_, rfl⟩) h) (e.keep _ _ w.2.1 (hB _ rfl ⟨_, rfl⟩) h) c d (r.mono e.kk)
theorem IsLV.ext {W : Wd} {K K' : KM} {s s' : Shared} {x : Value} {l : LV} (i : IsLV W K s.heap x l) (e : Ext W K s K' s') : IsLV W K' s'.heap x l := i.extB (B := fun _ => False) e.toB fun _ _ _ => id

theorem View.ext {W : Wd} {K K' : KM} {s s' : Shared} {x : Value} {d : D} (i : View W K s.heap x d) (hp : ∀ a, x = .ref a → W.Fr a) (e : Ext W K s K' s') : View W K' s'.heap x d := by
  cases i with
  | v h => exact .v (h.mono e.kk)
  | lst h r => exact .lst (e.le.keep _ _ (hp _ rfl) h) (r.mono e.kk)
  | dct h c d r => exact .dct (e.le.keep _ _ (hp _ rfl) h) c d (r.mono e.kk)

/-- the wanted end of an expression -/
inductive RV (W : Wd) (K : KM) (s : Shared) (r : D) (v : Value) (s' : Shared) : Prop where
  | mk (K' : KM) (x : Ext W K s K' s') (i : IsD W K' v r) : RV W K s r v s'
inductive RL (W : Wd) (K : KM) (s : Shared) (r : LV) (v : Value) (s' : Shared) : Prop where
  | mk (K' : KM) (x : Ext W K s K' s') (i : IsLV W K' s'.heap v r) : RL W K s r v s'
noncomputable abbrev NoE : Value → Shared → Prop := fun _ _ => False
theorem RV.rl {W : Wd} {K : KM} {s s' : Shared} {r : D} {v : Value} (h : RV W K s r v s') : RL W K s (.v r) v s' := let ⟨K', x, y⟩ := h; ⟨K', x, .v y⟩
theorem RV.here {W : Wd} {K : KM} {s : Shared} {r : D} {v : Value} (ok : Ok W K s) {n : Nat} (ht : s.toks ≤ n) (h : IsD W K v r) : RV W K s r v { s with toks := n } := ⟨K, .toks ok ht, h⟩
theorem RV.now {W : Wd} {K : KM} {s : Shared} {r : D} {v : Value} (ok : Ok W K s) (h : IsD W K v r) : RV W K s r v s := ⟨K, .refl ok, h⟩

/-- room for calls; at the law's own level the frames are known -/
structure Room (W : Wd) (A : Around) (n : Nat) : Prop where
  hh : A.handled = none
  dep : A.depth + n < recursionLimit
  un : A.units + 8 * n + 200 < cLine
  fr : 8 ≤ n → A.frames = W.AF
theorem Room.low {W : Wd} {A : Around} {n m : Nat} (r : Room W A n) (h : m ≤ n) : Room W A m := ⟨r.hh, by have := r.dep; omega, by have := r.un; omega, fun q => r.fr (Nat.le_trans q h)⟩
theorem Room.u64 {W : Wd} {A : Around} {n : Nat} (r : Room W A n) : A.units + 64 < cLine := by have := r.un; omega
theorem Room.deeper {W : Wd} {A : Around} {n : Nat} (r : Room W A (n + 1)) (hn : n < 8) (env : Env) : Room W (A.deeper env) n := ⟨r.hh, by show A.depth + 1 + n < _; have := r.dep; omega, by show A.units + 3 + 8 * n + 200 < cLine; have := r.un; omega, fun q => absurd hn (Nat.not_lt.mpr q)⟩
end Mine
namespace Mine
open PySem PySem.W PySem.Calls PyProof.Rows

/-- what a value is, told by the plain value it stands for -/
noncomputable def IsD.Told (W : Wd) (K : KM) (v : Value) : D → Prop
  | .int i => ∃ t, v = .int i t
  | .str x => ∃ t, v = .str x t
  | .bool b => v = .bool b
  | .byt x => ∃ t, v = .bytes x t
  | .tup ds => ∃ a o vs n, v = .ref a ∧ K a = some o ∧ o.cls = .type "tuple" ∧ o.data = .seq vs n ∧ AllD W K vs.toList ds
  | .lst ds => ∃ a o vs n, v = .ref a ∧ K a = some o ∧ o.cls = .type "list" ∧ o.data = .seq vs n ∧ AllD W K vs.toList ds
  | _ => True
theorem IsD.told {W : Wd} {K : KM} {v : Value} {d : D} (i : IsD W K v d) : IsD.Told W K v d := by
  cases i with
  | int i t => exact ⟨t, rfl⟩
  | str x t => exact ⟨t, rfl⟩
  | bool b => rfl
  | byt x t => exact ⟨t, rfl⟩
  | tup a b c d => exact ⟨_, _, _, _, rfl, a, b, c, d⟩
  | lst a b c d => exact ⟨_, _, _, _, rfl, a, b, c, d⟩
  | _ => trivial
theorem IsD.int_inv {W : Wd} {K : KM} {v : Value} {x : Int} (i : IsD W K v (.int x)) : ∃ t, v = .int x t := i.told
theorem IsD.str_inv {W : Wd} {K : KM} {v : Value} {x : Str} (i : IsD W K v (.str x)) : ∃ t, v = .str x t := i.told
theorem IsD.tup_inv {W : Wd} {K : KM} {v : Value} {ds : List D} (i : IsD W K v (.tup ds)) : ∃ a o vs n, v = .ref a ∧ K a = some o ∧ o.cls = .type "tuple" ∧ o.data = .seq vs n ∧ AllD W K vs.toList ds := i.told
theorem IsD.lst_inv {W : Wd} {K : KM} {v : Value} {ds : List D} (i : IsD W K v (.lst ds)) : ∃ a o vs n, v = .ref a ∧ K a = some o ∧ o.cls = .type "list" ∧ o.data = .seq vs n ∧ AllD W K vs.toList ds := i.told
noncomputable def View.Told (W : Wd) (K : KM) (h : Heap) (v : Value) : D → Prop
  | .int i => ∃ t, v = .int i t
  | .str x => ∃ t, v = .str x t
  | .bool b => v = .bool b
  | .byt x => ∃ t, v = .bytes x t
  | .tup ds => IsD W K v (.tup ds)
  | _ => True
theorem View.told {W : Wd} {K : KM} {h : Heap} {v : Value} {d : D} (x : View W K h v d) : View.Told W K h v d := by
  cases x with
  | v i => cases d with
    | int _ => exact i.told
    | str _ => exact i.told
    | bool _ => exact i.told
    | byt _ => exact i.told
    | tup _ => exact i
    | _ => trivial
  | lst _ _ => trivial
  | dct _ _ _ _ => trivial

theorem mem0 {α : Type} {P : α → Prop} : ∀ b ∈ ([] : List α), P b := fun _ h => nomatch h
theorem mem1 {α : Type} {P : α → Prop} {a : α} {l : List α} (h : P a) (t : ∀ b ∈ l, P b) : ∀ b ∈ a :: l, P b := fun b hb => by
  rcases List.mem_cons.mp hb with rfl | hb
  · exact h
  · exact t b hb
theorem out0 {α : Type} {b : α} : b ∉ ([] : List α) := fun h => nomatch h
theorem out1 {α : Type} {a b : α} {l : List α} (h : b ≠ a) (t : b ∉ l) : b ∉ a :: l := fun hb => by
  rcases List.mem_cons.mp hb with rfl | hb
  · exact h rfl
  · exact t hb
/-- the five new addresses of a zip -/
theorem zipNew {P : Nat → Prop} {B : Nat} (h4 : P (B + 4)) (h2 : P (B + 2)) (h3 : P (B + 3)) (h0 : P B) (h1 : P (B + 1)) : ∀ a ∈ [B + 4, B + 2, B + 3, B, B + 1], P a := mem1 h4 (mem1 h2 (mem1 h3 (mem1 h0 (mem1 h1 mem0))))
theorem zipAll {P : Nat → Prop} {B x y : Nat} (h4 : P (B + 4)) (h2 : P (B + 2)) (h3 : P (B + 3)) (h0 : P B) (h1 : P (B + 1)) (hx : P x) (hy : P y) : ∀ a ∈ [B + 4, B + 2, B + 3, B, B + 1, x, y], P a := mem1 h4 (mem1 h2 (mem1 h3 (mem1 h0 (mem1 h1 (mem1 hx (mem1 hy mem0))))))
theorem zipOut {B b : Nat} (h : b < B) : b ∉ [B + 4, B + 3, B, B + 1] := out1 (Nat.ne_of_lt (Nat.lt_add_right _ h)) (out1 (Nat.ne_of_lt (Nat.lt_add_right _ h)) (out1 (Nat.ne_of_lt h) (out1 (Nat.ne_of_lt (Nat.lt_add_right _ h)) out0)))
theorem zipSub {B b : Nat} (h : b ∉ [B + 4, B + 2, B + 3, B, B + 1]) : b ∉ [B + 4, B + 3, B, B + 1] := fun q => h (mem1 (P := (· ∈ [B + 4, B + 2, B + 3, B, B + 1])) (.head _) (fun b hb => .tail _ (.tail _ hb)) b q)
theorem zipNe {B p : Nat} (h : p < B) : ∀ k, B + k ≠ p := fun k => Nat.ne_of_gt (Nat.lt_add_right _ h)
end Mine
namespace Mine
open PySem PySem.W PySem.Calls PyProof.Rows

/-! data as the library reads them -/
mutual
noncomputable def D.toPy : D → PyData
  | .none => .none
  | .bool b => .bool b
  | .int i => .int i
  | .str x => .str x
  | .tup l => .tuple (toPys l)
  | .lst l => .list (toPys l)
  | .dct _ _ => .none
  | .byt _ => .none
  | .cmpr _ => .none
noncomputable def toPys : List D → List PyData
  | [] => []
  | d :: r => d.toPy :: toPys r
end
mutual
noncomputable def D.flat : D → Bool
  | .none => true
  | .bool _ => true
  | .int _ => true
  | .str _ => true
  | .tup l => flats l
  | .lst l => flats l
  | .dct _ _ => false
  | .byt _ => false
  | .cmpr _ => false
noncomputable def flats : List D → Bool
  | [] => true
  | d :: r => d.flat && flats r
end
theorem flats_iff : ∀ l : List D, flats l = true ↔ ∀ d ∈ l, d.flat = true
  | [] => by simp [flats]
  | d :: r => by simp [flats, flats_iff r]
noncomputable def okE (d : D) : Bool := d.flat && SeqAt.shaped d.toPy

theorem IsD.readsBoth {W : Wd} {K : KM} {h : Heap} (hs : ∀ a o, K a = some o → h.get? a = some o) : (∀ {v : Value} {d : D}, IsD W K v d → d.flat = true → ∃ as, Reads h v d.toPy as) ∧ ∀ {vs : List Value} {ds : List D}, AllD W K vs ds → flats ds = true → ∃ as, ReadsAll h vs (toPys ds) as := by
  have nil : flats [] = true → ∃ as, ReadsAll h [] (toPys []) as := fun _ => ⟨_, ReadsAll.nil⟩
  have cons : ∀ {v : Value} {vs : List Value} {d : D} {ds : List D}, (d.flat = true → ∃ as, Reads h v d.toPy as) → (flats ds = true → ∃ as, ReadsAll h vs (toPys ds) as) → flats (d :: ds) = true → ∃ as, ReadsAll h (v :: vs) (toPys (d :: ds)) as := fun a b e => by
    have e' := Bool.and_eq_true_iff.mp e
    obtain ⟨as, q⟩ := a e'.1
    obtain ⟨bs, p⟩ := b e'.2
    exact ⟨_, ReadsAll.cons q p⟩
  have tup : ∀ {a : Addr} {o : Obj} {vs : Array Value} {n : Nat} {ds : List D}, K a = some o → o.cls = .type "tuple" → o.data = .seq vs n → (flats ds = true → ∃ as, ReadsAll h vs.toList (toPys ds) as) → (D.tup ds).flat = true → ∃ as, Reads h (.ref a) (D.tup ds).toPy as := fun hk c d r e => by
    obtain ⟨as, q⟩ := r e
    exact ⟨_, Reads.tuple (hs _ _ hk) c d q⟩
  have lst : ∀ {a : Addr} {o : Obj} {vs : Array Value} {n : Nat} {ds : List D}, K a = some o → o.cls = .type "list" → o.data = .seq vs n → (flats ds = true → ∃ as, ReadsAll h vs.toList (toPys ds) as) → (D.lst ds).flat = true → ∃ as, Reads h (.ref a) (D.lst ds).toPy as := fun hk c d r e => by
    obtain ⟨as, q⟩ := r e
    exact ⟨_, Reads.list (hs _ _ hk) c d q⟩
  constructor
  · exact fun {v d} x => IsD.rec (motive_1 := fun v d _ => d.flat = true → ∃ as, Reads h v d.toPy as) (motive_2 := fun vs ds _ => flats ds = true → ∃ as, ReadsAll h vs (toPys ds) as)
      (fun _ => ⟨_, Reads.none⟩) (fun b _ => ⟨_, Reads.bool b⟩) (fun i t _ => ⟨_, Reads.int i t⟩) (fun x t _ => ⟨_, Reads.str x t⟩) (fun _ _ e => nomatch (show false = true from e)) (fun a b c _ r => tup a b c r) (fun a b c _ r => lst a b c r) (fun _ _ _ _ _ e => nomatch (show false = true from e)) (fun _ _ _ _ e => nomatch (show false = true from e)) nil (fun _ _ a b => cons a b) x
  · exact fun {vs ds} x => AllD.rec (motive_1 := fun v d _ => d.flat = true → ∃ as, Reads h v d.toPy as) (motive_2 := fun vs ds _ => flats ds = true → ∃ as, ReadsAll h vs (toPys ds) as)
      (fun _ => ⟨_, Reads.none⟩) (fun b _ => ⟨_, Reads.bool b⟩) (fun i t _ => ⟨_, Reads.int i t⟩) (fun x t _ => ⟨_, Reads.str x t⟩) (fun _ _ e => nomatch (show false = true from e)) (fun a b c _ r => tup a b c r) (fun a b c _ r => lst a b c r) (fun _ _ _ _ _ e => nomatch (show false = true from e)) (fun _ _ _ _ e => nomatch (show false = true from e)) nil (fun _ _ a b => cons a b) x
theorem IsD.reads {W : Wd} {K : KM} {h : Heap} (hs : ∀ a o, K a = some o → h.get? a = some o) {v : Value} {d : D} (x : IsD W K v d) (e : d.flat = true) : ∃ as, Reads h v d.toPy as := (IsD.readsBoth hs).1 x e
theorem AllD.reads {W : Wd} {K : KM} {h : Heap} (hs : ∀ a o, K a = some o → h.get? a = some o) {vs : List Value} {ds : List D} (x : AllD W K vs ds) (e : flats ds = true) : ∃ as, ReadsAll h vs (toPys ds) as := (IsD.readsBoth hs).2 x e
theorem View.reads {W : Wd} {K : KM} {h : Heap} (hs : ∀ a o, K a = some o → h.get? a = some o) {v : Value} {d : D} (x : View W K h v d) (hf : d.flat = true) : ∃ as, Reads h v d.toPy as := by
  cases x with
  | v i => exact i.reads hs hf
  | lst hg r =>
    obtain ⟨as, q⟩ := r.reads hs (by simpa [D.flat] using hf)
    exact ⟨_, Reads.list hg rfl rfl q⟩
  | dct _ _ _ _ => simp [D.flat] at hf

/-- a list, tuple or dict as it is viewed -/
theorem View.isList {W : Wd} {K : KM} {h : Heap} (hs : ∀ a o, K a = some o → h.get? a = some o) {v : Value} {ds : List D} (x : View W K h v (.lst ds)) :
    ∃ a vs, v = .ref a ∧ h.IsList a vs ∧ AllD W K vs.toList ds := by
  cases x with
  | v i =>
    refine hide fun GG kk => ?_
    obtain ⟨a, o, vs, n, rfl, hk, c, d, r⟩ := i.lst_inv
    refine kk ?_
    clear kk GG
    exact ⟨_, _, rfl, ⟨_, hs _ _ hk, c, _, d⟩, r⟩
  | lst hg r => exact ⟨_, _, rfl, ⟨_, hg, rfl, _, rfl⟩, r⟩
theorem View.isTuple {W : Wd} {K : KM} {h : Heap} (hs : ∀ a o, K a = some o → h.get? a = some o) {v : Value} {ds : List D} (x : View W K h v (.tup ds)) :
    ∃ a vs, v = .ref a ∧ h.IsTuple a vs ∧ AllD W K vs.toList ds := by
  refine hide fun GG kk => ?_
  obtain ⟨a, o, vs, n, rfl, hk, c, d, r⟩ := IsD.tup_inv x.told
  refine kk ?_
  clear kk GG
  exact ⟨_, _, rfl, ⟨_, hs _ _ hk, c, _, d⟩, r⟩
theorem View.isDict {W : Wd} {K : KM} {h : Heap} (hs : ∀ a o, K a = some o → h.get? a = some o) {v : Value} {ks : List Int} {ds : List D} (x : View W K h v (.dct ks ds)) :
    ∃ a kvs, v = .ref a ∧ (a == sysModules) = false ∧ h.DictOf W.ik a kvs ∧ kvs.map (·.1) = ks ∧ AllD W K (kvs.map (·.2)) ds := by
  cases x with
  | v i => cases i with
    | dct hk c d r => exact ⟨_, _, rfl, c, Heap.dictOf_iff.mpr ⟨_, hs _ _ hk, d⟩, rfl, r⟩
  | dct hg c d r => exact ⟨_, _, rfl, c, Heap.dictOf_iff.mpr ⟨_, hg, d⟩, rfl, r⟩
theorem View.isInt {W : Wd} {K : KM} {h : Heap} {v : Value} {i : Int} (x : View W K h v (.int i)) : ∃ t, v = .int i t := x.told
theorem View.isBool {W : Wd} {K : KM} {h : Heap} {v : Value} {b : Bool} (x : View W K h v (.bool b)) : v = .bool b := x.told
theorem View.isStr {W : Wd} {K : KM} {h : Heap} {v : Value} {x : Str} (y : View W K h v (.str x)) : ∃ t, v = .str x t := y.told
theorem View.isByt {W : Wd} {K : KM} {h : Heap} {v : Value} {x : Array UInt8} (y : View W K h v (.byt x)) : ∃ t, v = .bytes x t := y.told

/-- a dict's value under a key -/
noncomputable def dget : List Int → List D → Int → Option D
  | k :: ks, d :: ds, i => if k = i then some d else dget ks ds i
  | _, _, _ => none
theorem valueAt_dget {W : Wd} {K : KM} : ∀ {kvs : List (Int × Value)} {ds : List D}, AllD W K (kvs.map (·.2)) ds → ∀ i : Int,
    (∃ v d, valueAt kvs i = some v ∧ dget (kvs.map (·.1)) ds i = some d ∧ IsD W K v d) ∨ (valueAt kvs i = none ∧ dget (kvs.map (·.1)) ds i = none)
  | [], _, .nil, i => .inr ⟨rfl, rfl⟩
  | (k, v) :: r, _, .cons h t, i => by
    simp only [List.map_cons, dget, valueAt, List.find?_cons]
    by_cases q : k = i
    · subst q; simp only [decide_true, if_true, Option.map_some]; exact .inl ⟨_, _, rfl, rfl, h⟩
    · simp only [decide_eq_false q, if_neg q]; exact valueAt_dget t i

/-! equality -/
noncomputable def eqRows (kb : List Int) (db : List D) : List Int → List D → Bool
  | k :: ks, d :: ds => (match dget kb db k with
    | some e => PyData.eqv d.toPy e.toPy
    | none => false) && eqRows kb db ks ds
  | _, _ => true
noncomputable def eqD (a b : D) : Option Bool := match a, b with
  | .dct ka da, .dct kb db => if (da.all okE && db.all okE) = true then some (ka.length == kb.length && eqRows kb db ka da) else none
  | a, b => if (okE a && okE b) = true then some (PyData.eqv a.toPy b.toPy) else none

section
variable {W : Wd} {A : Around} {E : Value → Shared → Prop} {s : Shared} {K : KM}

theorem okE_mem {ds : List D} (h : ds.all okE = true) {d : D} (m : d ∈ ds) : d.flat = true ∧ SeqAt.shaped d.toPy = true := by
  have := List.all_eq_true.mp h d m
  simpa [okE] using this
theorem hits_of (ok : Ok W K s) {kb : List (Int × Value)} {db : List D} (rb : AllD W K (kb.map (·.2)) db) (hb : db.all okE = true) (hu : A.units + 64 < cLine) :
    ∀ {ka : List (Int × Value)} {da : List D}, AllD W K (ka.map (·.2)) da → da.all okE = true → KeqHits A s kb ka (eqRows (kb.map (·.1)) db (ka.map (·.1)) da)
  | [], _, .nil, _ => .nil
  | (k, v) :: r, d :: ds, .cons h t, ha => by
    simp only [List.all_cons, Bool.and_eq_true] at ha
    have ih := hits_of ok rb hb hu (ka := r) t ha.2
    simp only [List.map_cons, eqRows]
    rcases valueAt_dget rb k with ⟨y, e, e1, e2, e3⟩ | ⟨e1, e2⟩
    · rw [e2]
      have fd : d.flat = true ∧ SeqAt.shaped d.toPy = true := by simpa [okE] using ha.1
      have me : e ∈ db := by
        clear ih e3 rb
        revert e2
        generalize kb.map (·.1) = ks
        intro e2
        induction db generalizing ks with
        | nil => cases ks <;> simp [dget] at e2
        | cons x xs ihx =>
          cases ks with
          | nil => simp [dget] at e2
          | cons k' ks =>
            simp only [dget] at e2
            simp only [List.all_cons, Bool.and_eq_true] at hb
            split at e2
            · cases e2; exact .head _
            · exact .tail _ (ihx hb.2 _ e2)
      have fe := okE_mem hb me
      obtain ⟨as, ra⟩ := h.reads ok.sub fd.1
      obtain ⟨bs, rb'⟩ := e3.reads ok.sub fe.1
      exact .hit e1 (keq_at' ra rb' fd.2 fe.2 hu) ih
    · rw [e2, Bool.false_and]
      exact .miss e1
where
  keq_at' {v y : Value} {da db : PyData} {as bs : List Addr} (ra : Reads s.heap v da as) (rb : Reads s.heap y db bs) (ha : SeqAt.shaped da = true) (hb : SeqAt.shaped db = true) (hu : A.units + 64 < cLine) : SeqAt.EqAt A s v y (PyData.eqv da db) := by
    exact SeqAt.eqAt_reads da db A s v y as bs ra rb (SeqAt.canLay_of_shaped ha) (SeqAt.canLay_of_shaped hb) (SeqAt.room_of_shaped ha hu)
end

inductive CO where
  | eq | ne | lt | le | gt | ge | inn
  deriving DecidableEq
noncomputable def CO.real : CO → CmpOp
  | .eq => .Eq
  | .ne => .NotEq
  | .lt => .Lt
  | .le => .LtE
  | .gt => .Gt
  | .ge => .GtE
  | .inn => .In
noncomputable def cmpI : CO → Int → Int → Option Bool
  | .lt, a, b => some (decide (a < b))
  | .le, a, b => some (decide (a ≤ b))
  | .gt, a, b => some (decide (a > b))
  | .ge, a, b => some (decide (a ≥ b))
  | _, _, _ => none
noncomputable def ordD (op : CO) : D → D → Option Bool
  | .int a, .int b => cmpI op a b
  | _, _ => none
noncomputable def innD : D → D → Option Bool
  | .int k, .dct ks ds => some (dget ks ds k).isSome
  | .str y, .str x => some (!(Builtin.Str.occurrences x y 0 x.length 1).isEmpty)
  | x, .lst l => if (okE x && okE (.lst l)) = true then some ((toPys l).any fun y => PyData.eqv y x.toPy) else none
  | _, _ => none
noncomputable def cmpD : CO → D → D → Option Bool
  | .eq => eqD
  | .ne => fun a b => (eqD a b).map (!·)
  | .inn => innD
  | .lt => ordD .lt
  | .le => ordD .le
  | .gt => ordD .gt
  | .ge => ordD .ge

/-- a bool came back, nothing was changed -/
noncomputable def BackB (s : Shared) (r : Bool) (v : Value) (s' : Shared) : Prop := v = .bool r ∧ ∃ n, s.toks ≤ n ∧ s' = { s with toks := n }
section
variable {W : Wd} {A : Around} {E : Value → Shared → Prop} {s : Shared} {K : KM}
theorem BackB.now {s : Shared} {r : Bool} : BackB s r (.bool r) s := ⟨rfl, s.toks, Nat.le_refl _, rfl⟩
theorem BackB.tok {s : Shared} {r : Bool} {n : Nat} (h : s.toks ≤ n) : BackB s r (.bool r) { s with toks := n } := ⟨rfl, n, h, rfl⟩
theorem eq_sound (ok : Ok W K s) (hu : A.units + 72 < cLine) {x y : Value} {a b : D} {r : Bool} (va : View W K s.heap x a) (vb : View W K s.heap y b) (e : eqD a b = some r) :
    wpAny (model W.prog W.w) A (compareOp .Eq x y) (BackB s r) E s ∧ wpAny (model W.prog W.w) A (compareOp .NotEq x y) (BackB s (!r)) E s := by
  have plain : ∀ a b, View W K s.heap x a → View W K s.heap y b → (okE a && okE b) = true → wpAny (model W.prog W.w) A (compareOp .Eq x y) (BackB s (PyData.eqv a.toPy b.toPy)) E s ∧ wpAny (model W.prog W.w) A (compareOp .NotEq x y) (BackB s (!PyData.eqv a.toPy b.toPy)) E s := by
    intro a b va vb h
    simp only [okE, Bool.and_eq_true] at h
    obtain ⟨as, ra⟩ := va.reads ok.sub h.1.1
    obtain ⟨bs, rb⟩ := vb.reads ok.sub h.2.1
    exact ⟨eq_dataH ra rb h.1.2 h.2.2 (by omega) .now, ne_dataH ra rb h.1.2 h.2.2 (by omega) .now⟩
  unfold eqD at e
  split at e
  · rename_i ka da kb db
    split at e
    · rename_i h
      simp only [Bool.and_eq_true] at h
      refine hide fun GG kk => ?_
      obtain ⟨p, kva, rfl, sa, oa, rfl, ia⟩ := va.isDict ok.sub
      obtain ⟨q, kvb, rfl, sb, ob, rfl, ib⟩ := vb.isDict ok.sub
      have hits := hits_of (A := A.in1) ok ib h.2 (by show A.units + 1 + 64 < cLine; omega) ia h.1
      cases e
      refine kk ?_
      clear kk GG
      refine ⟨keq_eq sa sb oa ob (by omega) (fun _ => hits) ?_, keq_ne sa sb oa ob (by omega) (fun _ => hits) ?_⟩
      · simp only [List.length_map]; exact .now
      · simp only [List.length_map]; exact .now
    · cases e
  · split at e
    · rename_i h
      cases e
      exact plain _ _ va vb h
    · cases e
theorem ord_sound {op : CO} {x y : Value} {a b : D} {r : Bool} (va : View W K s.heap x a) (vb : View W K s.heap y b) (e : ordD op a b = some r) :
    wpAny (model W.prog W.w) A (compareOp op.real x y) (BackB s r) E s := by
  unfold ordD at e
  split at e
  · obtain ⟨t, rfl⟩ := va.isInt; obtain ⟨u, rfl⟩ := vb.isInt
    cases op with
    | lt => cases e; exact P.lt_int .now
    | le => cases e; exact P.le_int .now
    | gt => cases e; exact P.gt_int .now
    | ge => cases e; exact P.ge_int .now
    | _ => cases e
  · cases e
theorem inn_sound (ok : Ok W K s) (hu : A.units + 72 < cLine) {x y : Value} {a b : D} {r : Bool} (va : View W K s.heap x a) (vb : View W K s.heap y b) (e : innD a b = some r) :
    wpAny (model W.prog W.w) A (compareOp .In x y) (BackB s r) E s := by
  unfold innD at e
  split at e
  · obtain ⟨t, rfl⟩ := va.isInt
    obtain ⟨q, kvb, rfl, sb, ob, rfl, ib⟩ := vb.isDict ok.sub
    cases e
    refine wpAny_in_of (intKind_is _ _ _ _) sb ob.mapOf ?_
    rcases valueAt_dget ib _ with ⟨y, e, e1, e2, e3⟩ | ⟨e1, e2⟩
    · rw [e1, e2]; exact .tok (Nat.le_succ _)
    · rw [e1, e2]; exact .tok (Nat.le_succ _)
  · obtain ⟨t, rfl⟩ := va.isStr; obtain ⟨u, rfl⟩ := vb.isStr; cases e; exact P.in_str .now
  · split at e
    · rename_i h
      cases e
      simp only [okE, Bool.and_eq_true] at h
      obtain ⟨as, ra⟩ := va.reads ok.sub h.1.1
      obtain ⟨bs, rb⟩ := vb.reads ok.sub h.2.1
      have l1 := SeqAt.canLay_of_shaped h.1.2
      have l2 := SeqAt.canLay_of_shaped h.2.2
      have d1 := SeqAt.depth_of_shaped h.1.2
      rw [D.toPy] at rb l2
      refine SeqAt.in_list_reads rb ra l2 l1 ?_ .now
      have := Nat.min_le_right (PyData.depthAll (toPys ‹_›)) (D.toPy a).depth
      omega
    · cases e
  · cases e
theorem cmp_sound (ok : Ok W K s) (hu : A.units + 72 < cLine) {op : CO} {x y : Value} {a b : D} {r : Bool} (va : View W K s.heap x a) (vb : View W K s.heap y b) (e : cmpD op a b = some r) :
    wpAny (model W.prog W.w) A (compareOp op.real x y) (BackB s r) E s := by
  cases op with
  | eq => exact (eq_sound ok hu va vb e).1
  | ne =>
    cases q : eqD a b with
    | none => have e' : (eqD a b).map (!·) = some r := e; rw [q] at e'; cases e'
    | some r' => have e' : (eqD a b).map (!·) = some r := e; rw [q] at e'; cases e'; exact (eq_sound ok hu va vb q).2
  | inn => exact inn_sound ok hu va vb e
  | lt => exact ord_sound va vb e
  | le => exact ord_sound va vb e
  | gt => exact ord_sound va vb e
  | ge => exact ord_sound va vb e
end
end Mine
namespace Mine
open PySem PySem.W PySem.Calls PyProof.Rows

noncomputable def small (i : Int) : Bool := decide (i.natAbs < 1000000000)
noncomputable def line : Nat := 100000
theorem line_le : 2 * line + 10 ≤ sizeLine := by rw [sizeLine_eq]; decide

inductive BO where
  | add | sub | mul | fdiv | mod | pow
  deriving DecidableEq
noncomputable def BO.real : BO → Operator
  | .add => .Add
  | .sub => .Sub
  | .mul => .Mult
  | .fdiv => .FloorDiv
  | .mod => .Mod
  | .pow => .Pow
noncomputable def binI : BO → Int → Int → Option D
  | .add, a, b => some (.int (a + b))
  | .sub, a, b => some (.int (a - b))
  | .mul, a, b => if small a = true then some (.int (a * b)) else none
  | .fdiv, a, b => if (b != 0 && small b) = true then some (.int (a.fdiv b)) else none
  | .mod, a, b => if (b != 0) = true then some (.int (a.fmod b)) else none
  | .pow, a, b => if (decide (0 ≤ b) && decide (b ≤ 1000) && small a) = true then some (.int (a ^ b.toNat)) else none
noncomputable def binA : BO → D → Option D
  | .add, d => some d
  | _, _ => none
noncomputable def binD (op : BO) : D → D → Option D
  | .int a, .int b => binI op a b
  | .str x, .str y => if x.length + y.length ≤ line then binA op (.str (x ++ y)) else none
  | .lst a, .lst b => if a.length + b.length ≤ line then binA op (.lst (a ++ b)) else none
  | _, _ => none

theorem mulOk_small {a b : Int} (h : small a = true) : IntMulOk a b := by
  unfold small at h
  have h' := of_decide_eq_true h
  have hb : Builtin.Int.intBits a ≤ 64 := intBits_le_64 (by omega) (by omega)
  unfold IntMulOk shortFactorBits
  rw [decide_eq_false (by omega : ¬ Builtin.Int.intBits a > 64)]
  simp

section
variable {W : Wd} {A : Around} {E : Value → Shared → Prop} {s : Shared} {K : KM}


theorem bin_int {op : BO} {a b : Int} {t u : Tok} {r : D} (e : binD op (.int a) (.int b) = some r) (ok : Ok W K s) :
    wpAny (model W.prog W.w) A (binaryOp op.real (.int a t) (.int b u)) (RV W K s r) E s := by
  cases op with
  | add => cases e; exact P.add_int (.here ok (Nat.le_succ _) (.int _ _))
  | sub => cases e; exact P.sub_int (.here ok (Nat.le_succ _) (.int _ _))
  | mul =>
    dsimp only [binD, binI] at e
    split at e
    · rename_i h; cases e; exact P.mul_int (.here ok (Nat.le_succ _) (.int _ _)) (mulOk_small h)
    · cases e
  | fdiv =>
    dsimp only [binD, binI] at e
    split at e
    · rename_i h
      simp only [Bool.and_eq_true, bne_iff_ne, ne_eq, small, decide_eq_true_eq] at h
      cases e; exact floordiv_int h.1 (.here ok (Nat.le_succ _) (.int _ _)) (.inl (PyProof.noPylong_small (by omega)))
    · cases e
  | mod =>
    dsimp only [binD, binI] at e
    split at e
    · rename_i h
      simp only [bne_iff_ne, ne_eq] at h
      cases e; exact mod_int' h (.here ok (Nat.le_succ _) (.int _ _))
    · cases e
  | pow =>
    dsimp only [binD, binI] at e
    split at e
    · rename_i h
      simp only [Bool.and_eq_true, small, decide_eq_true_eq] at h
      cases e; exact pow_int_small h.1.1 (by omega) (by omega) (.here ok (Nat.le_succ _) (.int _ _))
    · cases e
theorem Made.post_str {x y : Str} {t u : Tok} {Q : Value → Shared → Prop} (hl : x.length + y.length ≤ sizeLine) (h : ∀ t' n, s.toks ≤ n → Q (.str (x ++ y) t') { s with toks := n }) :
    (if (x.length == 0) = true then Made.val (.str y u) else if (y.length == 0) = true then Made.val (.str x t) else Made.str (x ++ y)).post Q s := by
  split
  · rename_i q
    rw [← PySem.Str.append_left_empty (x := x) (y := y) q]
    exact h _ _ (Nat.le_refl _)
  · split
    · rename_i q
      rw [← PySem.Str.append_right_empty (x := x) (y := y) q]
      exact h _ _ (Nat.le_refl _)
    · exact ⟨by rw [PySem.Str.length_append]; exact hl, h _ _ (Nat.le_succ _)⟩
theorem bin_sound (G : Good W) (ok : Ok W K s) {op : BO} {x y : Value} {a b r : D} (va : View W K s.heap x a) (vb : View W K s.heap y b) (e : binD op a b = some r) :
    wpAny (model W.prog W.w) A (binaryOp op.real x y) (RV W K s r) E s := by
  unfold binD at e
  split at e
  · obtain ⟨t, rfl⟩ := va.isInt; obtain ⟨u, rfl⟩ := vb.isInt
    exact bin_int e ok
  · split at e
    case isFalse => cases e
    rename_i h
    obtain ⟨t, rfl⟩ := va.isStr; obtain ⟨u, rfl⟩ := vb.isStr
    cases op with
    | add =>
      cases e
      exact P.add_str (Made.post_str (by have := line_le; omega) fun t' n hn => .here ok hn (.str _ _))
    | _ => cases e
  · split at e
    case isFalse => cases e
    rename_i h
    cases op with
    | add =>
      obtain ⟨l, vs, rfl, hl, da⟩ := va.isList ok.sub
      obtain ⟨m, ws, rfl, hm, db⟩ := vb.isList ok.sub
      cases e
      have e1 := da.length; have e2 := db.length
      refine wpAny_mono (keep_all (ok.g G) (ok.b G) (by decide) (Q := fun v s' => v = .ref s.heap.objs.size ∧ ∃ h', s' = { s with heap := h' } ∧ h'.get? s.heap.objs.size = some { cls := .type "list", data := .seq (vs.toList ++ ws.toList).toArray }) fun L m' hn => ?_) (fun v s' q => ?_) fun _ _ x => x
      · refine add_lists (vs := vs.toList) (ws := ws.toList) (fr_all hn) news_all hl hm (fun h' F' N' => ⟨⟨rfl, h', rfl, (N' _ (.head _)).1⟩, m', F', fun p hp => N' p (.tail _ hp)⟩) (by have := line_le; omega)
      · obtain ⟨⟨rfl, h', rfl, hg⟩, hk⟩ := q
        exact ⟨_, Ext.add G ok hk (Nat.le_refl _) (get_size_none _) hg, .lst (putK_self _ _ _) rfl rfl (by simpa using (da.append db).mono fun a o e => putK_of (ok.noneK (get_size_none _)) e)⟩
    | _ => cases e
  · cases e
end
end Mine
namespace Mine
open PySem PySem.W PySem.Calls PyProof.Rows

/-! places -/
noncomputable def idxI (k : Int) : D → Option D
  | .lst l => if l.length ≤ line then (seqIndex? k l.length).bind (l[·]?) else none
  | .tup l => if l.length ≤ line then (seqIndex? k l.length).bind (l[·]?) else none
  | .str x => if x.length ≤ line then ((seqIndex? k x.length).bind (x.cps[·]?)).map fun c => .str ⟨#[c]⟩ else none
  | .dct ks ds => dget ks ds k
  | _ => none
noncomputable def idxD (a : D) : D → Option D
  | .int k => idxI k a
  | _ => none
theorem idxD_inv {a b r : D} (e : idxD a b = some r) : ∃ k, b = .int k ∧ idxI k a = some r := by
  cases b with
  | int k => exact ⟨k, rfl, e⟩
  | _ => cases e
theorem ifSome {α : Type} {c : Prop} [Decidable c] {x : Option α} {r : α} (e : (if c then x else none) = some r) : c ∧ x = some r := by
  by_cases h : c
  · rw [if_pos h] at e; exact ⟨h, e⟩
  · rw [if_neg h] at e; cases e
theorem seqIndex_iff {k : Int} {n j : Nat} (h : seqIndex? k n = some j) : j < n ∧ ((0 ≤ k ∧ j = k.toNat) ∨ (k < 0 ∧ -(n : Int) ≤ k ∧ j = (k + n).toNat)) := by
  have key : ∀ m : Int, (if (decide (0 ≤ m) && decide (m < (n : Int))) = true then some m.toNat else none) = some j → 0 ≤ m ∧ m < n ∧ j = m.toNat := by
    intro m e
    by_cases q : (decide (0 ≤ m) && decide (m < (n : Int))) = true
    · rw [if_pos q] at e
      simp only [Bool.and_eq_true, decide_eq_true_eq] at q
      cases e; exact ⟨q.1, q.2, rfl⟩
    · rw [if_neg q] at e; cases e
  by_cases hk : k < 0
  · have h' : (if (decide (0 ≤ k + (n : Int)) && decide (k + (n : Int) < (n : Int))) = true then some (k + (n : Int)).toNat else none) = some j := by
      unfold seqIndex? at h; simpa only [if_pos hk] using h
    obtain ⟨a, b, c⟩ := key _ h'
    exact ⟨by omega, .inr ⟨hk, by omega, c⟩⟩
  · have h' : (if (decide (0 ≤ k) && decide (k < (n : Int))) = true then some k.toNat else none) = some j := by
      unfold seqIndex? at h; simpa only [if_neg hk] using h
    obtain ⟨a, b, c⟩ := key _ h'
    exact ⟨by omega, .inl ⟨a, c⟩⟩

section
variable {W : Wd} {A : Around} {E : Value → Shared → Prop} {s : Shared} {K : KM}

theorem line63 : (line : Int) < 2 ^ 63 := by decide
/-- what an operand's type says of its items -/
theorem idx_sound (ok : Ok W K s) {x y : Value} {a b r : D} (va : View W K s.heap x a) (vb : View W K s.heap y b) (e : idxD a b = some r) :
    ∃ T id, s.TypeIs x T ∧ typeLookup (.type T) "__getitem__" = pure (some (.builtin id)) ∧ wpAny (model W.prog W.w) A (getItem x y) (RV W K s r) E s := by
  have hl63 := line63
  obtain ⟨k, rfl, e⟩ := idxD_inv e
  obtain ⟨u, rfl⟩ := vb.isInt
  cases a with
  | lst l =>
    refine hide fun GG kk => ?_
    obtain ⟨hln, e⟩ := ifSome (c := l.length ≤ line) e
    obtain ⟨p, vs, rfl, hl, da⟩ := va.isList ok.sub
    have el := da.length
    rw [Array.length_toList] at el
    obtain ⟨j, q, e⟩ := Option.bind_eq_some_iff.mp e
    obtain ⟨v, hv, hd⟩ := da.get e
    refine kk ?_
    clear kk GG
    have hv' : vs[j]? = some v := by simpa using hv
    refine ⟨_, _, hl.typeIs, slot_list_getitem.lookup, ?_⟩
    rcases seqIndex_iff q with ⟨hj, ⟨h0, rfl⟩ | ⟨h0, h1, rfl⟩⟩
    · exact wpAny_getItem_list hl h0 (by omega) hv' (.now ok hd)
    · exact wpAny_getItem_list_neg hl h0 (by omega) (by omega) (by rw [el]; exact hv') (.now ok hd)
  | tup l =>
    refine hide fun GG kk => ?_
    obtain ⟨hln, e⟩ := ifSome (c := l.length ≤ line) e
    obtain ⟨p, vs, rfl, hl, da⟩ := va.isTuple ok.sub
    have el := da.length
    rw [Array.length_toList] at el
    obtain ⟨j, q, e⟩ := Option.bind_eq_some_iff.mp e
    obtain ⟨v, hv, hd⟩ := da.get e
    refine kk ?_
    clear kk GG
    have hv' : vs[j]? = some v := by simpa using hv
    refine ⟨_, _, hl.typeIs, slot_tuple_getitem.lookup, ?_⟩
    have hk : -(2 ^ 63 : Int) ≤ k ∧ k < 2 ^ 63 := by rcases seqIndex_iff q with ⟨hj, ⟨h0, h1⟩ | ⟨h0, h1, h2⟩⟩ <;> constructor <;> omega
    have hq := q
    rw [← el] at hq
    exact getItem_tuple hl (by first | exact hk.1 | omega) (by first | exact hk.2 | omega) hq hv' (.now ok hd)
  | str x' =>
    refine hide fun GG kk => ?_
    obtain ⟨hln, e⟩ := ifSome (c := x'.length ≤ line) e
    obtain ⟨t, rfl⟩ := va.isStr
    obtain ⟨c, ec, rfl⟩ := Option.map_eq_some_iff.mp e
    obtain ⟨j, q, hc⟩ := Option.bind_eq_some_iff.mp ec
    refine kk ?_
    clear kk GG
    refine ⟨"str", _, typeIs_str _ _ _, F.slot_str_getitem.lookup, P.getItem_str (c := c) ?_ (by rw [q]; exact hc) (.here ok (Nat.le_succ _) (.str _ _))⟩
    rw [Bool.or_eq_false_iff, decide_eq_false_iff_not, decide_eq_false_iff_not]
    rcases seqIndex_iff q with ⟨hj, ⟨h0, h1⟩ | ⟨h0, h1, h2⟩⟩ <;> omega
  | dct ks ds =>
    refine hide fun GG kk => ?_
    obtain ⟨p, kvs, rfl, sp, od, rfl, da⟩ := va.isDict ok.sub
    refine kk ?_
    clear kk GG
    rcases valueAt_dget da k with ⟨y, d, e1, e2, e3⟩ | ⟨e1, e2⟩
    · cases e2.symm.trans e
      exact ⟨_, _, od.typeIs, slot_dict_getitem.lookup, wpAny_getItem_of (intKind_is _ _ _ _) od.mapOf e1 (.here ok (Nat.le_succ _) e3)⟩
    · cases e2.symm.trans e
  | _ => cases e

/-! cuts -/
noncomputable def cutL (l : List D) : Option Int → Option Int → Option D
  | none, some b => if (decide (0 ≤ b) && decide (l.length ≤ line)) = true then some (.lst (l.take b.toNat)) else none
  | some a, none => if (decide (0 ≤ a) && decide (a ≤ l.length) && decide (l.length ≤ line)) = true then some (.lst (l.drop a.toNat)) else none
  | _, _ => none
noncomputable def cutT (l : List D) : Option Int → Option Int → Option D
  | none, some b => if (decide (0 ≤ b) && decide (b < l.length) && decide (l.length ≤ line)) = true then some (.tup (l.take b.toNat)) else none
  | _, _ => none
noncomputable def cutD (d : D) (lo hi : Option Int) : Option D := match d with
  | .lst l => cutL l lo hi
  | .tup l => cutT l lo hi
  | .str x => if x.length ≤ line then some (.str (Txt.slice x lo hi)) else none
  | _ => none

theorem slicePick_take (items : Array Value) (b : Int) (h0 : 0 ≤ b) : slicePick items none (some b) none = (items.toList.take b.toNat).toArray := by
  by_cases h : b ≤ items.size
  · have := slicePick_upto items b.toNat (by omega)
    rw [show ((b.toNat : Nat) : Int) = b from by omega] at this
    exact this
  · have e : sliceBounds none (some b) none items.size = sliceBounds none (some (items.size : Int)) none items.size := by
      unfold sliceBounds
      simp only [Option.getD_none, show ((1 : Int) > 0) from by omega, if_true, show ¬ (b < 0) from by omega, if_false, show ¬ ((items.size : Int) < 0) from by omega]
      congr 2
      omega
    have := slicePick_upto items items.size (Nat.le_refl _)
    unfold slicePick at this ⊢
    rw [e, this]
    rw [List.take_of_length_le (by simp), List.take_of_length_le (by simp; omega)]
theorem slicePick_drop (items : Array Value) (a : Int) (h0 : 0 ≤ a) (h : a ≤ items.size) : slicePick items (some a) none none = (items.toList.drop a.toNat).toArray := by
  have := slicePick_from items a.toNat (by omega)
  rwa [show ((a.toNat : Nat) : Int) = a from by omega] at this

theorem adjust_upto (b n : Nat) (hb : b ≤ n) : Builtin.Slice.sliceAdjust none (some (b : Int)) 1 (n : Int) = (0, (b : Int)) := by
  unfold Builtin.Slice.sliceAdjust
  simp only [show ¬ ((1 : Int) < 0) from by omega, show ¬ ((b : Int) < 0) from by omega, if_false]
  congr 1
  omega
theorem places_upto (b : Nat) : Builtin.Slice.slicePlaces 0 (b : Int) 1 = b := by
  unfold Builtin.Slice.slicePlaces
  simp only [show (1 : Int) > 0 from by omega, if_true, Int.ediv_one]
  split <;> omega
theorem pick_upto (xs : Array Value) (b : Nat) : ((List.range b).filterMap fun (k : Nat) => xs[((0 : Int) + (k : Int) * 1).toNat]?).toArray = (xs.toList.take b).toArray := by
  have e : (fun (k : Nat) => xs[((0 : Int) + (k : Int) * 1).toNat]?) = fun k => xs[0 + k]? := by
    funext k
    have : ((0 : Int) + (k : Int) * 1).toNat = 0 + k := by omega
    rw [this]
  rw [e]
  have := pick_run xs 0 b
  rw [List.filterMap_map] at this
  have e2 : ((fun x => xs[x]?) ∘ fun x => 0 + x) = fun k => xs[0 + k]? := rfl
  rw [e2] at this
  rw [this]; rfl
theorem getItem_tuple_upto {t sl : Addr} {items : Array Value} {b : Nat} {u : Tok} {Q : Value → Shared → Prop} (ht : s.heap.IsTuple t items) (hs : s.heap.IsSliceOf sl .none (.int (b : Int) u) .none) (hb : b < items.size)
    (h : Q (.ref s.heap.objs.size) { s with heap := s.heap.push { cls := .type "tuple", data := .seq (items.toList.take b).toArray } })
    (hsz : items.size ≤ sizeLine) : wpAny (model W.prog W.w) A (getItem (.ref t) (.ref sl)) Q E s := by
  have hok : sizeOk (.seq (items.toList.take b).toArray) := by
    show (items.toList.take b).toArray.size ≤ sizeLine
    rw [List.size_toArray, List.length_take, Array.length_toList]
    omega
  obtain ⟨os, hos, hcs, hds⟩ := id hs
  have hTs : s.TypeIs (.ref sl) "slice" := ⟨os, hos, hcs⟩
  unfold getItem
  refine wpAny_holding ?_
  refine wpAny_bind (wpAny_sequenceKey ht.typeIs (by decide) ?_)
  refine wpAny_bind (wpAny_callSpecial?_slot (name := Str.ofString "__getitem__") ht.typeIs slot_tuple_getitem
    (wpAny_call_entry slot_tuple_getitem ht.typeIs entry_tuple_getitem ?_ (args_tuple_getitem _ _)))
  show wpAny _ _ (Builtin.Tuple.tupleItemsOf (.ref t) >>= _) _ _ s
  refine wpAny_bind (tupleItemsOf_ ht ?_)
  refine wpAny_bind (wpAny_typeOf hTs ?_)
  rw [if_pos (by decide)]
  have hap : ∀ {Q' : Int × Int × Nat → Shared → Prop} {E' : Value → Shared → Prop} {A' : Around}, Q' ((0 : Int), 1, b) s → wpAny (model W.prog W.w) A' (Builtin.Slice.sliceApplied (.ref sl) (pure (items.size : Int))) Q' E' s := by
    intro Q' E' A' hq
    unfold Builtin.Slice.sliceApplied Builtin.Slice.sliceFields
    refine wpAny_bind (wpAny_bind (wpAny_field hos hds (x := .none) rfl (wpAny_bind (wpAny_field hos hds (x := .int (b : Int) u) rfl (wpAny_bind (wpAny_field hos hds (x := .none) rfl (wpAny_pure ?_)))))))
    refine wpAny_bind (slicePart_none ?_)
    rw [if_neg (by decide)]
    refine wpAny_bind (slicePart_none (wpAny_bind (slicePart_int (wpAny_bind (wpAny_pure ?_)))))
    show wpAny _ _ (match Builtin.Slice.sliceAdjust none (some (b : Int)) 1 (items.size : Int) with | (lo, hi) => pure (lo, (1 : Int), Builtin.Slice.slicePlaces lo hi 1)) _ _ s
    rw [adjust_upto b _ (by omega)]
    show wpAny _ _ (pure ((0 : Int), (1 : Int), Builtin.Slice.slicePlaces 0 (b : Int) 1)) _ _ s
    rw [places_upto b]
    exact wpAny_pure hq
  refine wpAny_bind (hap ?_)
  have hno : ¬ (((0 : Int) == 0 && (1 : Int) == 1 && b == items.size) = true) := by
    have : (b == items.size) = false := by rw [beq_eq_false_iff_ne]; omega
    rw [this]; simp
  show wpAny _ _ (if ((0 : Int) == 0 && (1 : Int) == 1 && b == items.size) = true then _ else _) _ _ s
  rw [if_neg hno, pick_upto items b]
  first
    | exact wpAny_bind (m := Builtin.Tuple.tupleExact _) (wpAny_newObj_type (wpAny_pure ⟨_, rfl, wpAny_pure h⟩) hok)
    | exact wpAny_bind (wpAny_bind (m := Builtin.Tuple.tupleExact _) (wpAny_newObj_type (wpAny_pure ⟨_, rfl, wpAny_pure h⟩) hok))
    | exact wpAny_bind (wpAny_bind (m := Builtin.Tuple.tupleExact _) (wpAny_newObj_type (wpAny_pure (wpAny_pure ⟨_, rfl, wpAny_pure h⟩)) hok))

theorem isPart_cases {v : Value} {o : Option Int} (h : IsPart v o) : (v = .none ∧ o = none) ∨ ∃ i t, v = .int i t ∧ o = some i := by
  cases h with
  | none => exact .inl ⟨rfl, rfl⟩
  | int i t => exact .inr ⟨i, t, rfl, rfl⟩
theorem cut_sound (G : Good W) (ok : Ok W K s) {x vl vu : Value} {sl : Addr} {a r : D} {lo hi : Option Int} (va : View W K s.heap x a) (hs : s.heap.IsSliceOf sl vl vu .none) (pl : IsPart vl lo) (pu : IsPart vu hi) (e : cutD a lo hi = some r) :
    ∃ T id, s.TypeIs x T ∧ typeLookup (.type T) "__getitem__" = pure (some (.builtin id)) ∧ wpAny (model W.prog W.w) A (getItem x (.ref sl)) (RV W K s r) E s := by
  have hln := line_le
  have put : ∀ {o : Obj} {P : KM}, P = putK K s.heap.objs.size o → ∀ a o', K a = some o' → P a = some o' := fun h a o' e => h ▸ putK_of (ok.noneK (get_size_none _)) e
  cases a with
  | lst l =>
    obtain ⟨p, vs, rfl, hl, da⟩ := va.isList ok.sub
    have el := da.length
    rw [Array.length_toList] at el
    refine ⟨_, _, hl.typeIs, slot_list_getitem.lookup, ?_⟩
    match lo, hi, e with
    | none, some b, e =>
      obtain ⟨q, e⟩ := ifSome (c := (decide (0 ≤ b) && decide (l.length ≤ line)) = true) e
      simp only [Bool.and_eq_true, decide_eq_true_eq] at q
      cases e
      refine wpAny_getItem_list_slice hl hs pl pu .none (by simp) ?_ (by omega)
      rw [slicePick_take _ _ q.1]
      exact ⟨_, Ext.push G ok (Nat.le_refl _), .lst (putK_self _ _ _) rfl rfl (by simpa using (da.take b.toNat).mono (put rfl))⟩
    | some b, none, e =>
      obtain ⟨q, e⟩ := ifSome (c := (decide (0 ≤ b) && decide (b ≤ l.length) && decide (l.length ≤ line)) = true) e
      simp only [Bool.and_eq_true, decide_eq_true_eq] at q
      cases e
      refine wpAny_getItem_list_slice hl hs pl pu .none (by simp) ?_ (by omega)
      rw [slicePick_drop _ _ q.1.1 (by omega)]
      exact ⟨_, Ext.push G ok (Nat.le_refl _), .lst (putK_self _ _ _) rfl rfl (by simpa using (da.drop b.toNat).mono (put rfl))⟩
  | tup l =>
    obtain ⟨p, vs, rfl, hl, da⟩ := va.isTuple ok.sub
    have el := da.length
    rw [Array.length_toList] at el
    refine ⟨_, _, hl.typeIs, slot_tuple_getitem.lookup, ?_⟩
    match lo, hi, e with
    | none, some b, e =>
      obtain ⟨q, e⟩ := ifSome (c := (decide (0 ≤ b) && decide (b < l.length) && decide (l.length ≤ line)) = true) e
      simp only [Bool.and_eq_true, decide_eq_true_eq] at q
      cases e
      rcases isPart_cases pl with ⟨rfl, _⟩ | ⟨i, t, _, h⟩
      · rcases isPart_cases pu with ⟨_, h⟩ | ⟨i, t, rfl, h⟩
        · cases h
        · cases h
          rw [← Int.toNat_of_nonneg q.1.1] at hs
          refine getItem_tuple_upto hl hs (by omega) ?_ (by omega)
          exact ⟨_, Ext.push G ok (Nat.le_refl _), .tup (putK_self _ _ _) rfl rfl (by simpa using (da.take b.toNat).mono (put rfl))⟩
      · cases h
  | str x' =>
    obtain ⟨q, e⟩ := ifSome (c := x'.length ≤ line) e
    cases e
    obtain ⟨t, rfl⟩ := va.isStr
    have hsz : (Txt.slice x' lo hi).length ≤ sizeLine := Nat.le_trans (Txt.slice_le _ _ _) (by omega)
    have fin : ∀ (t' : Tok) (n : Nat), s.toks ≤ n → RV W K s (.str (Txt.slice x' lo hi)) (.str (Txt.slice x' lo hi) t') { s with toks := n } := fun t' n hn => .here ok hn (.str _ _)
    refine ⟨"str", _, typeIs_str _ _ _, F.slot_str_getitem.lookup, wpAny_with_toks (Nat.le_refl s.toks) ?_⟩
    rcases isPart_cases pl with ⟨rfl, rfl⟩ | ⟨i, ti, rfl, rfl⟩ <;> rcases isPart_cases pu with ⟨rfl, rfl⟩ | ⟨j, tj, rfl, rfl⟩
    · exact wpAny_getItem_str_slice (l := none) (u := none) (st := none) hs rfl (post_val_or_str ⟨hsz, fun t' k hk => fin t' k hk⟩)
    · exact wpAny_getItem_str_slice (l := none) (u := some (j, tj)) (st := none) hs rfl (post_val_or_str ⟨hsz, fun t' k hk => fin t' k hk⟩)
    · exact wpAny_getItem_str_slice (l := some (i, ti)) (u := none) (st := none) hs rfl (post_val_or_str ⟨hsz, fun t' k hk => fin t' k hk⟩)
    · exact wpAny_getItem_str_slice (l := some (i, ti)) (u := some (j, tj)) (st := none) hs rfl (post_val_or_str ⟨hsz, fun t' k hk => fin t' k hk⟩)
  | _ => cases e
end
end Mine
namespace Mine
open PySem PySem.W PySem.Calls PyProof.Rows
open PySem.Builtin.Str (tooLong)

/-- a builtin, called with frozen data -/
noncomputable def BiOk (W : Wd) (id : String) (f : List D → Option D) : Prop :=
  ∀ (A : Around) (K : KM) (s : Shared) (vs : List Value) (ds : List D) (r : D) (E : Value → Shared → Prop), A.handled = none → A.units + 100 < cLine → Ok W K s → AllD W K vs ds → f ds = some r →
    wpAny (model W.prog W.w) A (call (.builtin id) vs) (RV W K s r) E s

theorem IsD.view {W : Wd} {K : KM} {h : Heap} {v : Value} {d : D} (i : IsD W K v d) : View W K h v d := .v i

section
variable {W : Wd} {A : Around} {E : Value → Shared → Prop} {s : Shared} {K : KM}

theorem AllD.one {v : Value} {vs : List Value} {d : D} (h : AllD W K vs [d]) : ∃ v, vs = [v] ∧ IsD W K v d := by
  cases h with | cons a b => cases b; exact ⟨_, rfl, a⟩
theorem AllD.inv1 {vs : List Value} {d : D} (h : AllD W K vs [d]) : ∃ v, vs = [v] ∧ IsD W K v d := by
  cases h with | cons a b => cases b; exact ⟨_, rfl, a⟩
theorem AllD.inv2 {vs : List Value} {d e : D} (h : AllD W K vs [d, e]) : ∃ v u, vs = [v, u] ∧ IsD W K v d ∧ IsD W K u e := by
  cases h with | cons a b => obtain ⟨u, rfl, x⟩ := b.inv1; exact ⟨_, _, rfl, a, x⟩
theorem AllD.inv3 {vs : List Value} {d e f : D} (h : AllD W K vs [d, e, f]) : ∃ v u w, vs = [v, u, w] ∧ IsD W K v d ∧ IsD W K u e ∧ IsD W K w f := by
  cases h with | cons a b => obtain ⟨u, w, rfl, x, y⟩ := b.inv2; exact ⟨_, _, _, rfl, a, x, y⟩

/-! chr, len, divmod -/
noncomputable def chrD : List D → Option D
  | [.int i] => if (decide (0 ≤ i) && decide (i ≤ 1114111)) = true then some (.str ⟨#[i.toNat]⟩) else none
  | _ => none
theorem chr_ok : BiOk W "chr" chrD := by
  intro A K s vs ds r E hh hu ok ha e
  unfold chrD at e
  split at e
  · split at e
    · rename_i h
      simp only [Bool.and_eq_true, decide_eq_true_eq] at h
      cases e
      obtain ⟨v, rfl, i⟩ := ha.inv1
      obtain ⟨_, rfl⟩ := i.int_inv
      exact chr_of_range h.1 h.2 (.here ok (Nat.le_succ _) (.str _ _))
    · cases e
  · cases e

noncomputable def lenD : List D → Option D
  | [.lst l] => if l.length ≤ line then some (.int l.length) else none
  | [.str x] => if x.length ≤ line then some (.int x.length) else none
  | _ => none
theorem len_ok : BiOk W "len" lenD := by
  intro A K s vs ds r E hh hu ok ha e
  have h63 := line63
  unfold lenD at e
  split at e
  · split at e
    · rename_i l h
      cases e
      obtain ⟨v, rfl, i⟩ := ha.inv1
      obtain ⟨a, xs, rfl, hl, da⟩ := (i.view (h := s.heap)).isList ok.sub
      have el := da.length
      rw [Array.length_toList] at el
      refine PyProof.Rows.len_list hl (by omega) ?_
      rw [el]
      exact .here ok (Nat.le_succ_of_le (Nat.le_succ _)) (.int _ _)
    · cases e
  · split at e
    · rename_i x h
      cases e
      obtain ⟨v, rfl, i⟩ := ha.inv1
      obtain ⟨_, rfl⟩ := i.str_inv
      exact P.len_str (by omega) (.here ok (Nat.le_succ_of_le (Nat.le_succ _)) (.int _ _))
    · cases e
  · cases e

noncomputable def divmodD : List D → Option D
  | [.int a, .int b] => if (b != 0 && small b) = true then some (.tup [.int (a.fdiv b), .int (a.fmod b)]) else none
  | _ => none
theorem divmod_ok (G : Good W) : BiOk W "divmod" divmodD := by
  intro A K s vs ds r E hh hu ok ha e
  unfold divmodD at e
  split at e
  · split at e
    · rename_i h
      simp only [Bool.and_eq_true, bne_iff_ne, ne_eq, small, decide_eq_true_eq] at h
      cases e
      obtain ⟨v, u, rfl, i, j⟩ := ha.inv2
      obtain ⟨_, rfl⟩ := i.int_inv
      obtain ⟨_, rfl⟩ := j.int_inv
      exact PyProof.Rows.divmod_int h.1 ⟨_, Ext.push G ok (Nat.le_succ_of_le (Nat.le_succ _)), .tup (putK_self _ _ _) rfl rfl (.cons (.int _ _) (.cons (.int _ _) .nil))⟩ (.inl (PyProof.noPylong_small (by omega)))
    · cases e
  · cases e

/-! sum -/
noncomputable def sumI : List D → Option Int
  | [] => some 0
  | .int i :: r => (sumI r).map (i + ·)
  | _ => none
noncomputable def sumD : List D → Option D
  | [.lst l] => (sumI l).map .int
  | _ => none
noncomputable def valI (l : List D) (i : Nat) : Int := match l[i]? with
  | some (.int k) => k
  | _ => 0
theorem preSum_shift (f : Nat → Int) : ∀ n, preSum f (n + 1) = f 0 + preSum (fun i => f (i + 1)) n
  | 0 => by simp [preSum]
  | n + 1 => by
    rw [preSum, preSum_shift f n, preSum]
    omega
theorem sumI_pre : ∀ (l : List D) {n : Int}, sumI l = some n → preSum (valI l) l.length = n ∧ ∀ (i : Nat) (d : D), l[i]? = some d → ∃ k, d = .int k
  | [], n, e => by cases e; exact ⟨rfl, fun i d h => by simp at h⟩
  | .int k :: r, n, e => by
    simp only [sumI] at e
    cases q : sumI r with
    | none => rw [q] at e; cases e
    | some m =>
      rw [q] at e; cases e
      obtain ⟨a, b⟩ := sumI_pre r q
      refine ⟨?_, fun i d h => ?_⟩
      · rw [List.length_cons, preSum_shift]
        have : (fun i => valI (D.int k :: r) (i + 1)) = valI r := by funext i; simp [valI]
        rw [this, a]
        simp [valI]
      · cases i with
        | zero => simp at h; exact ⟨k, h.symm⟩
        | succ i => simp at h; exact b i d h
  | .none :: _, _, e => by cases e
  | .bool _ :: _, _, e => by cases e
  | .str _ :: _, _, e => by cases e
  | .byt _ :: _, _, e => by cases e
  | .tup _ :: _, _, e => by cases e
  | .lst _ :: _, _, e => by cases e
  | .dct _ _ :: _, _, e => by cases e
  | .cmpr _ :: _, _, e => by cases e
theorem sum_ok (G : Good W) : BiOk W "sum" sumD := by
  intro A K s vs ds r E hh hu ok ha e
  unfold sumD at e
  split at e
  · rename_i l
    cases q : sumI l with
    | none => rw [q] at e; cases e
    | some n =>
      rw [q] at e; cases e
      obtain ⟨hn, hi⟩ := sumI_pre l q
      obtain ⟨v, rfl, i⟩ := ha.inv1
      obtain ⟨a, xs, rfl, hl, da⟩ := (i.view (h := s.heap)).isList ok.sub
      have el := da.length
      rw [Array.length_toList] at el
      have lt : a < s.heap.objs.size := let ⟨o, ho, _⟩ := hl; Heap.lt_size ho
      refine call_sum_walkAnyS (wpAny_pyIter_list hl ⟨_, _, _, _, _, _, _, valI l, rfl, (Walks.list (A := A.in1) hh s.heap.objs.size a (Nat.ne_of_lt lt) xs).toS, ?_, ?_, ?_, ?_⟩)
      · exact ⟨⟨_, Heap.get?_push_size _ rfl, rfl, rfl⟩, hl.push _⟩
      · intro b hb
        simp only [List.mem_cons, List.not_mem_nil, or_false] at hb
        rw [Heap.size_push]
        rcases hb with rfl | rfl
        · exact Nat.lt_succ_self _
        · exact Nat.lt_succ_of_lt lt
      · intro j v hj
        have hj' : xs.toList[j]? = some v := by simpa using hj
        have : j < l.length := by rw [← el]; exact (Array.getElem?_eq_some_iff.mp hj).1
        have hd : l[j]? = some l[j] := List.getElem?_eq_getElem this
        obtain ⟨k, hk⟩ := hi j _ hd
        obtain ⟨v', hv', iv⟩ := da.get hd
        rw [hj'] at hv'; cases hv'
        rw [hk] at iv
        cases iv
        rename_i t
        have ev : valI l j = k := by simp only [valI, hd, hk]
        exact ⟨t, by rw [ev]⟩
      · intro s' t' mv
        rw [el, hn]
        obtain ⟨hp, gens, drawn, tk, os⟩ := s'
        have e1 : gens = s.gens := mv.gens
        have e2 : drawn = s.drawn := mv.drawn
        have e3 : os = s.os := mv.os
        subst e1 e2 e3
        refine ⟨K, Ext.same ok (n := tk) (h' := hp) (fun b o h => mv.heap b o (fun hb => ?_) (Heap.get?_push_of_some _ h)) mv.toks, .int _ _⟩
        simp only [List.mem_cons, List.not_mem_nil, or_false] at hb
        rw [hb, get_size_none] at h
        cases h
  · cases e

/-! join -/
noncomputable def strsOf : List D → Option (List Str)
  | [] => some []
  | .str x :: r => (strsOf r).map (x :: ·)
  | _ => none
noncomputable def joinD : List D → Option D
  | [.str sep, .lst l] => (strsOf l).bind fun ts => if (JoinOk sep ts) = true then some (.str (Txt.join sep ts)) else none
  | _ => none
theorem strsOf_values : ∀ (l : List D) {vs : List Value} {ts : List Str}, AllD W K vs l → strsOf l = some ts → ∃ ps : List (Str × Tok), vs = strValues ps ∧ ps.map (·.1) = ts
  | _, _, ts, .nil, e => by cases e; exact ⟨[], rfl, rfl⟩
  | _, _, ts, .cons h t, e => by
    cases h with
    | str x u =>
      simp only [strsOf] at e
      cases q : strsOf _ with
      | none => rw [q] at e; cases e
      | some m =>
        rw [q] at e; cases e
        obtain ⟨ps, rfl, rfl⟩ := strsOf_values _ t q
        exact ⟨(x, u) :: ps, rfl, rfl⟩
    | _ => simp [strsOf] at e
theorem join_ok : BiOk W "str.join" joinD := by
  intro A K s vs ds r E hh hu ok ha e
  unfold joinD at e
  split at e
  · rename_i sep l
    cases q : strsOf l with
    | none => rw [q] at e; cases e
    | some ts =>
      rw [q] at e
      simp only [Option.bind_some] at e
      split at e
      · rename_i hj
        cases e
        obtain ⟨v, u, rfl, i, j⟩ := ha.inv2
        obtain ⟨_, rfl⟩ := i.str_inv
        obtain ⟨a, xs, rfl, hl, da⟩ := (j.view (h := s.heap)).isList ok.sub
        obtain ⟨ps, e1, e2⟩ := strsOf_values _ da q
        have e3 : xs = (strValues ps).toArray := by rw [← e1]
        subst e3
        exact wpAny_with_toks (Nat.le_refl s.toks) (SC.join hl e2 hj fun t' k hk => .here ok hk (.str _ _))
      · cases e
  · cases e

/-! upper, lower -/
noncomputable def upperD : List D → Option D
  | [.str x] => if (tooLong (Txt.upper x).length) = false then some (.str (Txt.upper x)) else none
  | _ => none
noncomputable def lowerD : List D → Option D
  | [.str x] => if (tooLong (Txt.lower x).length) = false then some (.str (Txt.lower x)) else none
  | _ => none
theorem upper_ok : BiOk W "str.upper" upperD := by
  intro A K s vs ds r E hh hu ok ha e
  unfold upperD at e
  split at e
  · split at e
    · rename_i h
      cases e
      obtain ⟨v, rfl, i⟩ := ha.inv1
      obtain ⟨_, rfl⟩ := i.str_inv
      exact SC.upper h (.here ok (Nat.le_succ _) (.str _ _))
    · cases e
  · cases e
theorem lower_ok : BiOk W "str.lower" lowerD := by
  intro A K s vs ds r E hh hu ok ha e
  unfold lowerD at e
  split at e
  · split at e
    · rename_i h
      cases e
      obtain ⟨v, rfl, i⟩ := ha.inv1
      obtain ⟨_, rfl⟩ := i.str_inv
      exact SC.lower h (.here ok (Nat.le_succ _) (.str _ _))
    · cases e
  · cases e

/-! sorted, of pairs of ints -/
noncomputable def intI : D → Option Int
  | .int a => some a
  | _ => none
noncomputable def pairL : List D → Option (Int × Int)
  | [x, y] => (intI x).bind fun a => (intI y).map fun b => (a, b)
  | _ => none
noncomputable def pairI : D → Option (Int × Int)
  | .tup l => pairL l
  | _ => none
noncomputable def pairsI : List D → Option (List (Int × Int))
  | [] => some []
  | d :: r => (pairI d).bind fun p => (pairsI r).map (p :: ·)
theorem intI_inv {d : D} {a : Int} (e : intI d = some a) : d = .int a := by
  cases d with
  | int b => cases e; rfl
  | _ => cases e
theorem pairI_inv {d : D} {p : Int × Int} (e : pairI d = some p) : d = .tup [.int p.1, .int p.2] := by
  cases d with
  | tup l =>
    match l, e with
    | [x, y], e =>
      obtain ⟨a, ha, e⟩ := Option.bind_eq_some_iff.mp (show ((intI x).bind fun a => (intI y).map fun b => (a, b)) = some p from e)
      obtain ⟨b, hb, rfl⟩ := Option.map_eq_some_iff.mp e
      rw [intI_inv ha, intI_inv hb]
  | _ => cases e
noncomputable def runT {α : Type} (lt : Nat → Nat → Option Bool) : KasT α → Option α
  | .ret a => some a
  | .ask i j k => match lt i j with
    | some b => runT lt (k b)
    | none => none
end
end Mine
namespace Mine
open PySem PySem.W PySem.Calls PyProof.Rows
open PySem.Builtin.Str (tooLong)

noncomputable def ltP (ps : List (Int × Int)) (i j : Nat) : Option Bool := match ps[i]?, ps[j]? with
  | some p, some q => some (if (p.1 == q.1) = true then (if (p.2 == q.2) = true then false else decide (p.2 < q.2)) else decide (p.1 < q.1))
  | _, _ => none
noncomputable def sortedD : List D → Option D
  | [.lst l] => (pairsI l).bind fun ps => if (decide (2 ≤ l.length) && decide (l.length < 64)) = true then (runT (ltP ps) (kas_sort l.length)).bind fun p => (p.toList.mapM (l[·]?)).map .lst else none
  | _ => none

theorem run_wp {α : Type} {cmp : Nat → Nat → (Bool → Shared → Prop) → Shared → Prop} {lt : Nat → Nat → Option Bool} {s : Shared} (hc : ∀ i j b (C : Bool → Shared → Prop), lt i j = some b → C b s → cmp i j C s) :
    ∀ (t : KasT α) {a : α} {Q : α → Shared → Prop}, runT lt t = some a → Q a s → t.kasWp cmp Q s
  | .ret _, a, Q, e, q => by cases e; exact q
  | .ask i j k, a, Q, e, q => by
    simp only [runT] at e
    cases x : lt i j with
    | none => rw [x] at e; cases e
    | some b => rw [x] at e; exact hc i j b _ x (run_wp hc (k b) e q)

/-- pairs of ints in the heap -/
inductive PairsAt (h : Heap) : List Value → List (Int × Int) → Prop
  | nil : PairsAt h [] []
  | cons {a : Addr} {o : Obj} {n : Nat} {i j : Int} {t u : Tok} {vs : List Value} {ps : List (Int × Int)} : h.get? a = some o → o.cls = .type "tuple" → o.data = .seq #[.int i t, .int j u] n → PairsAt h vs ps → PairsAt h (.ref a :: vs) ((i, j) :: ps)
theorem pairsAt_of {W : Wd} {K : KM} {h : Heap} (hs : ∀ a o, K a = some o → h.get? a = some o) {vs : List Value} {l : List D} {ps : List (Int × Int)} (x : AllD W K vs l) : pairsI l = some ps → PairsAt h vs ps := by
  refine AllD.ind (P := fun vs l => ∀ ps, pairsI l = some ps → PairsAt h vs ps) (fun ps e => ?_) (fun v vs d ds x _ ih ps e => ?_) x ps
  · cases e; exact .nil
  · obtain ⟨p, hp, e⟩ := Option.bind_eq_some_iff.mp (show ((pairI d).bind fun p => (pairsI ds).map (p :: ·)) = some ps from e)
    refine hide fun GG kk => ?_
    obtain ⟨m, hm, rfl⟩ := Option.map_eq_some_iff.mp e
    rw [pairI_inv hp] at x
    obtain ⟨a, o, vs', n, rfl, hk, c, q, r'⟩ := x.tup_inv
    obtain ⟨v, u, e', i, j⟩ := r'.inv2
    obtain ⟨t1, rfl⟩ := i.int_inv
    obtain ⟨t2, rfl⟩ := j.int_inv
    refine kk ?_
    clear kk GG
    have e2 : vs' = #[.int p.1 t1, .int p.2 t2] := by rw [← Array.toArray_toList (xs := vs'), e']
    exact .cons (hs _ _ hk) c (by rw [q, e2]) (ih m hm)
theorem PairsAt.keeps {h h' : Heap} (k : ∀ b o xs n, h.get? b = some o → o.data = .seq xs n → h'.get? b = some o) {vs : List Value} {ps : List (Int × Int)} (x : PairsAt h vs ps) : PairsAt h' vs ps := by
  induction x with
  | nil => exact .nil
  | cons a b c _ ih => exact .cons (k _ _ _ _ a c) b c ih
theorem PairsAt.firsts {h : Heap} {vs : List Value} {ps : List (Int × Int)} (x : PairsAt h vs ps) : ∃ fs, KatTups h vs fs ∧ fs.length = vs.length ∧ ∀ v ∈ fs, ∃ i t, v = Value.int i t := by
  induction x with
  | nil => exact ⟨[], trivial, rfl, fun _ h => nomatch h⟩
  | cons a b c _ ih =>
    obtain ⟨fs, x, y, z⟩ := ih
    exact ⟨_ :: fs, KatTups.cons a b c rfl x, congrArg (· + 1) y, mem1 ⟨_, _, rfl⟩ z⟩
theorem PairsAt.at {h : Heap} {vs : List Value} {ps : List (Int × Int)} (x : PairsAt h vs ps) : ∀ {i : Nat} {p : Int × Int}, ps[i]? = some p → ∃ a o n t u, vs.getD i Value.none = .ref a ∧ h.get? a = some o ∧ o.data = .seq #[.int p.1 t, .int p.2 u] n := by
  induction x with
  | nil => exact fun e => nomatch e
  | cons a b c d ih =>
    intro i p e
    cases i with
    | zero => cases e; exact ⟨_, _, _, _, _, rfl, a, c⟩
    | succ i =>
      refine hide fun GG kk => ?_
      obtain ⟨x, o, n, t, u, h1, h2, h3⟩ := ih (i := i) e
      refine kk ?_
      clear kk GG
      exact ⟨x, o, n, t, u, h1, h2, h3⟩
theorem PairsAt.length {h : Heap} {vs : List Value} {ps : List (Int × Int)} (x : PairsAt h vs ps) : vs.length = ps.length := by
  induction x with
  | nil => rfl
  | cons a b c _ ih => exact congrArg (· + 1) ih

theorem mapM_getD {W : Wd} {K : KM} {vs : List Value} {l : List D} (da : AllD W K vs l) : ∀ (p : List Nat) {out : List D}, p.mapM (l[·]?) = some out → AllD W K (p.map fun i => vs.getD i Value.none) out
  | [], out, e => by simp at e; subst e; exact .nil
  | i :: p, out, e => by
    simp only [List.mapM_cons, Option.bind_eq_bind, Option.pure_def, Option.bind_eq_some_iff] at e
    refine hide fun GG kk => ?_
    obtain ⟨d, hd, ds, hds, e⟩ := e
    cases e
    obtain ⟨v, hv, iv⟩ := da.get hd
    refine kk ?_
    clear kk GG
    rw [List.map_cons]
    refine .cons ?_ (mapM_getD da p hds)
    rw [List.getD_eq_getElem?_getD, hv]; exact iv

theorem ask_pairs {prog : Program} {w : World} {A : Around} {s : Shared} {vs : List Value} {ps : List (Int × Int)} {i j : Nat} {b : Bool} {C : Bool → Shared → Prop} (PA : PairsAt s.heap vs ps) (e : ltP ps i j = some b) (h : C b s) :
    kas_ask prog w A (tuples' true) vs i j C s := by
  unfold ltP at e
  split at e
  · rename_i p q hp hq
    refine hide fun GG kk => ?_
    cases e
    obtain ⟨a, o, n, t, u, e1, e2, e3⟩ := PA.at hp
    obtain ⟨a', o', n', t', u', f1, f2, f3⟩ := PA.at hq
    refine kk ?_
    clear kk GG
    unfold kas_ask
    rw [e1, f1]
    refine kat_lt e2 e3 f2 f3 ?_
    refine kat_cons (wpAny_eqBool_int (kat_go (fun hy => kat_yes ?_) (fun hn => kat_no ?_)))
    · rw [if_pos hy] at h
      refine kat_cons (wpAny_eqBool_int (kat_go (fun hy2 => kat_yes ?_) (fun hn2 => kat_no ?_)))
      · rw [if_pos hy2] at h; exact kat_nil h
      · rw [if_neg (by rw [hn2]; simp)] at h
        exact kat_one _ _ (P.lt_int (boolBack_bool' h))
    · rw [if_neg (by rw [hn]; simp)] at h
      exact oneLt_int h
  · cases e
where
  boolBack_bool' {Q : Bool → Shared → Prop} {b : Bool} {s' : Shared} (hq : Q b s') : PySem.W.BoolBack Q (.bool b) s' := hq

theorem sorted_ok (G : Good W) : BiOk W "sorted" sortedD := by
  intro A K s vs ds r E hh hu ok ha e
  unfold sortedD at e
  split at e
  · rename_i l
    cases q : pairsI l with
    | none => rw [q] at e; cases e
    | some ps =>
      rw [q] at e
      simp only [Option.bind_some] at e
      split at e
      · rename_i hn
        simp only [Bool.and_eq_true, decide_eq_true_eq] at hn
        cases x : runT (ltP ps) (kas_sort l.length) with
        | none => rw [x] at e; cases e
        | some p =>
          rw [x] at e
          simp only [Option.bind_some] at e
          cases y : p.toList.mapM (l[·]?) with
          | none => rw [y] at e; cases e
          | some out =>
            rw [y] at e; cases e
            obtain ⟨v, rfl, i⟩ := ha.inv1
            obtain ⟨a, xs, rfl, hl, da⟩ := (i.view (h := s.heap)).isList ok.sub
            have el := da.length
            have PP := pairsAt_of ok.sub da q
            have hl' : s.heap.IsList a xs.toList.toArray := by rw [Array.toArray_toList]; exact hl
            refine wpAny_mono (keep_all (Q := fun v s' => ∃ D h'' c, v = .ref D ∧ s' = { s with heap := h'' } ∧ s.heap.get? D = none ∧ h''.get? D = some (listOf (List.toArray (p.toList.map fun i => xs.toList.getD i Value.none)) c))
              (ok.g G) (ok.b G) (by decide) fun L m nL => ?_) (fun v s' hq => ?_) fun _ _ x => False.elim x
            · have neL : ∀ b o ys n, s.heap.get? b = some o → o.data = .seq ys n → b ≠ L := by
                rintro b o ys n hb hd rfl
                obtain ⟨o', es, ep, ho, hd', _⟩ := nL
                rw [hb] at ho; cases ho
                rw [hd] at hd'; cases hd'
              refine kat_sorted (fr_all nL) news_all hl' (by omega) (by omega) fun D e1 h' F' N' lt => ?_
              have keep : ∀ b o, b ≠ L → s.heap.get? b = some o → h'.get? b = some o := fun b o hb ho => (N' (b, o) (.tail _ (mem_allBut ho hb))).1
              have PP' : PairsAt h' xs.toList ps := PP.keeps fun b o ys n hb hd => keep b o (neL b o ys n hb hd) hb
              obtain ⟨fs, T, hfl, hfs⟩ := PP'.firsts
              refine kat_kind (s := { s with heap := h' }) (T := .type "int") T (by omega) (fun v hv => ?_) rfl ?_
              · obtain ⟨i, t, rfl⟩ := hfs v hv
                exact Looks.of_pure rfl
              · rw [el]
                refine run_wp (lt := ltP ps) (fun i j b C e hC => ask_pairs (s := { s with heap := h' }) PP' e hC) _ x ?_
                refine KasFin.intro F' N' (UpdF.head fun p hp => Nat.ne_of_lt (lt p hp)) fun h'' c F'' N'' => ?_
                have nD := N'' (D, _) (.head _)
                refine ⟨⟨D, h'', c, rfl, rfl, ?_, nD.1⟩, m, F'', fun p hp => N'' p (.tail _ hp)⟩
                cases z : s.heap.get? D with
                | none => rfl
                | some o => exact absurd (lt (D, o) (mem_allBut z nD.2.1)) (Nat.lt_irrefl _)
            · obtain ⟨⟨D, h'', c, rfl, rfl, hD, hD'⟩, hk⟩ := hq
              exact ⟨_, Ext.add (n := s.toks) G ok hk (Nat.le_refl _) hD hD', .lst (putK_self _ _ _) rfl rfl (by simpa using (mapM_getD da _ y).mono fun b o e => putK_of (ok.noneK hD) e)⟩
      · cases e
  · cases e
end Mine
namespace Mine
open PySem PySem.W PySem.Calls PyProof.Rows

/-! the names, by number -/
noncomputable def nmL : List String := ["add_func_stats", "add_callers", "count_calls", "parse257", "_paren_depth", "_substitution_cost", "_law_events", "_law_name", "_law_talk", "_law_read", "_law_piece", "_law_table", "_law_ways", "_law_links", "_law_most", "_law_book", "law", "target", "source", "callers", "resp", "data", "depth", "ch_a", "ch_b", "bits", "choice", "v", "session", "opened", "names", "noise", "reply", "name", "heights", "signs", "pairs", "crossing", "links", "numbers", "script", "self", "comp_select_list", "left", "right", "__name__", "Exception", "Error", "_quoted", "_MOVE_COST", "_CASE_COST", "new_callers", "nc", "calls", "dirname", "i", "n", "events", "waiting", "begun", "letter", "rest", "talk", "k", "word", "table", "height", "ways", "place", "j", "book", "number", "own", "draws", "ties", "costs", "rows", "way", "begins", "ends", "told", "crossed", "within", "found", "total", "crosses", "nests", "both", "cc", "tt", "ct", "t_cc", "t_nc", "t_tt", "t_ct", "t_callers", "func", "caller", "len", "c", "_sre", "chr", "range", "error_reply", "more", "step", "reached", "tie", "TupleComp", "sum", "across", "nested", "most", "key", "index", "direction", "l", "r", "bit", "divmod", "sorted", "a", "b", "d", "due", "isinstance", "tuple", "at", "still", "x", "cost", "zip", "one", "other", "sign"]
noncomputable def nN : Nat := 135
noncomputable def nm (i : Nat) : Str := Str.ofString (nmL.getD i "?")
noncomputable def codeOf (x : Str) : Nat := x.cps.toList.foldl (fun a c => a * 1114112 + c) 1
noncomputable def nmCodes : List Nat := (List.range nN).map fun i => codeOf (nm i)
theorem nm_codes : nmCodes.Nodup := by decide +kernel
theorem nm_inj {i j : Nat} (hi : i < nN) (hj : j < nN) (e : nm i = nm j) : i = j := by
  have hl : nmCodes.length = nN := by simp [nmCodes]
  have e1 : nmCodes[i]? = some (codeOf (nm i)) := by simp [nmCodes, hi]
  have e2 : nmCodes[j]? = some (codeOf (nm j)) := by simp [nmCodes, hj]
  have hi' : i < nmCodes.length := by omega
  have hj' : j < nmCodes.length := by omega
  rw [List.getElem?_eq_getElem hi'] at e1
  rw [List.getElem?_eq_getElem hj'] at e2
  have : nmCodes[i] = nmCodes[j] := by
    have a := Option.some.inj e1
    have b := Option.some.inj e2
    rw [a, b, e]
  exact (List.getElem_inj nm_codes).mp this

/-! stores -/
noncomputable abbrev Sto := List (Nat × LV)
noncomputable def Sto.get : Sto → Nat → Option LV
  | [], _ => none
  | (j, v) :: r, i => match Nat.beq i j with
    | true => some v
    | false => Sto.get r i
noncomputable def Sto.put : Sto → Nat → LV → Sto
  | [], i, v => [(i, v)]
  | (j, w) :: r, i, v => match Nat.beq i j with
    | true => (j, v) :: r
    | false => (j, w) :: Sto.put r i v
noncomputable def Sto.drop : Sto → Nat → Sto
  | [], _ => []
  | (j, w) :: r, i => match Nat.beq i j with
    | true => Sto.drop r i
    | false => (j, w) :: Sto.drop r i
/-- the frozen ones -/
noncomputable def Sto.vs : Sto → Sto
  | [] => []
  | (j, .v d) :: r => (j, .v d) :: Sto.vs r
  | (j, .o _) :: r => Sto.drop (Sto.vs r) j
/-- all frozen -/
noncomputable def Sto.frz : Sto → Sto
  | [] => []
  | (j, w) :: r => (j, .v w.d) :: Sto.frz r
theorem beq_t {i j : Nat} (h : Nat.beq i j = true) : i = j := Nat.eq_of_beq_eq_true h
theorem beq_f {i j : Nat} (h : Nat.beq i j = false) : i ≠ j := Nat.ne_of_beq_eq_false h
theorem Sto.get_put : ∀ (σ : Sto) (i : Nat) (v : LV) (k : Nat), (σ.put i v).get k = if k = i then some v else σ.get k
  | [], i, v, k => by
    simp only [Sto.put, Sto.get]
    split
    · rename_i h; rw [if_pos (beq_t h)]
    · rename_i h; rw [if_neg (beq_f h)]
  | (j, w) :: r, i, v, k => by
    simp only [Sto.put]
    split
    · rename_i h
      have h' := beq_t h
      subst h'
      simp only [Sto.get]
      split
      · rename_i h2; rw [if_pos (beq_t h2)]
      · rename_i h2; rw [if_neg (beq_f h2)]
    · rename_i h
      simp only [Sto.get]
      split
      · rename_i h2
        have h3 := beq_t h2
        subst h3
        rw [if_neg (fun e => beq_f h e.symm)]
      · exact Sto.get_put r i v k
theorem Sto.get_drop : ∀ (σ : Sto) (i : Nat) (k : Nat), (σ.drop i).get k = if k = i then none else σ.get k
  | [], i, k => by simp [Sto.drop, Sto.get]
  | (j, w) :: r, i, k => by
    simp only [Sto.drop]
    split
    · rename_i h
      have h' := beq_t h
      subst h'
      rw [Sto.get_drop r i k]
      simp only [Sto.get]
      split
      · rfl
      · rename_i h2
        split
        · rename_i h3; exact absurd (beq_t h3) h2
        · rfl
    · rename_i h
      simp only [Sto.get]
      split
      · rename_i h2
        have h3 := beq_t h2
        subst h3
        rw [if_neg (fun e => beq_f h e.symm)]
      · exact Sto.get_drop r i k
theorem Sto.get_vs : ∀ (σ : Sto) (k : Nat) (l : LV), σ.vs.get k = some l → (∃ d, l = .v d) ∧ σ.get k = some l
  | [], k, l, e => by simp [Sto.vs, Sto.get] at e
  | (j, .v d) :: r, k, l, e => by
    simp only [Sto.vs, Sto.get] at e ⊢
    split at e
    · cases e; exact ⟨⟨d, rfl⟩, rfl⟩
    · exact Sto.get_vs r k l e
  | (j, .o d) :: r, k, l, e => by
    simp only [Sto.vs] at e
    rw [Sto.get_drop] at e
    split at e
    · cases e
    · rename_i q
      obtain ⟨a, b⟩ := Sto.get_vs r k l e
      refine ⟨a, ?_⟩
      simp only [Sto.get]
      split
      · rename_i h; exact absurd (beq_t h) q
      · exact b
theorem Sto.get_frz : ∀ (σ : Sto) (k : Nat), σ.frz.get k = (σ.get k).map fun l => LV.v l.d
  | [], k => rfl
  | (j, w) :: r, k => by
    simp only [Sto.frz, Sto.get]
    split
    · rfl
    · exact Sto.get_frz r k

/-! what a name holds -/
noncomputable def valOf (env : Env) (h : Heap) (m : Str → Option Value) (n : Str) : Option Value := match env.kindOf n with
  | some .local => m n
  | some .cell => match env.cells.lookup n with
    | some c => match h.get? c with
      | some o => match o.data with
        | .cell v => v
        | _ => none
      | none => none
    | none => none
  | _ => none

noncomputable def isV (k : Option NameKind) : Bool := match k with
  | some .local => true
  | some .cell => true
  | _ => false

/-- the places that a frame may write to -/
noncomputable def Bs (env : Env) (h : Heap) (m : Str → Option Value) (σ : Sto) (a : Addr) : Prop :=
  a = env.locals ∨ (∃ n, env.cells.lookup n = some a) ∨ ∃ i d, i < nN ∧ σ.get i = some (.o d) ∧ valOf env h m (nm i) = some (.ref a)

structure RdOk (W : Wd) (K : KM) (env : Env) (h : Heap) (m : Str → Option Value) (σ : Sto) : Prop where
  kind : env.scope.kind = .function
  gl : env.globals = mainGlobals
  bi : env.builtins = builtinsNs
  ol : OwnL W K env.locals
  oc : ∀ n c, env.cells.lookup n = some c → Own W K c ∧ ∃ v, h.IsCell c v
  inj : ∀ n n' c, env.cells.lookup n = some c → env.cells.lookup n' = some c → n = n'
  cx : ∀ x, env.kindOf x = some .cell → ∃ c, env.cells.lookup x = some c
  cd : env.kindOf (nm 51) = some .local → env.code = .ref W.PC
  ns : h.Ns env.locals m
  rd : ∀ i l, i < nN → σ.get i = some l → isV (env.kindOf (nm i)) = true → ∃ v, valOf env h m (nm i) = some v ∧ IsLV W K h v l
  ap : ∀ i d a, i < nN → σ.get i = some (.o d) → valOf env h m (nm i) = some (.ref a) → a ≠ env.locals ∧ ∀ n c, env.cells.lookup n = some c → a ≠ c
  ap2 : ∀ i j d e a, i < nN → j < nN → σ.get i = some (.o d) → σ.get j = some (.o e) → valOf env h m (nm i) = some (.ref a) → valOf env h m (nm j) = some (.ref a) → i = j

section
variable {W : Wd} {K K' : KM} {env : Env} {m : Str → Option Value} {σ : Sto} {s s' : Shared}

theorem Own.live_cell {h : Heap} {c : Addr} {v : Option Value} (x : h.IsCell c v) : ∃ o, h.get? c = some o := let ⟨o, e, _⟩ := x; ⟨o, e⟩

theorem valOf_ext {h h' : Heap} (hk : ∀ n c, env.cells.lookup n = some c → ∀ o, h.get? c = some o → h'.get? c = some o) (hc : ∀ n c, env.cells.lookup n = some c → ∃ v, h.IsCell c v) (n : Str) : valOf env h' m n = valOf env h m n := by
  unfold valOf
  split
  · rfl
  · cases q : env.cells.lookup n with
    | none => rfl
    | some c =>
      obtain ⟨v, o, ho, hd⟩ := hc n c q
      simp only [ho, hk n c q o ho]
  · rfl

theorem RdOk.ext (R : RdOk W K env s.heap m σ) (x : Ext W K s K' s') : RdOk W K' env s'.heap m σ := by
  have kc : ∀ n c, env.cells.lookup n = some c → ∀ o, s.heap.get? c = some o → s'.heap.get? c = some o := fun n c e o ho => x.le.keep c o (R.oc n c e).1.2.1 ho
  have hv := valOf_ext (m := m) kc fun n c e => (R.oc n c e).2
  have el : ∃ o, s.heap.get? env.locals = some o := let ⟨o, _, _, ho, _⟩ := R.ns; ⟨o, ho⟩
  obtain ⟨ol, hol⟩ := el
  exact
  { kind := R.kind
    gl := R.gl
    bi := R.bi
    ol := R.ol.ext x hol
    oc := fun n c e => by
      obtain ⟨w, v, o, ho, hd⟩ := R.oc n c e
      exact ⟨w.ext x ho, v, o, kc n c e o ho, hd⟩
    inj := R.inj
    cd := R.cd
    cx := R.cx
    ns := ns_slots R.ns fun o e => x.le.up R.ol.2.1 o e
    rd := fun i l hi e hk => by
      obtain ⟨v, a, b⟩ := R.rd i l hi e hk
      exact ⟨v, (hv _).trans a, b.ext x⟩
    ap := fun i d a hi e h => R.ap i d a hi e ((hv _).symm.trans h)
    ap2 := fun i j d e a hi hj h1 h2 h3 h4 => R.ap2 i j d e a hi hj h1 h2 ((hv _).symm.trans h3) ((hv _).symm.trans h4) }
theorem Bs_ext (R : RdOk W K env s.heap m σ) (x : Ext W K s K' s') (a : Addr) : Bs env s'.heap m σ a ↔ Bs env s.heap m σ a := by
  have kc : ∀ n c, env.cells.lookup n = some c → ∀ o, s.heap.get? c = some o → s'.heap.get? c = some o := fun n c e o ho => x.le.keep c o (R.oc n c e).1.2.1 ho
  have hv := valOf_ext (m := m) kc fun n c e => (R.oc n c e).2
  unfold Bs
  simp only [hv]

/-- a name is read -/
theorem load_name {M : Model} {A : Around} {E : Value → Shared → Prop} {n : Str} {v : Value} {Q : Value → Shared → Prop} (hk : env.scope.kind = .function) (hn : s.heap.Ns env.locals m) (e : valOf env s.heap m n = some v) (h : Q v s) : wpAny M A (loadName env n) Q E s := by
  unfold valOf at e
  split at e
  · rename_i q; exact wpAny_loadName_local hk q hn e h
  · rename_i q
    split at e
    · rename_i c hc
      split at e
      · rename_i o ho
        split at e
        · rename_i v' hd
          exact wpAny_loadName_cell hk q hc ⟨o, ho, by rw [hd, e]⟩ h
        · cases e
      · cases e
    · cases e
  · cases e
end

/-! a step that writes -/
theorem ExtB.updL {W : Wd} {K : KM} {s : Shared} {B : Addr → Prop} (ok : Ok W K s) {h' : Heap} {n : Nat} (hB : ∀ a, B a → OwnL W K a) (hl : ∃ o, h'.get? W.LF = some o ∧ ∀ vs, o.data ≠ .fields vs) (hs : ∀ b o, ¬ B b → s.heap.get? b = some o → h'.get? b = some o) (ht : s.toks ≤ n) :
    ExtB W B K s K { s with heap := h', toks := n } :=
  { keep := fun b o _ nb e => hs b o nb e
    lf := fun nb o e => ⟨o.slots, hs _ _ nb e⟩
    tab := fun ps hp e => ⟨#[], by simpa using hp, by simpa using hs _ _ (fun q => (hB _ q).2.1 rfl) e⟩
    kk := fun _ _ e => e
    ok := ⟨⟨fun b o hb e => hs b o (fun q => by rw [(hB b q).2.2] at e; cases e) (ok.base.keep b o hb e), fun ps hp e => by
        obtain ⟨mo, hm, e'⟩ := ok.base.tab ps hp e
        exact ⟨mo, hm, hs _ _ (fun q => (hB _ q).2.1 rfl) e'⟩, fun o e => by rw [ok.b0] at e; cases e⟩, fun a o e => hs a o (fun q => by rw [(hB a q).1] at e; cases e) (ok.sub a o e), ok.pt, ok.lf, hl, ok.b0, Nat.le_trans ok.tk ht⟩
    fr := fun _ _ e => .inl e
    os := rfl
    gens := id
    tk := ht }
theorem ExtB.upds {W : Wd} {K : KM} {s : Shared} {B : Addr → Prop} (ok : Ok W K s) {h' : Heap} {n : Nat} (hB : ∀ a, B a → Own W K a) (hs : ∀ b o, ¬ B b → s.heap.get? b = some o → h'.get? b = some o) (ht : s.toks ≤ n) :
    ExtB W B K s K { s with heap := h', toks := n } := ExtB.updL ok (fun a h => (hB a h).toL) (ok.live.imp fun o e => ⟨hs _ _ (fun q => (hB _ q).2.1.2 rfl) e.1, e.2⟩) hs ht
end Mine
namespace Mine
open PySem PySem.W PySem.Calls PyProof.Rows

/-- the names' places -/
noncomputable def Ps (env : Env) (a : Addr) : Prop := a = env.locals ∨ ∃ n, env.cells.lookup n = some a

section
variable {W : Wd} {K : KM} {env : Env} {m m' : Str → Option Value} {σ : Sto} {s s' : Shared} {i : Nat} {v : Value} {l : LV}

/-- no other name owns it -/
structure Free (env : Env) (h : Heap) (m : Str → Option Value) (σ : Sto) (i : Nat) (v : Value) (l : LV) : Prop where
  ps : ∀ d a, l = .o d → v = .ref a → ¬ Ps env a
  no : ∀ d a j e, l = .o d → v = .ref a → j < nN → σ.get j = some (.o e) → valOf env h m (nm j) = some (.ref a) → j = i
theorem Free.vv {h : Heap} {d : D} : Free env h m σ i v (.v d) := ⟨fun _ _ e => (nomatch e), fun _ _ _ _ e => (nomatch e)⟩

theorem RdOk.write (R : RdOk W K env s.heap m σ) (x : ExtB W (Ps env) K s K s') (hi : i < nN) (hl : IsLV W K s.heap v l) (hf : Free env s.heap m σ i v l) (hn : s'.heap.Ns env.locals m')
    (hc : ∀ n c, env.cells.lookup n = some c → ∃ v, s'.heap.IsCell c v) (h1 : valOf env s'.heap m' (nm i) = some v) (h2 : ∀ n, n ≠ nm i → valOf env s'.heap m' n = valOf env s.heap m n) :
    RdOk W K env s'.heap m' (σ.put i l) :=
  { kind := R.kind
    gl := R.gl
    bi := R.bi
    ol := R.ol
    oc := fun n c e => ⟨(R.oc n c e).1, hc n c e⟩
    inj := R.inj
    cd := R.cd
    cx := R.cx
    ns := hn
    rd := fun j l' hj e hk => by
      rw [Sto.get_put] at e
      split at e
      · rename_i q; subst q; cases e
        exact ⟨v, h1, hl.extB x fun a ha ⟨d, hd⟩ => hf.ps d a hd ha⟩
      · rename_i q
        obtain ⟨v', a, b⟩ := R.rd j l' hj e hk
        refine ⟨v', (h2 _ fun q' => q (nm_inj hj hi q')).trans a, b.extB x fun a' ha ⟨d, hd⟩ => ?_⟩
        subst ha hd
        have := R.ap j d a' hj e a
        rintro (q | ⟨n, q⟩)
        · exact this.1 q
        · exact this.2 n a' q rfl
    ap := fun j d a hj e h => by
      rw [Sto.get_put] at e
      split at e
      · rename_i q; subst q; cases e
        rw [h1] at h; cases h
        have := hf.ps d a rfl rfl
        exact ⟨fun q => this (.inl q), fun n c e q => this (.inr ⟨n, q ▸ e⟩)⟩
      · rename_i q
        rw [h2 _ fun q' => q (nm_inj hj hi q')] at h
        exact R.ap j d a hj e h
    ap2 := fun j k d e a hj hk e1 e2 g1 g2 => by
      rw [Sto.get_put] at e1 e2
      split at e1
      · rename_i q; subst q; cases e1
        split at e2
        · rename_i q; exact q.symm
        · rename_i q
          rw [h1] at g1; cases g1
          rw [h2 _ fun q' => q (nm_inj hk hi q')] at g2
          exact (hf.no d a k e rfl rfl hk e2 g2).symm
      · rename_i q
        rw [h2 _ fun q' => q (nm_inj hj hi q')] at g1
        split at e2
        · rename_i q2; subst q2; cases e2
          rw [h1] at g2; cases g2
          exact hf.no _ a j d rfl rfl hj e1 g1
        · rename_i q2
          rw [h2 _ fun q' => q2 (nm_inj hk hi q')] at g2
          exact R.ap2 j k d e a hj hk e1 e2 g1 g2 }

/-- cells are none of the locals' place -/
theorem RdOk.cne (R : RdOk W K env s.heap m σ) {n : Str} {c : Addr} (e : env.cells.lookup n = some c) : c ≠ env.locals := by
  rintro rfl
  obtain ⟨_, v, o, ho, hd⟩ := R.oc n _ e
  obtain ⟨o', es, ep, ho', hd', _⟩ := R.ns
  rw [ho] at ho'; cases ho'
  rw [hd] at hd'; cases hd'

/-- B holds the places of the name i -/
structure Wr (env : Env) (i : Nat) (Bq : Addr → Prop) : Prop where
  sub : ∀ a, Bq a → Ps env a
  loc : env.kindOf (nm i) = some .local → Bq env.locals
  cel : ∀ c, env.kindOf (nm i) = some .cell → env.cells.lookup (nm i) = some c → Bq c
theorem Wr.all (env : Env) (i : Nat) : Wr env i (Ps env) := ⟨fun _ h => h, fun _ => .inl rfl, fun c _ h => .inr ⟨_, h⟩⟩
theorem Wr.one {env : Env} {i : Nat} (h : env.kindOf (nm i) = some .local) : Wr env i (· = env.locals) := ⟨fun _ h => .inl h, fun _ => rfl, fun c q => by rw [h] at q; cases q⟩

theorem store_sound {Bq : Addr → Prop} (hw : Wr env i Bq) {A : Around} {E : Value → Shared → Prop} {M : Model} (R : RdOk W K env s.heap m σ) (ok : Ok W K s) (hi : i < nN) (hk : isV (env.kindOf (nm i)) = true) 
    (hl : IsLV W K s.heap v l) (hf : Free env s.heap m σ i v l) :
    wpAny M A (storeName env (nm i) v) (fun _ s' => ∃ m', ExtB W Bq K s K s' ∧ RdOk W K env s'.heap m' (σ.put i l) ∧ valOf env s'.heap m' (nm i) = some v ∧ ∀ n, n ≠ nm i → valOf env s'.heap m' n = valOf env s.heap m n) E s := by
  have own : ∀ a, Ps env a → OwnL W K a := by
    rintro a (rfl | ⟨n, e⟩)
    · exact R.ol
    · exact (R.oc n a e).1.toL
  unfold isV at hk
  split at hk
  · rename_i q
    refine wpAny_storeName_local q R.ns (fun h' hn hs => ?_) (by rw [R.kind]; rfl)
    have keep : ∀ b o, b ≠ env.locals → s.heap.get? b = some o → h'.get? b = some o := fun b o hb e => (hs.2 b hb).trans e
    have hcells : ∀ n c, env.cells.lookup n = some c → h'.get? c = s.heap.get? c := fun n c e => hs.2 c (R.cne e)
    have h1 : valOf env h' (fun x => if x = nm i then some v else m x) (nm i) = some v := by unfold valOf; rw [q]; simp
    have h2 : ∀ n, n ≠ nm i → valOf env h' (fun x => if x = nm i then some v else m x) n = valOf env s.heap m n := by
      intro n hne
      unfold valOf
      split
      · simp [hne]
      · cases q2 : env.cells.lookup n with
        | none => rfl
        | some c => simp only [hcells n c q2]
      · rfl
    have x : ExtB W Bq K s K { s with heap := h', toks := s.toks + 1 } := ExtB.updL ok (fun a h => own a (hw.sub a h)) (by
      by_cases ql : W.LF = env.locals
      · obtain ⟨o, _, _, ho, hd, _⟩ := hn; exact ⟨o, ql ▸ ho, fun vs q => by rw [hd] at q; cases q⟩
      · exact ok.live.imp fun o e => ⟨keep _ o ql e.1, e.2⟩) (fun b o nb e => keep b o (fun q' => nb (q' ▸ hw.loc q)) e) (Nat.le_succ _)
    exact ⟨_, x, R.write (x.mono ok fun a h => .inl (hw.sub a h)) hi hl hf hn (fun n c e => let ⟨v, o, ho, hd⟩ := (R.oc n c e).2; ⟨v, o, (hcells n c e).trans ho, hd⟩) h1 h2, h1, h2⟩
  · rename_i q
    obtain ⟨c, hc⟩ := R.cx _ q
    obtain ⟨wc, v₀, hc0⟩ := R.oc _ _ hc
    refine wpAny_storeName_cell R.kind q hc hc0 fun h' hcv hs => ?_
    have hcells : ∀ n c', env.cells.lookup n = some c' → n ≠ nm i → h'.get? c' = s.heap.get? c' := fun n c' e hne => hs.2 c' fun q' => hne (R.inj n (nm i) c (q' ▸ e) hc)
    have hns : h'.Ns env.locals m := R.ns.sameBut hs (Ne.symm (R.cne hc))
    have h1 : valOf env h' m (nm i) = some v := by
      obtain ⟨o, ho, hd⟩ := hcv
      unfold valOf; rw [q]; simp only [hc, ho, hd]
    have h2 : ∀ n, n ≠ nm i → valOf env h' m n = valOf env s.heap m n := by
      intro n hne
      unfold valOf
      split
      · rfl
      · cases q2 : env.cells.lookup n with
        | none => rfl
        | some c' => simp only [hcells n c' q2 hne]
      · rfl
    have x : ExtB W Bq K s K { s with heap := h' } := ExtB.updL (n := s.toks) ok (fun a h => own a (hw.sub a h)) (ok.live.imp fun o e => ⟨(hs.2 _ fun q' => wc.2.1.2 q'.symm).trans e.1, e.2⟩) (fun b o nb e => (hs.2 b (fun q' => nb (q' ▸ hw.cel c q hc))).trans e) (Nat.le_refl _)
    refine ⟨_, x, R.write (x.mono ok fun a h => .inl (hw.sub a h)) hi hl hf hns (fun n c' e => ?_) h1 h2, h1, h2⟩
    by_cases hne : n = nm i
    · subst hne; rw [hc] at e; cases e; exact ⟨_, hcv⟩
    · obtain ⟨v', o, ho, hd⟩ := (R.oc n c' e).2
      exact ⟨v', o, (hcells n c' e hne).trans ho, hd⟩
  · cases hk
end
end Mine
namespace Mine
open PySem PySem.W PySem.Calls PyProof.Rows

/-- f tells what the expression e gives -/
noncomputable def SE (W : Wd) (n : Nat) (sc : Scope) (f : Sto → Option D) (e : Expr) : Prop :=
  ∀ (A : Around) (env : Env) (σ : Sto) (m : Str → Option Value) (K : KM) (s : Shared) (d : D) (E : Value → Shared → Prop), env.scope = sc → f σ = some d → Ok W K s → RdOk W K env s.heap m σ → Room W A n →
    wpAny (model W.prog W.w) A (eval e env) (RV W K s d) E s
/-- the same, where the place itself may be a list or dict of the frame's own -/
noncomputable def SL (W : Wd) (n : Nat) (sc : Scope) (f : Sto → Option LV) (e : Expr) : Prop :=
  ∀ (A : Around) (env : Env) (σ : Sto) (m : Str → Option Value) (K : KM) (s : Shared) (d : LV) (E : Value → Shared → Prop), env.scope = sc → f σ = some d → Ok W K s → RdOk W K env s.heap m σ → Room W A n →
    wpAny (model W.prog W.w) A (eval e env) (RL W K s d) E s
inductive RB (W : Wd) (K : KM) (s : Shared) (r b : Bool) (s' : Shared) : Prop where
  | mk (e : b = r) (K' : KM) (x : Ext W K s K' s') : RB W K s r b s'
noncomputable def SB (W : Wd) (n : Nat) (sc : Scope) (f : Sto → Option Bool) (e : Expr) : Prop :=
  ∀ (A : Around) (env : Env) (σ : Sto) (m : Str → Option Value) (K : KM) (s : Shared) (d : Bool) (E : Value → Shared → Prop), env.scope = sc → f σ = some d → Ok W K s → RdOk W K env s.heap m σ → Room W A n →
    wpAny (model W.prog W.w) A (isTrue e env (eval e env)) (RB W K s d) E s
noncomputable def SLs (W : Wd) (n : Nat) (sc : Scope) (f : Sto → Option (List D)) (es : List Expr) : Prop :=
  (∀ pos env, (backTo pos (starEach es env)).any (·.1) = false) ∧ (∀ pos env, (backTo pos (starEach es env)).length = es.length) ∧
  ∀ (A : Around) (env : Env) (σ : Sto) (m : Str → Option Value) (K : KM) (s : Shared) (ds : List D) (E : Value → Shared → Prop) (pos : Pos), env.scope = sc → f σ = some ds → Ok W K s → RdOk W K env s.heap m σ → Room W A n →
    wpAny (model W.prog W.w) A (spliced (backTo pos (starEach es env))) (fun vs s' => ∃ K', Ext W K s K' s' ∧ AllD W K' vs ds) E s

/-! combinators -/
noncomputable abbrev DE := Sto → Option D
noncomputable abbrev DL := Sto → Option LV
noncomputable abbrev DB := Sto → Option Bool
noncomputable def eLit (d : D) : DE := fun _ => some d
noncomputable def eVar (i : Nat) : DE := fun σ => match σ.get i with
  | some (.v d) => some d
  | _ => none
noncomputable def lVar (i : Nat) : DL := fun σ => σ.get i
noncomputable def lE (f : DE) : DL := fun σ => match f σ with
  | some d => some (.v d)
  | none => none
noncomputable def eBin (op : BO) (f g : DL) : DE := fun σ => match f σ, g σ with
  | some a, some b => binD op a.d b.d
  | _, _ => none
noncomputable def eNeg (f : DE) : DE := fun σ => match f σ with
  | some (.int i) => some (.int (-i))
  | _ => none
noncomputable def eCmp (op : CO) (f g : DL) : DE := fun σ => match f σ, g σ with
  | some a, some b => match cmpD op a.d b.d with
    | some r => some (.bool r)
    | none => none
  | _, _ => none
noncomputable def bCmp (op : CO) (f g : DL) : DB := fun σ => match f σ, g σ with
  | some a, some b => cmpD op a.d b.d
  | _, _ => none
noncomputable def bCmp2 (o1 o2 : CO) (f g h : DL) : DB := fun σ => match f σ, g σ with
  | some a, some b => match cmpD o1 a.d b.d with
    | some true => match h σ with
      | some c => cmpD o2 b.d c.d
      | none => none
    | some false => some false
    | none => none
  | _, _ => none
noncomputable def bVal (f : DE) : DB := fun σ => match f σ with
  | some (.bool b) => some b
  | _ => none
noncomputable def bNot (f : DB) : DB := fun σ => match f σ with
  | some b => some (!b)
  | none => none
noncomputable def bAnd (f g : DB) : DB := fun σ => match f σ with
  | some true => g σ
  | some false => some false
  | none => none
noncomputable def bOr (f g : DB) : DB := fun σ => match f σ with
  | some true => some true
  | some false => g σ
  | none => none
noncomputable def bIte (c f g : DB) : DB := fun σ => match c σ with
  | some true => f σ
  | some false => g σ
  | none => none
noncomputable def eIte (c : DB) (f g : DE) : DE := fun σ => match c σ with
  | some true => f σ
  | some false => g σ
  | none => none
noncomputable def eIdx (f g : DL) : DE := fun σ => match f σ, g σ with
  | some a, some b => idxD a.d b.d
  | _, _ => none
noncomputable def oInt : Option DE → Sto → Option (Option Int)
  | none, _ => some none
  | some f, σ => match f σ with
    | some (.int i) => some (some i)
    | _ => none
noncomputable def eCut (f : DL) (lo hi : Option DE) : DE := fun σ => match f σ, oInt lo σ, oInt hi σ with
  | some a, some l, some h => cutD a.d l h
  | _, _, _ => none
noncomputable def aNil : Sto → Option (List D) := fun _ => some []
noncomputable def aCons (f : DE) (g : Sto → Option (List D)) : Sto → Option (List D) := fun σ => match f σ, g σ with
  | some a, some l => some (a :: l)
  | _, _ => none
noncomputable def eTup (g : Sto → Option (List D)) : DE := fun σ => match g σ with
  | some l => if l.length ≤ line then some (.tup l) else none
  | none => none
noncomputable def eLst (g : Sto → Option (List D)) : DE := fun σ => match g σ with
  | some l => if l.length ≤ line then some (.lst l) else none
  | none => none
noncomputable def eDct1 (f g : DE) : DE := fun σ => match f σ, g σ with
  | some (.int k), some v => some (.dct [k] [v])
  | _, _ => none
noncomputable def eApp (f : List D → Option D) (g : Sto → Option (List D)) : DE := fun σ => match g σ with
  | some l => f l
  | none => none

section
variable {W : Wd} {n : Nat} {sc : Scope}

theorem RV.trans {K K₁ : KM} {s s₁ s₂ : Shared} {d : D} {v : Value} (x : Ext W K s K₁ s₁) (h : RV W K₁ s₁ d v s₂) : RV W K s d v s₂ := let ⟨K', y, i⟩ := h; ⟨K', x.trans y, i⟩
theorem RL.trans {K K₁ : KM} {s s₁ s₂ : Shared} {d : LV} {v : Value} (x : Ext W K s K₁ s₁) (h : RL W K₁ s₁ d v s₂) : RL W K s d v s₂ := let ⟨K', y, i⟩ := h; ⟨K', x.trans y, i⟩
theorem RB.trans {K K₁ : KM} {s s₁ s₂ : Shared} {d b : Bool} (x : Ext W K s K₁ s₁) (h : RB W K₁ s₁ d b s₂) : RB W K s d b s₂ := let ⟨e, K', y⟩ := h; ⟨e, K', x.trans y⟩
theorem BackB.rv {K : KM} {s s' : Shared} {r : Bool} {v : Value} (ok : Ok W K s) (h : BackB s r v s') : RV W K s (.bool r) v s' := by
  obtain ⟨rfl, n, hn, rfl⟩ := h; exact .here ok hn (.bool _)

theorem SE.toL {f : DE} {e : Expr} (h : SE W n sc f e) : SL W n sc (lE f) e := by
  intro A env σ m K s d E hs e ok R r
  unfold lE at e
  cases q : f σ with
  | none => rw [q] at e; cases e
  | some d' => rw [q] at e; cases e; exact wpAny_mono (h A env σ m K s d' E hs q ok R r) (fun v s' x => x.rl) fun _ _ x => x

theorem SE_int {i : Int} {k : Nat} {pos : Pos} : SE W n sc (eLit (.int i)) (.Constant (.int i) k pos) := by
  intro A env σ m K s d E hs e ok R r
  cases e
  have : ∀ (Q : Value → Shared → Prop), Q (.int i s.toks) { s with toks := s.toks + 1 } → wpAny (model W.prog W.w) A (eval (.Constant (.int i) k pos) env) Q E s := fun Q h _ _ _ => h
  exact this _ (.here ok (Nat.le_succ _) (.int _ _))
theorem SE_str {x : Str} {k : Nat} {pos : Pos} : SE W n sc (eLit (.str x)) (.Constant (.str x) k pos) := by
  intro A env σ m K s d E hs e ok R r
  cases e
  exact wpAny_Constant_str (.here ok (Nat.le_succ _) (.str _ _))
theorem SE_bool {x : Bool} {k : Nat} {pos : Pos} : SE W n sc (eLit (.bool x)) (.Constant (.bool x) k pos) := by
  intro A env σ m K s d E hs e ok R r
  cases e
  exact wpAny_Constant_bool (.now ok (.bool _))
theorem SL_var {i : Nat} {pos : Pos} (hi : Nat.blt i nN = true) (hk : isV (sc.names.lookup (nm i)) = true) (hd : (nm i == ("__debug__" : Str)) = false) : SL W n sc (lVar i) (.Name (nm i) pos) := by
  intro A env σ m K s d E hs e ok R r
  subst hs
  obtain ⟨v, a, b⟩ := R.rd i d (Nat.blt_eq.mp hi) e hk
  exact wpAny_Name (load_name R.kind R.ns a ⟨K, .refl ok, b⟩) hd
theorem SE_var {i : Nat} {pos : Pos} (hi : Nat.blt i nN = true) (hk : isV (sc.names.lookup (nm i)) = true) (hd : (nm i == ("__debug__" : Str)) = false) : SE W n sc (eVar i) (.Name (nm i) pos) := by
  intro A env σ m K s d E hs e ok R r
  unfold eVar at e
  split at e
  · rename_i d' q
    cases e
    refine wpAny_mono (SL_var hi hk hd A env σ m K s (.v d) E hs q ok R r) (fun v s' x => ?_) fun _ _ x => x
    obtain ⟨K', x, i⟩ := x
    cases i with | v i => exact ⟨K', x, i⟩
  · cases e
/-- a global name that holds an int -/
theorem SE_glb (G : Good W) {x : Str} {i : Int} {t : Tok} {pos : Pos} (hk : sc.names.lookup x = some .globalImplicit) (hd : (x == ("__debug__" : Str)) = false) (hg : W.mg x = some (.int i t)) : SE W n sc (eLit (.int i)) (.Name x pos) := by
  intro A env σ m K s d E hs e ok R r
  subst hs
  cases e
  refine wpAny_Name ?_ hd
  rw [loadName_read R.kind hk]
  exact loadGlobal_global (by rw [R.gl]; exact ok.g G) hg (.now ok (.int _ _))

theorem SE_bin (G : Good W) {op : BO} {f g : DL} {l r : Expr} {pos : Pos} (ha : SL W n sc f l) (hb : SL W n sc g r) : SE W n sc (eBin op f g) (.BinOp l op.real r pos) := by
  intro A env σ m K s d E hs e ok R rm
  unfold eBin at e
  split at e
  · rename_i a b q1 q2
    refine wpAny_BinOp (wpAny_mono (ha A env σ m K s a E hs q1 ok R rm) (fun v₁ s₁ ⟨K₁, x₁, i₁⟩ => ?_) fun _ _ h => h)
    refine wpAny_mono (hb A env σ m K₁ s₁ b E hs q2 x₁.ok (R.ext x₁) rm) (fun v₂ s₂ ⟨K₂, x₂, i₂⟩ => ?_) fun _ _ h => h
    exact wpAny_mono (bin_sound G x₂.ok (i₁.ext x₂).view i₂.view e) (fun v s' h => .trans (x₁.trans x₂) h) fun _ _ h => h
  · cases e
theorem SE_neg {f : DE} {x : Expr} {pos : Pos} (ha : SE W n sc f x) : SE W n sc (eNeg f) (.UnaryOp .USub x pos) := by
  intro A env σ m K s d E hs e ok R rm
  unfold eNeg at e
  split at e
  · rename_i i q
    cases e
    refine wpAny_UnaryOp (wpAny_mono (ha A env σ m K s _ E hs q ok R rm) (fun v s₁ ⟨K₁, x₁, i₁⟩ => ?_) fun _ _ h => h)
    obtain ⟨_, rfl⟩ := i₁.int_inv
    exact P.neg_int (.trans x₁ (.here x₁.ok (Nat.le_succ _) (.int _ _)))
  · cases e
theorem Room.u72 {A : Around} (r : Room W A n) : A.units + 72 < cLine := by have := r.un; omega
theorem SE_cmp {op : CO} {f g : DL} {l r : Expr} {pos : Pos} (ha : SL W n sc f l) (hb : SL W n sc g r) (hm : behindInMarks op.real r = false) : SE W n sc (eCmp op f g) (.Compare l [op.real] [r] pos) := by
  intro A env σ m K s d E hs e ok R rm
  unfold eCmp at e
  split at e
  · rename_i a b q1 q2
    split at e
    · rename_i c q3
      cases e
      refine wpAny_Compare1 (wpAny_mono (ha A env σ m K s a E hs q1 ok R rm) (fun v₁ s₁ ⟨K₁, x₁, i₁⟩ => ?_) fun _ _ h => h) hm
      refine wpAny_mono (hb A env σ m K₁ s₁ b E hs q2 x₁.ok (R.ext x₁) rm) (fun v₂ s₂ ⟨K₂, x₂, i₂⟩ => ?_) fun _ _ h => h
      exact wpAny_mono (cmp_sound x₂.ok rm.u72 (i₁.ext x₂).view i₂.view q3) (fun v s' h => .trans (x₁.trans x₂) (h.rv x₂.ok)) fun _ _ h => h
    · cases e
  · cases e
theorem SB_cmp {op : CO} {f g : DL} {l r : Expr} {pos : Pos} (ha : SL W n sc f l) (hb : SL W n sc g r) (hm : behindInMarks op.real r = false) : SB W n sc (bCmp op f g) (.Compare l [op.real] [r] pos) := by
  intro A env σ m K s d E hs e ok R rm
  unfold bCmp at e
  split at e
  · rename_i a b q1 q2
    refine wpAny_isTrue_Compare1 (wpAny_mono (ha A env σ m K s a E hs q1 ok R rm) (fun v₁ s₁ ⟨K₁, x₁, i₁⟩ => ?_) fun _ _ h => h) hm
    refine wpAny_mono (hb A env σ m K₁ s₁ b E hs q2 x₁.ok (R.ext x₁) rm) (fun v₂ s₂ ⟨K₂, x₂, i₂⟩ => ?_) fun _ _ h => h
    refine wpAny_mono (cmp_sound x₂.ok rm.u72 (i₁.ext x₂).view i₂.view e) (fun v s' h => ?_) fun _ _ h => h
    obtain ⟨rfl, k, hk, rfl⟩ := h
    exact wpAny_truthy_bool ⟨rfl, _, (x₁.trans x₂).trans (.toks x₂.ok hk)⟩
  · cases e
theorem SB_cmp2 {o1 o2 : CO} {f g h : DL} {l r t : Expr} {pos : Pos} (ha : SL W n sc f l) (hb : SL W n sc g r) (hc : SL W n sc h t) (hm : lastMarks [o1.real, o2.real] [r, t] = false) :
    SB W n sc (bCmp2 o1 o2 f g h) (.Compare l [o1.real, o2.real] [r, t] pos) := by
  intro A env σ m K s d E hs e ok R rm
  unfold bCmp2 at e
  split at e
  · rename_i a b q1 q2
    refine isTrue_chain (wpAny_mono (ha A env σ m K s a E hs q1 ok R rm) (fun v₁ s₁ ⟨K₁, x₁, i₁⟩ => ?_) fun _ _ h => h) hm
    refine test_link (wpAny_mono (hb A env σ m K₁ s₁ b E hs q2 x₁.ok (R.ext x₁) rm) (fun v₂ s₂ ⟨K₂, x₂, i₂⟩ => ?_) fun _ _ h => h)
    split at e
    · rename_i q3
      refine wpAny_mono (cmp_sound x₂.ok rm.u72 (i₁.ext x₂).view i₂.view q3) (fun v s' h => ?_) fun _ _ h => h
      obtain ⟨rfl, k, hk, rfl⟩ := h
      refine wpAny_truthy_bool ?_
      rw [if_pos rfl]
      have x₃ : Ext W K₂ s₂ K₂ { s₂ with toks := k } := .toks x₂.ok hk
      split at e
      · rename_i c q4
        refine test_last (wpAny_mono (hc A env σ m K₂ _ c E hs q4 x₃.ok ((R.ext (x₁.trans x₂)).ext x₃) rm) (fun v₃ s₃ ⟨K₃, x₄, i₃⟩ => ?_) fun _ _ h => h)
        refine wpAny_mono (cmp_sound x₄.ok rm.u72 (i₂.ext (x₃.trans x₄)).view i₃.view e) (fun v s' h => ?_) fun _ _ h => h
        obtain ⟨rfl, k, hk, rfl⟩ := h
        exact wpAny_truthy_bool ⟨rfl, _, (((x₁.trans x₂).trans x₃).trans x₄).trans (.toks x₄.ok hk)⟩
      · cases e
    · rename_i q3
      cases e
      refine wpAny_mono (cmp_sound x₂.ok rm.u72 (i₁.ext x₂).view i₂.view q3) (fun v s' h => ?_) fun _ _ h => h
      obtain ⟨rfl, k, hk, rfl⟩ := h
      refine wpAny_truthy_bool ?_
      rw [if_neg (by simp)]
      exact ⟨rfl, _, (x₁.trans x₂).trans (.toks x₂.ok hk)⟩
    · cases e
  · cases e
theorem SB_val {f : DE} {e : Expr} (ha : SE W n sc f e) (he : ∀ env whole, isTrue e env whole = (do let v ← whole; standAt e.pos; holding [v] (truthy v))) : SB W n sc (bVal f) e := by
  intro A env σ m K s d E hs eq ok R rm
  unfold bVal at eq
  split at eq
  · rename_i b q
    cases eq
    refine wpAny_isTrue_value (wpAny_mono (ha A env σ m K s _ E hs q ok R rm) (fun v s₁ ⟨K₁, x₁, i₁⟩ => ?_) fun _ _ h => h) (he _ _)
    cases i₁.told
    exact wpAny_truthy_bool ⟨rfl, _, x₁⟩
  · cases eq
theorem SB_not {f : DB} {e : Expr} {pos : Pos} (ha : SB W n sc f e) : SB W n sc (bNot f) (.UnaryOp .Not e pos) := by
  intro A env σ m K s d E hs eq ok R rm
  unfold bNot at eq
  split at eq
  · rename_i b q
    cases eq
    refine wpAny_isTrue_Not (wpAny_mono (ha A env σ m K s _ E hs q ok R rm) (fun v s₁ ⟨h, K₁, x₁⟩ => ?_) fun _ _ h => h)
    subst h; exact ⟨rfl, _, x₁⟩
  · cases eq
theorem SB_and {f g : DB} {a b : Expr} {pos : Pos} (ha : SB W n sc f a) (hb : SB W n sc g b) : SB W n sc (bAnd f g) (.BoolOp .And [a, b] pos) := by
  intro A env σ m K s d E hs eq ok R rm
  refine wpAny_isTrue_BoolOp (wpAny_allTrue_And_cons ?_)
  unfold bAnd at eq
  split at eq
  · rename_i q
    refine wpAny_mono (ha A env σ m K s _ E hs q ok R rm) (fun v s₁ ⟨h, K₁, x₁⟩ => ?_) fun _ _ h => h
    subst h
    rw [if_pos rfl]
    refine wpAny_allTrue_And_cons (wpAny_mono (hb A env σ m K₁ s₁ _ E hs eq x₁.ok (R.ext x₁) rm) (fun v s₂ ⟨h, K₂, x₂⟩ => ?_) fun _ _ h => h)
    subst h
    cases v with
    | true => rw [if_pos rfl]; exact wpAny_allTrue_And_nil ⟨rfl, _, x₁.trans x₂⟩
    | false => rw [if_neg (by simp)]; exact ⟨rfl, _, x₁.trans x₂⟩
  · rename_i q
    cases eq
    refine wpAny_mono (ha A env σ m K s _ E hs q ok R rm) (fun v s₁ ⟨h, K₁, x₁⟩ => ?_) fun _ _ h => h
    subst h
    rw [if_neg (by simp)]; exact ⟨rfl, _, x₁⟩
  · cases eq
theorem SB_or {f g : DB} {a b : Expr} {pos : Pos} (ha : SB W n sc f a) (hb : SB W n sc g b) : SB W n sc (bOr f g) (.BoolOp .Or [a, b] pos) := by
  intro A env σ m K s d E hs eq ok R rm
  refine wpAny_isTrue_BoolOp (wpAny_allTrue_Or_cons ?_)
  unfold bOr at eq
  split at eq
  · rename_i q
    cases eq
    refine wpAny_mono (ha A env σ m K s _ E hs q ok R rm) (fun v s₁ ⟨h, K₁, x₁⟩ => ?_) fun _ _ h => h
    subst h
    rw [if_pos rfl]; exact ⟨rfl, _, x₁⟩
  · rename_i q
    refine wpAny_mono (ha A env σ m K s _ E hs q ok R rm) (fun v s₁ ⟨h, K₁, x₁⟩ => ?_) fun _ _ h => h
    subst h
    rw [if_neg (by simp)]
    refine wpAny_allTrue_Or_cons (wpAny_mono (hb A env σ m K₁ s₁ _ E hs eq x₁.ok (R.ext x₁) rm) (fun v s₂ ⟨h, K₂, x₂⟩ => ?_) fun _ _ h => h)
    subst h
    cases v with
    | true => rw [if_pos rfl]; exact ⟨rfl, _, x₁.trans x₂⟩
    | false => rw [if_neg (by simp)]; exact wpAny_allTrue_Or_nil ⟨rfl, _, x₁.trans x₂⟩
  · cases eq
theorem SB_ite {c f g : DB} {t a b : Expr} {pos : Pos} (hc : SB W n sc c t) (ha : SB W n sc f a) (hb : SB W n sc g b) : SB W n sc (bIte c f g) (.IfExp t a b pos) := by
  intro A env σ m K s d E hs eq ok R rm
  have go : ∀ {Q : Bool → Shared → Prop}, wpAny (model W.prog W.w) A (isTrue t env (eval t env)) (fun v s₁ => if v = true then wpAny (model W.prog W.w) A (isTrue a env (eval a env)) Q E s₁ else wpAny (model W.prog W.w) A (isTrue b env (eval b env)) Q E s₁) E s →
      wpAny (model W.prog W.w) A (isTrue (.IfExp t a b pos) env (eval (.IfExp t a b pos) env)) Q E s := by
    intro Q h
    show wpAny _ A (do if ← isTrue t env (eval t env) then isTrue a env (eval a env) else isTrue b env (eval b env)) Q E s
    refine wpAny_bind (wpAny_mono h (fun v s₁ h₁ => ?_) fun _ _ x => x)
    cases v <;> exact h₁
  refine go ?_
  unfold bIte at eq
  split at eq
  · rename_i q
    refine wpAny_mono (hc A env σ m K s _ E hs q ok R rm) (fun v s₁ ⟨h, K₁, x₁⟩ => ?_) fun _ _ h => h
    subst h
    rw [if_pos rfl]
    exact wpAny_mono (ha A env σ m K₁ s₁ _ E hs eq x₁.ok (R.ext x₁) rm) (fun v s₂ h => .trans x₁ h) fun _ _ h => h
  · rename_i q
    refine wpAny_mono (hc A env σ m K s _ E hs q ok R rm) (fun v s₁ ⟨h, K₁, x₁⟩ => ?_) fun _ _ h => h
    subst h
    rw [if_neg (by simp)]
    exact wpAny_mono (hb A env σ m K₁ s₁ _ E hs eq x₁.ok (R.ext x₁) rm) (fun v s₂ h => .trans x₁ h) fun _ _ h => h
  · cases eq
theorem SE_ite {c : DB} {f g : DE} {t a b : Expr} {pos : Pos} (hc : SB W n sc c t) (ha : SE W n sc f a) (hb : SE W n sc g b) : SE W n sc (eIte c f g) (.IfExp t a b pos) := by
  intro A env σ m K s d E hs eq ok R rm
  refine wpAny_IfExp ?_
  unfold eIte at eq
  split at eq
  · rename_i q
    refine wpAny_mono (hc A env σ m K s _ E hs q ok R rm) (fun v s₁ ⟨h, K₁, x₁⟩ => ?_) fun _ _ h => h
    subst h
    rw [if_pos rfl]
    exact wpAny_mono (ha A env σ m K₁ s₁ _ E hs eq x₁.ok (R.ext x₁) rm) (fun v s₂ h => .trans x₁ h) fun _ _ h => h
  · rename_i q
    refine wpAny_mono (hc A env σ m K s _ E hs q ok R rm) (fun v s₁ ⟨h, K₁, x₁⟩ => ?_) fun _ _ h => h
    subst h
    rw [if_neg (by simp)]
    exact wpAny_mono (hb A env σ m K₁ s₁ _ E hs eq x₁.ok (R.ext x₁) rm) (fun v s₂ h => .trans x₁ h) fun _ _ h => h
  · cases eq
theorem SE_idx {f g : DL} {a b : Expr} {pos : Pos} (ha : SL W n sc f a) (hb : SL W n sc g b) (hs' : ∀ o i, subscripted b false o i = operate [o, i] (getItem o i)) : SE W n sc (eIdx f g) (.Subscript a b pos) := by
  intro A env σ m K s d E hs e ok R rm
  unfold eIdx at e
  split at e
  · rename_i x y q1 q2
    refine Subscript_ (wpAny_mono (ha A env σ m K s x E hs q1 ok R rm) (fun v₁ s₁ ⟨K₁, x₁, i₁⟩ => ?_) fun _ _ h => h)
    refine wpAny_mono (hb A env σ m K₁ s₁ y E hs q2 x₁.ok (R.ext x₁) rm) (fun v₂ s₂ ⟨K₂, x₂, i₂⟩ => ?_) fun _ _ h => h
    obtain ⟨T, id, hT, hl, hg⟩ := idx_sound (A := A) (E := E) x₂.ok (i₁.ext x₂).view i₂.view e
    exact tail_any hT hl (wpAny_mono hg (fun v s' h => .trans (x₁.trans x₂) h) fun _ _ h => h) (hs' _ _)
  · cases e

/-- a part of a slice -/
noncomputable def SO (W : Wd) (n : Nat) (sc : Scope) (f : Option DE) (e : Option Expr) : Prop := match f, e with
  | none, none => True
  | some f, some e => SE W n sc f e
  | _, _ => False
theorem part_sound {f : Option DE} {e : Option Expr} (h : SO W n sc f e) {A : Around} {env : Env} {σ : Sto} {m : Str → Option Value} {K : KM} {s : Shared} {i : Option Int} {E : Value → Shared → Prop} (hs : env.scope = sc) (q : oInt f σ = some i) (ok : Ok W K s) (R : RdOk W K env s.heap m σ) (rm : Room W A n) :
    wpAny (model W.prog W.w) A (evalPart e env) (fun v s' => ∃ K', Ext W K s K' s' ∧ IsPart v i) E s := by
  unfold SO at h
  split at h
  · cases q
    exact wpAny_evalPart_none ⟨K, .refl ok, .none⟩
  · unfold oInt at q
    simp only at q
    split at q
    · rename_i j q'
      cases q
      refine wpAny_evalPart_some (wpAny_mono (h A env σ m K s _ E hs q' ok R rm) (fun v s₁ ⟨K₁, x₁, i₁⟩ => ?_) fun _ _ h => h)
      obtain ⟨_, rfl⟩ := i₁.int_inv
      exact ⟨K₁, x₁, .int _ _⟩
    · cases q
  · exact h.elim
theorem SE_cut (G : Good W) {f : DL} {lo hi : Option DE} {a : Expr} {l u : Option Expr} {p pos : Pos} (ha : SL W n sc f a) (hl : SO W n sc lo l) (hu : SO W n sc hi u) : SE W n sc (eCut f lo hi) (.Subscript a (.Slice l u none p) pos) := by
  intro A env σ m K s d E hs e ok R rm
  unfold eCut at e
  split at e
  · rename_i x il iu q1 q2 q3
    refine Subscript_ (wpAny_mono (ha A env σ m K s x E hs q1 ok R rm) (fun v₁ s₁ ⟨K₁, x₁, i₁⟩ => ?_) fun _ _ h => h)
    refine wpAny_Slice (wpAny_mono (part_sound hl hs q2 x₁.ok (R.ext x₁) rm) (fun vl s₂ ⟨K₂, x₂, i₂⟩ => ?_) fun _ _ h => h)
    refine wpAny_mono (part_sound hu hs q3 x₂.ok (R.ext (x₁.trans x₂)) rm) (fun vu s₃ ⟨K₃, x₃, i₃⟩ => ?_) fun _ _ h => h
    refine wpAny_evalPart_none ?_
    have x₄ : Ext W K₃ s₃ K₃ { s₃ with heap := s₃.heap.push { cls := .type "slice", data := .fields #[vl, vu, .none] } } := Ext.same x₃.ok (n := s₃.toks) (fun _ _ e => Heap.get?_push_of_some _ e) (Nat.le_refl _)
    have x' := ((x₁.trans x₂).trans x₃).trans x₄
    obtain ⟨T, id, hT, hl, hg⟩ := cut_sound (A := A) (E := E) (sl := s₃.heap.objs.size) G x₄.ok (i₁.ext ((x₂.trans x₃).trans x₄)).view ⟨_, Heap.get?_push_size _ rfl, rfl, rfl⟩ i₂ i₃ e
    exact tail_any hT hl (wpAny_mono hg (fun v s' h => .trans x' h) fun _ _ h => h) rfl
  · cases e

theorem SLs_nil : SLs W n sc aNil [] := by
  refine ⟨fun _ _ => rfl, fun _ _ => rfl, ?_⟩
  intro A env σ m K s ds E pos hs e ok R rm
  cases e
  exact wpAny_pure ⟨K, .refl ok, .nil⟩
theorem SLs_cons {f : DE} {g : Sto → Option (List D)} {e : Expr} {es : List Expr} (ha : SE W n sc f e) (hb : SLs W n sc g es) (hst : ∀ env, starEach (e :: es) env = (false, eval e env) :: starEach es env) : SLs W n sc (aCons f g) (e :: es) := by
  have hback : ∀ pos env, backTo pos (starEach (e :: es) env) = (false, eval e env) :: backTo pos (starEach es env) := fun pos env => by rw [hst]; rfl
  refine ⟨fun pos env => by rw [hback]; simpa using hb.1 pos env, fun pos env => by rw [hback]; simpa using hb.2.1 pos env, ?_⟩
  intro A env σ m K s ds E pos hs eq ok R rm
  unfold aCons at eq
  split at eq
  · rename_i a l q1 q2
    cases eq
    rw [hback]
    refine spliced_cons (wpAny_mono (ha A env σ m K s a E hs q1 ok R rm) (fun v s₁ ⟨K₁, x₁, i₁⟩ => ?_) fun _ _ h => h)
    exact wpAny_mono (hb.2.2 A env σ m K₁ s₁ l E pos hs q2 x₁.ok (R.ext x₁) rm) (fun vs s₂ ⟨K₂, x₂, i₂⟩ => ⟨K₂, x₁.trans x₂, .cons (i₁.mono x₂.kk) i₂⟩) fun _ _ h => h
  · cases eq
theorem SE_tup (G : Good W) {g : Sto → Option (List D)} {es : List Expr} {k : Nat} {pos : Pos} (ha : SLs W n sc g es) : SE W n sc (eTup g) (.Tuple es k pos) := by
  intro A env σ m K s d E hs e ok R rm
  unfold eTup at e
  split at e
  · split at e
    · rename_i l q hl
      cases e
      refine wpAny_Tuple (wpAny_mono (ha.2.2 A env σ m K s l E pos hs q ok R rm) (fun vs s₁ ⟨K₁, x₁, i₁⟩ => ?_) fun _ _ h => h)
      have := i₁.length
      have := line_le
      exact ⟨by omega, _, x₁.trans (Ext.push (n := s₁.toks) G x₁.ok (Nat.le_refl _)), .tup (putK_self _ _ _) rfl rfl (by simpa using i₁.mono fun a o e => putK_of (x₁.ok.noneK (get_size_none _)) e)⟩
    · cases e
  · cases e
theorem SE_lst (G : Good W) {g : Sto → Option (List D)} {es : List Expr} {pos : Pos} (ha : SLs W n sc g es) : SE W n sc (eLst g) (.List es pos) := by
  intro A env σ m K s d E hs e ok R rm
  unfold eLst at e
  split at e
  · split at e
    · rename_i l q hl
      cases e
      refine wpAny_List (wpAny_mono (ha.2.2 A env σ m K s l E pos hs q ok R rm) (fun vs s₁ ⟨K₁, x₁, i₁⟩ => ?_) fun _ _ h => h)
      have := i₁.length
      have := line_le
      exact ⟨by omega, _, x₁.trans (Ext.push (n := s₁.toks) G x₁.ok (Nat.le_refl _)), .lst (putK_self _ _ _) rfl rfl (by simpa using i₁.mono fun a o e => putK_of (x₁.ok.noneK (get_size_none _)) e)⟩
    · cases e
  · cases e
end
end Mine
namespace Mine
open PySem PySem.W PySem.Calls PyProof.Rows
open PySem.Builtin.Str (tooLong)

/-- a callable, called with frozen data -/
noncomputable def CallOk (W : Wd) (n : Nat) (v : Value) (f : List D → Option D) : Prop :=
  ∀ (A : Around) (K : KM) (s : Shared) (vs : List Value) (ds : List D) (r : D) (E : Value → Shared → Prop), Room W A n → Ok W K s → AllD W K vs ds → f ds = some r → wpAny (model W.prog W.w) A (call v vs) (RV W K s r) E s
/-- a function of the text -/
noncomputable def FnOk (W : Wd) (n : Nat) (x : Str) (f : List D → Option D) : Prop :=
  ∃ a o fd, W.mg x = some (.ref a) ∧ W.hB.get? a = some o ∧ a ≠ W.PT ∧ o.data = .func fd ∧ CallOk W n (.ref a) f
theorem CallOk.low {W : Wd} {n k : Nat} {v : Value} {f : List D → Option D} (h : CallOk W n v f) (hk : n ≤ k) : CallOk W k v f := fun A K s vs ds r E rm ok ha e => h A K s vs ds r E (rm.low hk) ok ha e

section
variable {W : Wd} {n : Nat} {sc : Scope}

theorem evalArgs_of {M : Model} {A : Around} {E : Value → Shared → Prop} {s : Shared} {f : Value} {trees : List (Bool × Sem Value)} {Q : Args → Shared → Prop} (hp : trees.any (·.1) = false) (h : wpAny M A (spliced trees) (fun vs s' => Q ⟨vs, []⟩ s') E s) :
    wpAny M A (evalArgs f true trees []) Q E s := by
  cases trees with
  | nil =>
    unfold evalArgs
    refine wpAny_bind (wpAny_mono h (fun vs s' h' => ?_) fun _ _ x => x)
    refine wpAny_holding ?_
    exact wpAny_bind (wpAny_pure (wpAny_bind (wpAny_pure (wpAny_pure h'))))
  | cons t r =>
    obtain ⟨b, x⟩ := t
    simp only [List.any_cons, Bool.or_eq_false_iff] at hp
    obtain ⟨rfl, _⟩ := hp
    exact evalArgs_plain h

theorem ExtB.freeze {W : Wd} {B : Addr → Prop} {K K' : KM} {s s' : Shared} {a : Addr} {o : Obj} (x : ExtB W B K s K' s') (ha : B a ∨ s.heap.get? a = none) (w : Own W K' a) (ho : s'.heap.get? a = some o) : ExtB W B K s (putK K' a o) s' :=
  { keep := x.keep
    lf := x.lf
    tab := x.tab
    kk := fun b o' e => putK_of w.1 (x.kk b o' e)
    ok := ⟨x.ok.base, fun b o' e => by
        unfold putK at e
        split at e
        · rename_i q; subst q; cases e; exact ho
        · exact x.ok.sub b o' e, by unfold putK; rw [if_neg (Ne.symm w.2.1.1)]; exact x.ok.pt, by unfold putK; rw [if_neg (Ne.symm w.2.1.2)]; exact x.ok.lf, x.ok.live, x.ok.b0, x.ok.tk⟩
    fr := fun b o' e => by
      unfold putK at e
      split at e
      · rename_i q; subst q; exact .inr ha.symm
      · exact x.fr b o' e
    os := x.os
    gens := x.gens
    tk := x.tk }

theorem SE_call (G : Good W) {k : Nat} {x : Str} {f : List D → Option D} {g : Sto → Option (List D)} {es : List Expr} {p pos : Pos} (hf : FnOk W k x f) (hkn : Nat.ble k n = true) (hk : sc.names.lookup x = some .globalImplicit) (hd : (x == ("__debug__" : Str)) = false) (ha : SLs W n sc g es) :
    SE W n sc (eApp f g) (.Call (.Name x p) es [] pos) := by
  intro A env σ m K s d E hs e ok R rm
  unfold eApp at e
  split at e
  · rename_i l q
    refine hide fun GG kk => ?_
    obtain ⟨a, o, fd, hg, ho, hpt, hda, hc⟩ := hf
    refine kk ?_
    clear kk GG
    refine Call_Name rfl (wpAny_Name ?_ hd)
    rw [loadName_read R.kind (by rw [Env.kindOf, hs]; exact hk)]
    refine loadGlobal_global (by rw [R.gl]; exact ok.g G) hg ?_
    refine callWith_function (o := o) (fd := fd) (evalArgs_of (ha.1 _ _) (wpAny_mono (ha.2.2 A env σ m K s l E pos hs q ok R rm) (fun vs s₁ ⟨K₁, x₁, i₁⟩ => ?_) fun _ _ h => h))
    refine ⟨⟨x₁.ok.keepB G hpt ho, hda⟩, ?_⟩
    exact wpAny_mono (hc A K₁ s₁ vs l d E (rm.low (Nat.le_of_ble_eq_true hkn)) x₁.ok i₁ e) (fun v s' h => .trans x₁ h) fun _ _ h => h
  · cases e
theorem Room.u100 {A : Around} (r : Room W A n) : A.units + 100 < cLine := by have := r.un; omega
theorem SE_bi (G : Good W) {x : Str} {id : String} {f : List D → Option D} {g : Sto → Option (List D)} {es : List Expr} {p pos : Pos} (hf : BiOk W id f) (hm : W.mg x = none) (hb : W.mb x = some (.builtin id)) (hk : sc.names.lookup x = some .globalImplicit) (hd : (x == ("__debug__" : Str)) = false)
    (ha : SLs W n sc g es) : SE W n sc (eApp f g) (.Call (.Name x p) es [] pos) := by
  intro A env σ m K s d E hs e ok R rm
  unfold eApp at e
  split at e
  · rename_i l q
    refine Call_Name rfl (wpAny_Name ?_ hd)
    rw [loadName_read R.kind (by rw [Env.kindOf, hs]; exact hk)]
    refine loadGlobal_builtin (by rw [R.gl]; exact ok.g G) hm (by rw [R.bi]; exact ok.b G) hb ?_
    refine callWith_builtin (ha.1 _ _) (evalArgs_of (ha.1 _ _) (wpAny_mono (ha.2.2 A env σ m K s l E pos hs q ok R rm) (fun vs s₁ ⟨K₁, x₁, i₁⟩ => ?_) fun _ _ h => h))
    exact wpAny_mono (hf A K₁ s₁ vs l d E rm.hh rm.u100 x₁.ok i₁ e) (fun v s' h => .trans x₁ h) fun _ _ h => h
  · cases e

/-! methods of str -/
noncomputable def eMeth (f : List D → Option D) (fo : DE) (g : Sto → Option (List D)) : DE := fun σ => match fo σ, g σ with
  | some o, some l => f (o :: l)
  | _, _ => none
theorem SE_meth {name : Str} {id : String} {f : List D → Option D} {fo : DE} {g : Sto → Option (List D)} {o : Expr} {es : List Expr} {apos pos : Pos} (slot : Slot "str" name id) (ty : typeOf (.builtin id) = pure (.type "method_descriptor")) (hf : BiOk W id f)
    (hst : ∀ d l, (f (d :: l)).isSome = true → ∃ x, d = .str x) (ho : SE W n sc fo o) (ha : SLs W n sc g es) (hbase : ∀ env, attributeBase o name env (eval o env) = eval o env)
    (hfew : ∀ env, ((backTo pos (starEach es env)).all (fun x => !x.1) && (backToKw pos (keywordEach [] env)).all (fun x => x.1.isSome) && decide (es.length + ([] : List Keyword).length + (if ([] : List Keyword).isEmpty then 0 else 1) < 30)) = true)
    (hline : (apos.endLine == pos.line) = true) : SE W n sc (eMeth f fo g) (.Call (.Attribute o name apos) es [] pos) := by
  intro A env σ m K s d E hs e ok R rm
  unfold eMeth at e
  split at e
  · rename_i od l q1 q2
    obtain ⟨x, rfl⟩ := hst od l (by rw [e]; rfl)
    refine wpAny_Call_method_late (hbase env) (hfew env) hline rfl (wpAny_mono (ho A env σ m K s _ E hs q1 ok R rm) (fun ov s₁ ⟨K₁, x₁, i₁⟩ => ?_) fun _ _ h => h)
    obtain ⟨t, rfl⟩ := i₁.str_inv
    refine ⟨"str", id, F.plainAttrs_str, slot, ty, typeIs_str _ _ _, fun _ h => (nomatch h), ?_⟩
    refine callWith_builtin (ha.1 _ _) (evalArgs_of (ha.1 _ _) (wpAny_mono (ha.2.2 A env σ m K₁ s₁ l E pos hs q2 x₁.ok (R.ext x₁) rm) (fun vs s₂ ⟨K₂, x₂, i₂⟩ => ?_) fun _ _ h => h))
    exact wpAny_mono (hf A K₂ s₂ _ _ d E rm.hh rm.u100 x₂.ok (.cons (.str x t) i₂) e) (fun v s' h => .trans (x₁.trans x₂) h) fun _ _ h => h
  · cases e

/-- o.replace(y, z) with two texts that are written out -/
noncomputable def eRepl (y z : Str) (fo : DE) : DE := fun σ => match fo σ with
  | some (.str x) => if x.length ≤ 1000 ∧ (y == z) = false ∧ z.length ≤ 14 then some (.str (Txt.replace x y z)) else none
  | _ => none
theorem SE_repl {y z : Str} {fo : DE} {o : Expr} {k1 k2 : Nat} {p1 p2 apos pos : Pos} (ho : SE W n sc fo o) (hbase : ∀ env, attributeBase o "replace" env (eval o env) = eval o env) (hline : (apos.endLine == pos.line) = true) :
    SE W n sc (eRepl y z fo) (.Call (.Attribute o "replace" apos) [.Constant (.str y) k1 p1, .Constant (.str z) k2 p2] [] pos) := by
  intro A env σ m K s d E hs e ok R rm
  unfold eRepl at e
  split at e
  · rename_i x q
    split at e
    · rename_i hc
      cases e
      refine wpAny_Call_method_late (hbase env) rfl hline rfl (wpAny_mono (ho A env σ m K s _ E hs q ok R rm) (fun ov s₁ ⟨K₁, x₁, i₁⟩ => ?_) fun _ _ h => h)
      obtain ⟨t, rfl⟩ := i₁.str_inv
      refine ⟨"str", "str.replace", F.plainAttrs_str, F.slot_str_replace, F.type_str_replace, typeIs_str _ _ _, fun _ h => (nomatch h), ?_⟩
      refine callWith_builtin rfl (evalArgs_of rfl ?_)
      refine spliced_cons (wpAny_Constant_str (k := k1) (pos := p1) (spliced_cons (wpAny_Constant_str (k := k2) (pos := p2) (wpAny_pure ?_))))
      have h1 := x₁.ok.tk
      refine wpAny_with_toks (n := s₁.toks) (Nat.le_succ_of_le (Nat.le_succ _)) ?_
      refine SC.replaceW (by show (s₁.toks : Nat) ≠ 0; omega) (by show (s₁.toks + 1 : Nat) ≠ 0; omega) (by show (s₁.toks : Nat) ≠ s₁.toks + 1; omega) hc.2.1 (by omega) hc.2.2 fun t' k hk => ?_
      exact .trans x₁ (.here x₁.ok hk (.str _ _))
    · cases e
  · cases e

/-! dicts -/
theorem size_ne_sys (G : Good W) {K : KM} {s : Shared} (ok : Ok W K s) : (s.heap.objs.size == sysModules) = false := by
  have := ok.size G
  have h1 : sysModules = 1 := rfl
  rw [beq_eq_false_iff_ne, h1]; omega
theorem new_dict {h : Heap} : (h.push { cls := .type "dict", data := .dict #[] }).DictOf W.ik h.objs.size [] := Heap.DictOf.new ..
theorem SE_dct0 (G : Good W) {pos : Pos} : SE W n sc (eLit (.dct [] [])) (.Dict [] [] pos) := by
  intro A env σ m K s d E hs e ok R rm
  cases e
  refine wpAny_Dict_empty ?_
  obtain ⟨o, ho, hd⟩ := Heap.dictOf_iff.mp (new_dict (W := W) (h := s.heap))
  exact ⟨_, Ext.add (n := s.toks) G ok (fun _ _ e => Heap.get?_push_of_some _ e) (Nat.le_refl _) (get_size_none _) ho, .dct (kvs := []) (putK_self _ _ _) (size_ne_sys G ok) hd .nil⟩
theorem SE_dct1 (G : Good W) {f g : DE} {ke ve : Expr} {pos : Pos} (ha : SE W n sc f ke) (hb : SE W n sc g ve) : SE W n sc (eDct1 f g) (.Dict [some ke] [ve] pos) := by
  intro A env σ m K s d E hs e ok R rm
  unfold eDct1 at e
  split at e
  · rename_i k v q1 q2
    cases e
    have x₀ : Ext W K s K { s with heap := s.heap.push { cls := .type "dict", data := .dict #[] } } := Ext.same (n := s.toks) ok (fun _ _ e => Heap.get?_push_of_some _ e) (Nat.le_refl _)
    refine wpAny_Dict_walk (knd := W.ik) rfl rfl (by simp) (by simp) ?_
    refine evalPairs_cons (wpAny_mono (ha A env σ m K _ _ E hs q1 x₀.ok (R.ext x₀) rm) (fun vk s₁ ⟨K₁, x₁, i₁⟩ => ?_) fun _ _ h => h)
    refine wpAny_bind (wpAny_mono (hb A env σ m K₁ s₁ _ E hs q2 x₁.ok (R.ext (x₀.trans x₁)) rm) (fun vv s₂ ⟨K₂, x₂, i₂⟩ => wpAny_bind (wpAny_standAt (wpAny_pure ?_))) fun _ _ h => h)
    obtain ⟨t, rfl⟩ := i₁.int_inv
    refine evalPairs_nil ⟨[(k, vv)], ⟨intKind_is _ _ _ _, rfl, trivial⟩, ?_, fun h' hd hs' => ?_⟩
    · exact (new_dict (W := W)).at fun o ho => (x₁.trans x₂).le.keep _ _ (ok.fr_fresh G (get_size_none _)) ho
    · have w : Own W K₂ s.heap.objs.size := (Own.fresh (W := W) G ok (get_size_none _)).ext (x₁.trans x₂) (Heap.get?_push_size _ rfl)
      have x₃ : ExtB W (· = s.heap.objs.size) K₂ s₂ K₂ { s₂ with heap := h', toks := s₂.toks + 1 } := ExtB.upds x₂.ok (by rintro a rfl; exact w) (fun b o nb e => (hs'.2 b nb).trans e) (Nat.le_succ _)
      obtain ⟨o, ho, hd'⟩ := Heap.dictOf_iff.mp hd
      have x₄ : ExtB W (· = s.heap.objs.size) K s K₂ { s₂ with heap := h', toks := s₂.toks + 1 } := ((x₀.trans x₁).trans x₂).toB.trans x₃ fun a h => .inl h
      have x₅ := (x₄.freeze (.inl rfl) w ho).toExt (by rintro a rfl; exact get_size_none _)
      exact ⟨_, x₅, .dct (kvs := [(k, vv)]) (putK_self _ _ _) (size_ne_sys G ok) hd' (.cons (i₂.mono fun b o' e => putK_of w.1 e) .nil)⟩
  · cases e
end
end Mine
namespace Mine
open PySem PySem.W PySem.Calls PyProof.Rows

/-- an iterator that gives ds; it writes to wr alone -/
structure Src (W : Wd) (A : Around) (tgt : Expr) (I : Value) (wr : List Addr) (ds : List D) (St : Nat → KM → Heap → Prop) : Prop where
  out : ∀ i K h, St i K h → ∀ a ∈ wr, Own W K a ∧ ∃ o, h.get? a = some o
  frame : ∀ i K h K' h', St i K h → (∀ a o, K a = some o → K' a = some o) → (∀ a o, K' a = some o → h'.get? a = some o) → (∀ a ∈ wr, Own W K' a) → (∀ a ∈ wr, ∀ o, h.get? a = some o → h'.get? a = some o) → St i K' h'
  item : ∀ i (K : KM) (s : Shared) d (E : Value → Shared → Prop), ds[i]? = some d → Ok W K s → St i K s.heap → wpAny (model W.prog W.w) A (pyNext I) (fun r s₁ => ∃ v, r = some v ∧ wpAny (model W.prog W.w) A (letOwnedTupleGo tgt I v) (fun _ s₂ => ∃ K₂, ExtB W (· ∈ wr) K s K₂ s₂ ∧ IsD W K₂ v d ∧ St (i + 1) K₂ s₂.heap) E s₁) E s
  done : ∀ (K : KM) (s : Shared) (E : Value → Shared → Prop), Ok W K s → St ds.length K s.heap → wpAny (model W.prog W.w) A (pyNext I) (fun r s₁ => r = none ∧ ExtB W (· ∈ wr) K s K s₁) E s
  self : ∀ i (K : KM) (s : Shared) (Q : Value → Shared → Prop) (E : Value → Shared → Prop), St i K s.heap → Q I s → wpAny (model W.prog W.w) A (pyIter I) Q E s

/-- how the places of an iterator stand -/
noncomputable def StW (W : Wd) (K₀ : KM) (fp wr : List Addr) (St : Nat → Heap → Prop) (i : Nat) (K : KM) (h : Heap) : Prop :=
  St i h ∧ (∀ a o, K₀ a = some o → K a = some o) ∧ (∀ b ∈ fp, b ∉ wr → ∃ o, K b = some o ∧ h.get? b = some o) ∧ ∀ a ∈ wr, Own W K a ∧ ∃ o, h.get? a = some o

theorem ne_of_own {W : Wd} {K : KM} {a b : Addr} {o : Obj} (w : Own W K a) (e : K b = some o) : b ≠ a := by rintro rfl; rw [w.1] at e; cases e

theorem Src.ofWalks {W : Wd} {A : Around} {tgt : Expr} {I : Addr} {fp wr : List Addr} {n : Nat} {P : Nat → Value → Prop} {St : Nat → Heap → Prop} {ds : List D} {K₀ : KM} (Wk : Walks W.prog W.w A I fp wr n P St)
    (hn : ds.length = n) (hP : ∀ i v d, ds[i]? = some d → P i v → IsD W K₀ v d) (live : ∀ i h a, St i h → a ∈ wr → ∃ o, h.get? a = some o)
    (hgo : ∀ i (s : Shared) v (Q : Unit → Shared → Prop) (E : Value → Shared → Prop), St i s.heap → Q () s → wpAny (model W.prog W.w) A (letOwnedTupleGo tgt (.ref I) v) Q E s) :
    Src W A tgt (.ref I) wr ds (StW W K₀ fp wr St) where
  out := fun i K h st => st.2.2.2
  frame := fun i K h K' h' st hk hs ho hw => by
    refine hide fun GG kk => ?_
    obtain ⟨st, k0, fz, _⟩ := st
    refine kk ?_
    clear kk GG
    refine ⟨Wk.frame _ _ _ st fun b hb o e => ?_, fun a o e => hk a o (k0 a o e), fun b hb nb => ?_, fun a ha => ⟨ho a ha, ?_⟩⟩
    · by_cases hbw : b ∈ wr
      · exact hw b hbw o e
      · obtain ⟨o', e1, e2⟩ := fz b hb hbw
        rw [e] at e2; cases e2
        exact hs _ _ (hk _ _ e1)
    · obtain ⟨o', e1, e2⟩ := fz b hb nb
      exact ⟨o', hk _ _ e1, hs _ _ (hk _ _ e1)⟩
    · obtain ⟨o, e⟩ := live i h a st ha
      exact ⟨o, hw a ha o e⟩
  item := fun i K s d E hd ok st => by
    refine hide fun GG kk => ?_
    obtain ⟨st, k0, fz, ow⟩ := st
    refine kk ?_
    clear kk GG
    have hi : i < n := by rw [← hn]; exact (List.getElem?_eq_some_iff.mp hd).1
    refine wpAny_with_toks (Nat.le_refl s.toks) (Wk.item i s _ _ hi st fun v h' tk hPv st' hk htk => ⟨v, rfl, hgo (i + 1) _ _ _ _ st' ?_⟩)
    have x : ExtB W (· ∈ wr) K s K { s with heap := h', toks := tk } := ExtB.upds ok (fun a ha => (ow a ha).1) (fun b o nb e => hk b o nb e) htk
    refine ⟨K, x, (hP i v d hd hPv).mono k0, st', k0, fun b hb nb => ?_, fun a ha => ⟨(ow a ha).1, live _ _ _ st' ha⟩⟩
    obtain ⟨o, e1, e2⟩ := fz b hb nb
    exact ⟨o, e1, hk b o nb e2⟩
  done := fun K s E ok st => by
    refine hide fun GG kk => ?_
    obtain ⟨st, k0, fz, ow⟩ := st
    refine kk ?_
    clear kk GG
    rw [hn] at st
    exact wpAny_with_toks (Nat.le_refl s.toks) (Wk.done s _ _ st fun h' tk hk htk => ⟨rfl, ExtB.upds ok (fun a ha => (ow a ha).1) (fun b o nb e => hk b o nb e) htk⟩)
  self := fun i K s Q E st hQ => Wk.self i s Q E st.1 hQ

section
variable {W : Wd} {A : Around} {E : Value → Shared → Prop} {s : Shared} {K : KM} {tgt : Expr}

/-- the wanted end of an iterator's making -/
inductive RI (W : Wd) (A : Around) (tgt : Expr) (K : KM) (s : Shared) (ds : List D) (it : Value) (s' : Shared) : Prop where
  | mk (K' : KM) (wr : List Addr) (St : Nat → KM → Heap → Prop) (x : Ext W K s K' s') (src : Src W A tgt it wr ds St) (st : St 0 K' s'.heap) (fr : ∀ a ∈ wr, s.heap.get? a = none) : RI W A tgt K s ds it s'
theorem RI.trans {K₁ : KM} {s₁ s₂ : Shared} {ds : List D} {v : Value} (ok : Ok W K s) (G : Good W) (x : Ext W K s K₁ s₁) (h : RI W A tgt K₁ s₁ ds v s₂) : RI W A tgt K s ds v s₂ := by
  obtain ⟨K', wr, St, y, z, u, f⟩ := h
  refine ⟨K', wr, St, x.trans y, z, u, fun a ha => get_none_of x.le (x.ok.ne_pt G (f a ha)) (f a ha)⟩

theorem go_listiter {M : Model} {I l : Addr} {i : Nat} {v : Value} {Q : Unit → Shared → Prop} (hit : s.heap.IsListIter I l i) (hQ : Q () s) : wpAny M A (letOwnedTupleGo tgt (.ref I) v) Q E s := by
  obtain ⟨o, ho, hc, hd⟩ := hit
  have key : ∀ (a : Addr), wpAny M A (do
      let o ← load I
      match o.cls, o.data with
      | .type n, .fields vs =>
        if ["enumerate", "zip", "dict_itemiterator", "dict_reverseitemiterator", "odict_iterator", "itertools.zip_longest", "itertools.pairwise"].contains n && vs[0]? == some (rawInt a) then
          rule "for.unpacks-the-owned-tuple"
          updateField I 0 .none
      | _, _ => pure ()) Q E s := by
    intro a
    refine wpAny_bind (wpAny_load ho ?_)
    rw [hc, hd]
    show wpAny _ A (if (["enumerate", "zip", "dict_itemiterator", "dict_reverseitemiterator", "odict_iterator", "itertools.zip_longest", "itertools.pairwise"].contains "list_iterator" &&
        (#[.ref l, .int i 0] : Array Value)[0]? == some (rawInt a)) = true then _ else _) Q E s
    rw [if_neg (by
      intro h
      rw [show (["enumerate", "zip", "dict_itemiterator", "dict_reverseitemiterator", "odict_iterator", "itertools.zip_longest", "itertools.pairwise"].contains "list_iterator") = false from by decide, Bool.false_and] at h
      cases h)]
    exact wpAny_pure hQ
  unfold letOwnedTupleGo
  split
  · cases v with
    | ref a => exact key a
    | _ => exact wpAny_pure hQ
  · cases v with
    | ref a => exact key a
    | _ => exact wpAny_pure hQ
  · exact wpAny_pure hQ

theorem frozen_list {v : Value} {ds : List D} (i : IsD W K v (.lst ds)) : ∃ a o vs n, v = .ref a ∧ K a = some o ∧ o.cls = .type "list" ∧ o.data = .seq vs n ∧ AllD W K vs.toList ds := by
  exact i.lst_inv

theorem iter_list (G : Good W) (hh : A.handled = none) (ok : Ok W K s) {v : Value} {ds : List D} (i : IsD W K v (.lst ds)) : wpAny (model W.prog W.w) A (pyIter v) (RI W A tgt K s ds) E s := by
  refine hide fun GG kk => ?_
  obtain ⟨a, o, vs, n, rfl, hk, hc, hd, da⟩ := frozen_list i
  refine kk ?_
  clear kk GG
  have hl : s.heap.IsList a vs := ⟨o, ok.sub _ _ hk, hc, n, hd⟩
  have hsz : a ≠ s.heap.objs.size := Nat.ne_of_lt (Heap.lt_size (ok.sub _ _ hk))
  refine wpAny_pyIter_list hl ⟨K, [s.heap.objs.size], _, Ext.same (n := s.toks) ok (fun _ _ e => Heap.get?_push_of_some _ e) (Nat.le_refl _),
    Src.ofWalks (K₀ := K) (Walks.list hh s.heap.objs.size a hsz vs) (by rw [← da.length, Array.length_toList]) (fun i v d hd hv => ?_) (fun i h b st hb => ?_) (fun i s v Q E st hQ => go_listiter st.1 hQ), ⟨⟨⟨_, Heap.get?_push_size _ rfl, rfl, rfl⟩, hl.push _⟩, fun _ _ e => e, fun b hb nb => ?_, fun b hb => ?_⟩, ?_⟩
  · obtain ⟨v', h1, h2⟩ := da.get hd
    have hv' : vs.toList[i]? = some v := by simpa using hv
    rw [hv'] at h1; cases h1; exact h2
  · simp only [List.mem_singleton] at hb; subst hb
    obtain ⟨o, ho, _⟩ := st.1; exact ⟨o, ho⟩
  · simp only [List.mem_cons, List.not_mem_nil, or_false] at hb nb
    rcases hb with rfl | rfl
    · exact absurd rfl nb
    · exact ⟨o, hk, Heap.get?_push_of_some _ (ok.sub _ _ hk)⟩
  · simp only [List.mem_singleton] at hb; subst hb
    exact ⟨.fresh G ok (get_size_none _), _, Heap.get?_push_size _ rfl⟩
  · intro b hb
    simp only [List.mem_singleton] at hb; subst hb
    exact get_size_none _

noncomputable def charsD (x : Str) : List D := x.cps.toList.map fun c => D.str ⟨#[c]⟩
theorem iter_str (G : Good W) (hh : A.handled = none) (ok : Ok W K s) {x : Str} {t : Tok} (ha : x.cps.all (· < 128) = true) (hgo : ∀ I v, letOwnedTupleGo tgt I v = pure ()) : wpAny (model W.prog W.w) A (pyIter (.str x t)) (RI W A tgt K s (charsD x)) E s := by
  refine wpAny_pyIter_ascii ha ⟨K, [s.heap.objs.size], _, Ext.same (n := s.toks) ok (fun _ _ e => Heap.get?_push_of_some _ e) (Nat.le_refl _),
    Src.ofWalks (K₀ := K) (Walks.strAscii hh s.heap.objs.size x t) (by simp [charsD]) (fun i v d hd hv => ?_) (fun i h b st hb => ?_) (fun i s v Q E st hQ => by rw [hgo]; exact wpAny_pure hQ), ⟨⟨_, Heap.get?_push_size _ rfl, rfl, rfl⟩, fun _ _ e => e, fun b hb nb => absurd hb nb, fun b hb => ?_⟩, ?_⟩
  · obtain ⟨c, u, h1, rfl⟩ := hv
    have : (charsD x)[i]? = some (D.str ⟨#[c]⟩) := by
      unfold charsD
      rw [List.getElem?_map]
      have : x.cps.toList[i]? = some c := by simpa using h1
      rw [this]; rfl
    rw [hd] at this; cases this
    exact .str _ _
  · simp only [List.mem_singleton] at hb; subst hb
    obtain ⟨o, ho, _⟩ := st; exact ⟨o, ho⟩
  · simp only [List.mem_singleton] at hb; subst hb
    exact ⟨.fresh G ok (get_size_none _), _, Heap.get?_push_size _ rfl⟩
  · intro b hb
    simp only [List.mem_singleton] at hb; subst hb
    exact get_size_none _

noncomputable def rngD (a b : Int) : List D := (List.range (b - a).toNat).map fun (i : Nat) => D.int (a + (i : Int))
theorem rangeSize_one (a b : Int) : Builtin.Range.rangeSize a b 1 = ((b - a).toNat : Int) := by
  unfold Builtin.Range.rangeSize
  rw [if_pos (by omega)]
  split <;> omega
theorem iter_range (G : Good W) (hh : A.handled = none) (ok : Ok W K s) {r : Addr} {a b : Int} {t u v : Tok} (hr : IsRange s.heap r a b 1 t u v) (ha : small a = true) (hb : small b = true) (hgo : ∀ I v, letOwnedTupleGo tgt I v = pure ()) :
    wpAny (model W.prog W.w) A (pyIter (.ref r)) (RI W A tgt K s (rngD a b)) E s := by
  simp only [small, decide_eq_true_eq] at ha hb
  have fit : ∀ z : Int, -(2 ^ 62) ≤ z → z ≤ 2 ^ 62 → Builtin.Range.rangeFitsLong z = true := by
    intro z h1 h2
    unfold Builtin.Range.rangeFitsLong
    simp only [Bool.and_eq_true, decide_eq_true_eq]
    omega
  have hsm : Builtin.Range.small a b 1 = true := by
    unfold Builtin.Range.small
    rw [rangeSize_one, fit a (by omega) (by omega), fit b (by omega) (by omega), fit 1 (by omega) (by omega), fit _ (by omega) (by omega), if_pos (by omega), fit _ (by omega) (by omega)]
    simp
  refine wpAny_pyIter_range hr hsm ⟨K, [s.heap.objs.size], _, Ext.same (n := s.toks) ok (fun _ _ e => Heap.get?_push_of_some _ e) (Nat.le_refl _),
    Src.ofWalks (K₀ := K) (Walks.range hh s.heap.objs.size a 1 (b - a).toNat) (by simp [rngD]) (fun i v d hd hv => ?_) (fun i h b st hb => ?_) (fun i s v Q E st hQ => by rw [hgo]; exact wpAny_pure hQ), ⟨?_, fun _ _ e => e, fun b hb nb => absurd hb nb, fun b hb => ?_⟩, ?_⟩
  · obtain ⟨t', rfl⟩ := hv
    unfold rngD at hd
    rw [List.getElem?_map] at hd
    cases q : (List.range (b - a).toNat)[i]? with
    | none => rw [q] at hd; cases hd
    | some j =>
      rw [q] at hd
      have : j = i := by
        have := List.getElem?_eq_some_iff.mp q
        obtain ⟨h1, h2⟩ := this
        simpa using h2.symm
      subst this
      cases hd
      rw [Int.mul_one]
      exact .int _ _
  · simp only [List.mem_singleton] at hb; subst hb
    exact ⟨_, st⟩
  · have := Heap.get?_push_size s.heap (o := { cls := .type "range_iterator", data := .fields #[rawInt a, rawInt (Builtin.Range.rangeSize a b 1), rawInt 1] }) rfl
    rw [rangeSize_one] at this
    simpa [rangeSize_one] using this
  · simp only [List.mem_singleton] at hb; subst hb
    exact ⟨.fresh G ok (get_size_none _), _, Heap.get?_push_size _ rfl⟩
  · intro b hb
    simp only [List.mem_singleton] at hb; subst hb
    exact get_size_none _

theorem frozen_dict {v : Value} {ks : List Int} {ds : List D} (i : IsD W K v (.dct ks ds)) : ∃ a o kvs, v = .ref a ∧ K a = some o ∧ (a == sysModules) = false ∧ o.IsDictOf W.ik kvs ∧ kvs.map (·.1) = ks ∧ AllD W K (kvs.map (·.2)) ds := by
  cases i with | dct a b c d => exact ⟨_, _, _, rfl, a, b, c, rfl, d⟩
theorem dictAt_of {h : Heap} {a : Addr} {o : Obj} {kvs : List (Int × Value)} (ho : h.get? a = some o) (hd : o.IsDictOf W.ik kvs) : ∃ ep, h.DictAt W.ik a kvs ep := (Heap.dictOf_iff.mpr ⟨o, ho, hd⟩).dictAt
theorem isInt_of {k : Int} {v : Value} (h : W.ik.is k v = true) : ∃ t, v = .int k t := by
  have h' : Value.isInt k v = true := h
  unfold Value.isInt at h'
  split at h'
  · have := beq_iff_eq.mp h'; subst this; exact ⟨_, rfl⟩
  · cases h'
theorem iter_keys (G : Good W) (hh : A.handled = none) (ok : Ok W K s) {v : Value} {ks : List Int} {ds : List D} (i : IsD W K v (.dct ks ds)) (hgo : ∀ I v, letOwnedTupleGo tgt I v = pure ()) : wpAny (model W.prog W.w) A (pyIter v) (RI W A tgt K s (ks.map .int)) E s := by
  obtain ⟨a, o, kvs, rfl, hk, hsys, hd, rfl, da⟩ := frozen_dict i
  obtain ⟨ep, hat⟩ := dictAt_of (ok.sub _ _ hk) hd
  have hsz : a ≠ s.heap.objs.size := Nat.ne_of_lt (Heap.lt_size (ok.sub _ _ hk))
  refine wpAny_pyIter_dict hsys hat ⟨K, [s.heap.objs.size], _, Ext.same (n := s.toks) ok (fun _ _ e => Heap.get?_push_of_some _ e) (Nat.le_refl _),
    Src.ofWalks (K₀ := K) (Walks.dictKeys (knd := W.ik) hh s.heap.objs.size a hsz kvs ep) (by rw [List.length_map, List.length_map]) (fun i v d hd hv => ?_) (fun i h b st hb => ?_) (fun i s v Q E st hQ => by rw [hgo]; exact wpAny_pure hQ), ⟨⟨⟨_, Heap.get?_push_size _ rfl, rfl, rfl⟩, hat.at' fun o e => Heap.get?_push_of_some _ e⟩, fun _ _ e => e, fun b hb nb => ?_, fun b hb => ?_⟩, ?_⟩
  · obtain ⟨k, x, h1, h2⟩ := hv
    obtain ⟨t, rfl⟩ := isInt_of h2
    rw [List.getElem?_map, List.getElem?_map, h1] at hd
    cases hd; exact .int _ _
  · simp only [List.mem_singleton] at hb; subst hb
    obtain ⟨o, ho, _⟩ := st.1; exact ⟨o, ho⟩
  · simp only [List.mem_cons, List.not_mem_nil, or_false] at hb nb
    rcases hb with rfl | rfl
    · exact absurd rfl nb
    · exact ⟨o, hk, Heap.get?_push_of_some _ (ok.sub _ _ hk)⟩
  · simp only [List.mem_singleton] at hb; subst hb
    exact ⟨.fresh G ok (get_size_none _), _, Heap.get?_push_size _ rfl⟩
  · intro b hb
    simp only [List.mem_singleton] at hb; subst hb
    exact get_size_none _
theorem iter_vals (G : Good W) (hh : A.handled = none) (ok : Ok W K s) {a V : Addr} {ks : List Int} {ds : List D} (i : IsD W K (.ref a) (.dct ks ds)) (hV : s.heap.IsValuesView V a) (hgo : ∀ I v, letOwnedTupleGo tgt I v = pure ()) : wpAny (model W.prog W.w) A (pyIter (.ref V)) (RI W A tgt K s ds) E s := by
  refine hide fun GG kk => ?_
  obtain ⟨a', o, kvs, e, hk, hsys, hd, rfl, da⟩ := frozen_dict i
  cases e
  obtain ⟨ep, hat⟩ := dictAt_of (ok.sub _ _ hk) hd
  refine kk ?_
  clear kk GG
  have hsz : a ≠ s.heap.objs.size := Nat.ne_of_lt (Heap.lt_size (ok.sub _ _ hk))
  refine wpAny_pyIter_values hV hat ⟨K, [s.heap.objs.size], _, Ext.same (n := s.toks) ok (fun _ _ e => Heap.get?_push_of_some _ e) (Nat.le_refl _),
    Src.ofWalks (K₀ := K) (Walks.dictValues (knd := W.ik) hh s.heap.objs.size a hsz kvs ep) (by rw [← da.length]; simp) (fun i v d hd hv => ?_) (fun i h b st hb => ?_) (fun i s v Q E st hQ => by rw [hgo]; exact wpAny_pure hQ), ⟨⟨⟨_, Heap.get?_push_size _ rfl, rfl, rfl⟩, hat.at' fun o e => Heap.get?_push_of_some _ e⟩, fun _ _ e => e, fun b hb nb => ?_, fun b hb => ?_⟩, ?_⟩
  · obtain ⟨k, h1⟩ := hv
    obtain ⟨v', h3, h4⟩ := da.get hd
    rw [List.getElem?_map, h1] at h3
    cases h3; exact h4
  · simp only [List.mem_singleton] at hb; subst hb
    obtain ⟨o, ho, _⟩ := st.1; exact ⟨o, ho⟩
  · simp only [List.mem_cons, List.not_mem_nil, or_false] at hb nb
    rcases hb with rfl | rfl
    · exact absurd rfl nb
    · exact ⟨o, hk, Heap.get?_push_of_some _ (ok.sub _ _ hk)⟩
  · simp only [List.mem_singleton] at hb; subst hb
    exact ⟨.fresh G ok (get_size_none _), _, Heap.get?_push_size _ rfl⟩
  · intro b hb
    simp only [List.mem_singleton] at hb; subst hb
    exact get_size_none _
end
end Mine
namespace Mine
open PySem PySem.W PySem.Calls PyProof.Rows

theorem entry_itemiter : entryFor table "dict_itemiterator.__iter__" = some Builtin.«dict_keyiterator.__iter__» :=
  entryFor_alias (id' := "dict_keyiterator.__iter__") (by kernel_rfl) rfl (by decide +kernel) (by kernel_rfl)

theorem zipApart_of {B l1 l2 : Nat} (b1 : l1 < B) (b2 : l2 < B) : ZipApart (B + 4) (B + 2) (B + 3) B (B + 1) l1 l2 := by
  constructor <;> (intro hq; have hq' : (_ : Nat) = _ := hq; omega)

section
variable {W : Wd} {A : Around} {E : Value → Shared → Prop} {s : Shared} {K : KM} {tgt : Expr}

noncomputable def zipD : List D → List D → List D
  | a :: as, b :: bs => .tup [a, b] :: zipD as bs
  | _, _ => []
theorem zipD_length : ∀ xs ys : List D, (zipD xs ys).length = min xs.length ys.length
  | [], _ => by simp [zipD]
  | _ :: _, [] => by simp [zipD]
  | _ :: as, _ :: bs => by simp only [zipD, List.length_cons, zipD_length as bs]; omega
theorem zipD_get : ∀ (xs ys : List D) (i : Nat) (d : D), (zipD xs ys)[i]? = some d → ∃ x y, xs[i]? = some x ∧ ys[i]? = some y ∧ d = .tup [x, y]
  | [], _, i, d, h => by simp [zipD] at h
  | _ :: _, [], i, d, h => by simp [zipD] at h
  | a :: as, b :: bs, 0, d, h => by simp [zipD] at h; exact ⟨a, b, rfl, rfl, h.symm⟩
  | a :: as, b :: bs, i + 1, d, h => by
    simp only [zipD, List.getElem?_cons_succ] at h
    exact zipD_get as bs i d h

theorem iter_zip (G : Good W) (hh : A.handled = none) (ok : Ok W K s) {l1 l2 : Addr} {o1 o2 : Obj} {xs ys : Array Value} {n1 n2 : Nat} {d1 d2 : List D} {elts : List Expr} {k : Nat} {tp : Pos}
    (h1 : K l1 = some o1) (c1 : o1.cls = .type "list") (e1 : o1.data = .seq xs n1) (a1 : AllD W K xs.toList d1) (h2 : K l2 = some o2) (c2 : o2.cls = .type "list") (e2 : o2.data = .seq ys n2) (a2 : AllD W K ys.toList d2) :
    wpAny (model W.prog W.w) A (call (.type "zip") [.ref l1, .ref l2]) (fun z s₁ => wpAny (model W.prog W.w) A (pyIter z) (RI W A (.Tuple elts k tp) K s (zipD d1 d2)) E s₁) E s := by
  have L1 : s.heap.IsList l1 xs := ⟨o1, ok.sub _ _ h1, c1, n1, e1⟩
  have L2 : s.heap.IsList l2 ys := ⟨o2, ok.sub _ _ h2, c2, n2, e2⟩
  have b1 : l1 < s.heap.objs.size := Heap.lt_size (ok.sub _ _ h1)
  have b2 : l2 < s.heap.objs.size := Heap.lt_size (ok.sub _ _ h2)
  refine call_zip_2 L1 L2 fun h' hz hTI hTO i1 i2 hsz hk => ?_
  generalize hB : s.heap.objs.size = B at *
  have Dz : ZipApart (B + 4) (B + 2) (B + 3) B (B + 1) l1 l2 := zipApart_of b1 b2
  have Wk := WalksT.zip2 (prog := W.prog) (w := W.w) hh (B + 4) (B + 2) (B + 3) B (B + 1) l1 l2 Dz xs ys
  have fresh : ∀ a, B ≤ a → s.heap.get? a = none := fun a ha => Heap.get?_none_of_le (hB ▸ ha)
  have none5 : ∀ a ∈ [B + 4, B + 2, B + 3, B, B + 1], s.heap.get? a = none :=
    zipNew (P := fun a => s.heap.get? a = none) (fresh _ (Nat.le_add_right _ _)) (fresh _ (Nat.le_add_right _ _)) (fresh _ (Nat.le_add_right _ _)) (fresh _ (Nat.le_refl _)) (fresh _ (Nat.le_add_right _ _))
  refine wpAny_pyIter_zip hz ?_
  refine ⟨K, [B + 4, B + 2, B + 3, B, B + 1], fun i K' h => (IsZip h (B + 4) (B + 2) (B + 3) .none ∧ IsPair h (B + 2) (.ref B) (.ref (B + 1)) ∧ (∃ a b, IsPair h (B + 3) a b) ∧ h.IsListIter B l1 i ∧ h.IsListIter (B + 1) l2 i ∧ h.IsList l1 xs ∧ h.IsList l2 ys) ∧
      (∀ a o, K a = some o → K' a = some o) ∧ (h.get? l1 = some o1 ∧ h.get? l2 = some o2) ∧ ∀ a ∈ [B + 4, B + 2, B + 3, B, B + 1], Own W K' a ∧ ∃ o, h.get? a = some o,
    Ext.same (n := s.toks) ok hk (Nat.le_refl _), ?_, ?_, ?_⟩
  · constructor
    · exact fun i K' h st => st.2.2.2
    · intro i K' h K'' h'' st kk hs ow kp
      refine hide fun GG kk => ?_
      obtain ⟨st, k0, ⟨f1, f2⟩, w⟩ := st
      refine kk ?_
      clear kk GG
      have g1 : h''.get? l1 = some o1 := hs _ _ (kk _ _ (k0 _ _ h1))
      have g2 : h''.get? l2 = some o2 := hs _ _ (kk _ _ (k0 _ _ h2))
      have kq : ∀ b ∈ [B + 4, B + 2, B + 3, B, B + 1, l1, l2], ∀ o, h.get? b = some o → h''.get? b = some o :=
        zipAll (kp _ (.head _)) (kp _ (.tail _ (.head _))) (kp _ (.tail _ (.tail _ (.head _)))) (kp _ (.tail _ (.tail _ (.tail _ (.head _))))) (kp _ (.tail _ (.tail _ (.tail _ (.tail _ (.head _)))))) (fun o e => g1.trans (f1.symm.trans e)) (fun o e => g2.trans (f2.symm.trans e))
      refine ⟨Wk.frame _ _ _ st kq, fun a o e => kk _ _ (k0 _ _ e), ⟨g1, g2⟩, fun a ha => ⟨ow a ha, ?_⟩⟩
      · obtain ⟨o, e⟩ := (w a ha).2
        exact ⟨o, kp a ha o e⟩
    · intro i K' s' d E' hd ok' st
      refine hide fun GG kk => ?_
      obtain ⟨st, k0, ⟨f1, f2⟩, w⟩ := st
      obtain ⟨x, y, hx, hy, rfl⟩ := zipD_get _ _ _ _ hd
      obtain ⟨vx, hvx, ix⟩ := a1.get hx
      obtain ⟨vy, hvy, iy⟩ := a2.get hy
      refine kk ?_
      clear kk GG
      have hi : i < min xs.size ys.size := by
        have q1 := (List.getElem?_eq_some_iff.mp hvx).1
        have q2 := (List.getElem?_eq_some_iff.mp hvy).1
        simp only [Array.length_toList] at q1 q2
        omega
      refine wpAny_with_toks (Nat.le_refl s'.toks) (Wk.item i s' _ _ hi st fun T vals h₁ tk hPt hT ht hm hk₁ htk => ⟨_, rfl, Wk.go _ _ _ _ _ _ _ _ hm fun h₂ st₂ hk₂ => ?_⟩)
      have hTn : T ∉ [B + 4, B + 3, B, B + 1] := Wk.apart _ _ _ hm
      have x : ExtB W (· ∈ [B + 4, B + 2, B + 3, B, B + 1]) K' s' K' { s' with heap := h₂, toks := tk } := ExtB.upds ok' (fun a ha => (w a ha).1) (fun b o nb e => hk₂ b o (zipSub nb) (hk₁ b o (zipSub nb) e)) htk
      have hTf : s'.heap.get? T = none := Heap.get?_none_of_le hT
      refine hide fun GG kk => ?_
      obtain ⟨oT, hoT, cT, nT, dT⟩ := ht
      refine kk ?_
      clear kk GG
      have hoT₂ : h₂.get? T = some oT := hk₂ _ _ hTn hoT
      have wT : Own W K' T := Own.fresh G ok' hTf
      refine ⟨_, x.freeze (.inr hTf) wT hoT₂, .tup (putK_self _ _ _) cT dT ?_, st₂, fun a o e => putK_of wT.1 (k0 _ _ e), ?_, fun a ha => ?_⟩
      · obtain ⟨v1, v2, q1, q2, rfl⟩ := hPt
        have r1 : xs.toList[i]? = some v1 := by simpa using q1
        have r2 : ys.toList[i]? = some v2 := by simpa using q2
        rw [hvx] at r1; cases r1
        rw [hvy] at r2; cases r2
        have mo : ∀ a o, K a = some o → putK K' T oT a = some o := fun a o e => putK_of wT.1 (k0 _ _ e)
        exact .cons (ix.mono mo) (.cons (iy.mono mo) .nil)
      · have n1 : l1 ∉ [B + 4, B + 3, B, B + 1] := zipOut b1
        have n2 : l2 ∉ [B + 4, B + 3, B, B + 1] := zipOut b2
        exact ⟨hk₂ _ _ n1 (hk₁ _ _ n1 f1), hk₂ _ _ n2 (hk₁ _ _ n2 f2)⟩
      · obtain ⟨wa, oa, ea⟩ := w a ha
        have hne : a ≠ T := by rintro rfl; rw [hTf] at ea; cases ea
        refine ⟨⟨by unfold putK; rw [if_neg hne]; exact wa.1, wa.2⟩, ?_⟩
        refine hide fun GG kk => ?_
        obtain ⟨z1, z2, ⟨p, q, z3⟩, ⟨_, z4, _⟩, ⟨_, z5, _⟩, _⟩ := st₂
        refine kk ?_
        clear kk GG
        exact zipNew (P := fun a => ∃ o, h₂.get? a = some o) ⟨_, z1⟩ ⟨_, z2⟩ ⟨_, z3⟩ ⟨_, z4⟩ ⟨_, z5⟩ a ha
    · intro K' s' E' ok' st
      refine hide fun GG kk => ?_
      obtain ⟨st, k0, ⟨f1, f2⟩, w⟩ := st
      refine kk ?_
      clear kk GG
      have hl : (zipD d1 d2).length = min xs.size ys.size := by
        rw [zipD_length, ← a1.length, ← a2.length]; simp
      rw [hl] at st
      refine wpAny_with_toks (Nat.le_refl s'.toks) (Wk.done s' _ _ st fun h₁ tk hk₁ htk => ⟨rfl, ExtB.upds ok' (fun a ha => (w a ha).1) (fun b o nb e => hk₁ b o (zipSub nb) e) htk⟩)
    · exact fun i K' s' Q E' st hQ => wpAny_pyIter_zip st.1.1 hQ
  · refine ⟨⟨hz, hTI, ⟨_, _, hTO⟩, i1, i2, ⟨o1, hk _ _ (ok.sub _ _ h1), c1, n1, e1⟩, ⟨o2, hk _ _ (ok.sub _ _ h2), c2, n2, e2⟩⟩, fun _ _ e => e, ⟨hk _ _ (ok.sub _ _ h1), hk _ _ (ok.sub _ _ h2)⟩, fun a ha => ?_⟩
    refine hide fun GG kk => ?_
    obtain ⟨_, z4, _⟩ := i1
    obtain ⟨_, z5, _⟩ := i2
    refine kk ?_
    clear kk GG
    exact ⟨.fresh G ok (none5 a ha), zipNew (P := fun a => ∃ o, h'.get? a = some o) ⟨_, hz⟩ ⟨_, hTI⟩ ⟨_, hTO⟩ ⟨_, z4⟩ ⟨_, z5⟩ a ha⟩
  · exact none5

noncomputable def itemsD : List Int → List D → List D
  | k :: ks, d :: ds => .tup [.int k, d] :: itemsD ks ds
  | _, _ => []
theorem itemsD_length : ∀ (xs : List Int) (ys : List D), (itemsD xs ys).length = min xs.length ys.length
  | [], _ => by simp [itemsD]
  | _ :: _, [] => by simp [itemsD]
  | _ :: as, _ :: bs => by simp only [itemsD, List.length_cons, itemsD_length as bs]; omega
theorem itemsD_get : ∀ (xs : List Int) (ys : List D) (i : Nat) (d : D), (itemsD xs ys)[i]? = some d → ∃ x y, xs[i]? = some x ∧ ys[i]? = some y ∧ d = .tup [.int x, y]
  | [], _, i, d, h => by simp [itemsD] at h
  | _ :: _, [], i, d, h => by simp [itemsD] at h
  | a :: as, b :: bs, 0, d, h => by simp [itemsD] at h; exact ⟨a, b, rfl, rfl, h.symm⟩
  | a :: as, b :: bs, i + 1, d, h => by
    simp only [itemsD, List.getElem?_cons_succ] at h
    exact itemsD_get as bs i d h

theorem iter_items (G : Good W) (hh : A.handled = none) (ok : Ok W K s) {a V : Addr} {ks : List Int} {ds : List D} {elts : List Expr} {k : Nat} {tp : Pos} (i : IsD W K (.ref a) (.dct ks ds)) (hV : s.heap.IsItemsView V a) :
    wpAny (model W.prog W.w) A (pyIter (.ref V)) (RI W A (.Tuple elts k tp) K s (itemsD ks ds)) E s := by
  refine hide fun GG kk => ?_
  obtain ⟨a', o, kvs, e, hk, hsys, hd, rfl, da⟩ := frozen_dict i
  cases e
  obtain ⟨ep, hat⟩ := dictAt_of (ok.sub _ _ hk) hd
  refine kk ?_
  clear kk GG
  have hsz : a ≠ s.heap.objs.size := Nat.ne_of_lt (Heap.lt_size (ok.sub _ _ hk))
  have dl : kvs.length = ds.length := by rw [← da.length]; simp
  have datOf : ∀ {h h' : Heap}, h.DictAt W.ik a kvs ep → h.get? a = some o → h'.get? a = some o → h'.DictAt W.ik a kvs ep := fun {h h'} x e e' => x.at' fun o' e'' => by rw [e] at e''; cases e''; exact e'
  refine wpAny_pyIter_items hV hat ?_
  refine ⟨K, [s.heap.objs.size], fun i K' h => (∃ k v, IsItemIter h s.heap.objs.size a i kvs.length ep k v) ∧ h.DictAt W.ik a kvs ep ∧ (∀ a o, K a = some o → K' a = some o) ∧ h.get? a = some o ∧ ∀ b ∈ [s.heap.objs.size], Own W K' b ∧ ∃ o, h.get? b = some o,
    Ext.same (n := s.toks) ok (fun _ _ e => Heap.get?_push_of_some _ e) (Nat.le_refl _), ?_, ?_, ?_⟩
  · generalize s.heap.objs.size = I at *
    constructor
    · exact fun i K' h st => st.2.2.2.2
    · intro i K' h K'' h'' st kk hs ow kp
      refine hide fun GG kk => ?_
      obtain ⟨⟨k, v, st⟩, dat, k0, f1, w⟩ := st
      refine kk ?_
      clear kk GG
      have g1 : h''.get? a = some o := hs _ _ (kk _ _ (k0 _ _ hk))
      refine ⟨⟨k, v, kp I (by simp) _ st⟩, datOf dat f1 g1, fun a o e => kk _ _ (k0 _ _ e), g1, fun b hb => ⟨ow b hb, ?_⟩⟩
      obtain ⟨o, e⟩ := (w b hb).2
      exact ⟨o, kp b hb o e⟩
    · intro i K' s' d E' hdd ok' st
      refine hide fun GG kk => ?_
      obtain ⟨⟨k, v, st⟩, dat, k0, f1, w⟩ := st
      obtain ⟨kx, y, hx, hy, rfl⟩ := itemsD_get _ _ _ _ hdd
      refine kk ?_
      clear kk GG
      rw [List.getElem?_map] at hx
      cases hkv : kvs[i]? with
      | none => rw [hkv] at hx; cases hx
      | some kv =>
        rw [hkv] at hx; cases hx
        refine hide fun GG kk => ?_
        obtain ⟨vy, hvy, iy⟩ := da.get hy
        rw [List.getElem?_map, hkv] at hvy
        cases hvy
        refine kk ?_
        clear kk GG
        have w1 := (w I (by simp)).1
        refine wpAny_pyNext_items_item (k := kv.1) (v := kv.2) st dat (by rw [hkv]) fun key h₁ hkey hout htup hsz₁ hk₁ => ⟨_, rfl, wpAny_letOwnedTupleGo_items hout fun h₂ hit₂ hs₂ => ?_⟩
        refine hide fun GG kk => ?_
        obtain ⟨t, rfl⟩ := isInt_of hkey
        refine kk ?_
        clear kk GG
        have hTf : s'.heap.get? s'.heap.objs.size = none := get_size_none _
        have hne : s'.heap.objs.size ≠ I := by
          obtain ⟨o', e'⟩ := (w I (by simp)).2
          exact Nat.ne_of_gt (Heap.lt_size e')
        have keep : ∀ b o, ¬ (b ∈ [I]) → s'.heap.get? b = some o → h₂.get? b = some o := fun b o nb e => (hs₂.2 b (by simpa using nb)).trans (hk₁ b o (by simpa using nb) e)
        have x : ExtB W (· ∈ [I]) K' s' K' { s' with heap := h₂ } := ExtB.upds (n := s'.toks) ok' (fun a ha => (w a ha).1) keep (Nat.le_refl _)
        have hoT₂ : h₂.get? s'.heap.objs.size = some _ := (hs₂.2 _ hne).trans htup
        have wT : Own W K' s'.heap.objs.size := Own.fresh G ok' hTf
        have mo : ∀ a o, K a = some o → putK K' s'.heap.objs.size { cls := .type "tuple", data := .seq #[.int kv.1 t, kv.2] } a = some o := fun a o e => putK_of wT.1 (k0 _ _ e)
        have f2 : h₂.get? a = some o := ok'.sub _ _ (k0 _ _ hk) |> keep a o (by
          intro q; simp only [List.mem_singleton] at q; subst q; have := k0 _ _ hk; rw [w1.1] at this; cases this)
        refine ⟨_, x.freeze (.inr hTf) wT hoT₂, .tup (putK_self _ _ _) rfl rfl (.cons (.int _ _) (.cons (iy.mono mo) .nil)), ⟨_, _, hit₂⟩, datOf dat f1 f2, mo, f2, fun b hb => ?_⟩
        simp only [List.mem_singleton] at hb; subst hb
        exact ⟨⟨by unfold putK; rw [if_neg (Ne.symm hne)]; exact w1.1, w1.2⟩, _, hit₂⟩
    · intro K' s' E' ok' st
      refine hide fun GG kk => ?_
      obtain ⟨⟨k, v, st⟩, dat, k0, f1, w⟩ := st
      refine kk ?_
      clear kk GG
      have hl : (itemsD (kvs.map (·.1)) ds).length = kvs.length := by rw [itemsD_length]; simp [dl]
      rw [hl] at st
      refine wpAny_pyNext_items_end hh st dat (by simp) fun h₁ he => ⟨rfl, ExtB.upds (n := s'.toks) ok' (fun a ha => (w a ha).1) (fun b o nb e => he b o (by simpa using nb) e) (Nat.le_refl _)⟩
    · intro i K' s' Q E' st hQ
      refine hide fun GG kk => ?_
      obtain ⟨⟨k, v, st⟩, _⟩ := st
      refine kk ?_
      clear kk GG
      have hT : s'.TypeIs (.ref I) "dict_itemiterator" := ⟨_, st, rfl⟩
      refine wpAny_pyIter_slot hT F.slot_dict_itemiterator_iter (wpAny_call_entry F.slot_dict_itemiterator_iter hT entry_itemiter ?_ (F.args_dict_itemiterator_iter_1 _))
      exact wpAny_pure ⟨_, rfl, "dict_itemiterator", _, hT, F.slot_dict_itemiterator_next.lookup, hQ⟩
  · refine ⟨⟨_, _, Heap.get?_push_size _ rfl⟩, hat.at' fun o e => Heap.get?_push_of_some _ e, fun _ _ e => e, Heap.get?_push_of_some _ (ok.sub _ _ hk), fun b hb => ?_⟩
    simp only [List.mem_singleton] at hb; subst hb
    exact ⟨.fresh G ok (get_size_none _), _, Heap.get?_push_size _ rfl⟩
  · intro b hb
    simp only [List.mem_singleton] at hb; subst hb
    exact get_size_none _
end
end Mine
namespace Mine
open PySem PySem.W PySem.Calls PyProof.Rows

/-! targets -/
inductive Pt where
  | one (i : Nat)
  | many (l : List Nat)
noncomputable def bindLs : List Nat → List D → Sto → Option Sto
  | [], [], σ => some σ
  | i :: l, d :: ds, σ => bindLs l ds (σ.put i (.v d))
  | _, _, _ => none
noncomputable def bindP : Pt → D → Sto → Option Sto
  | .one i, d, σ => some (σ.put i (.v d))
  | .many l, .tup ds, σ => bindLs l ds σ
  | _, _, _ => none
noncomputable def Pt.ids : Pt → List Nat
  | .one i => [i]
  | .many l => l

noncomputable def NameOk (sc : Scope) (i : Nat) (e : Expr) : Prop := (∃ pos, e = .Name (nm i) pos) ∧ i < nN ∧ isV (sc.names.lookup (nm i)) = true
inductive NamesOk (sc : Scope) : List Nat → List Expr → Prop
  | nil : NamesOk sc [] []
  | cons {i : Nat} {e : Expr} {l : List Nat} {es : List Expr} : NameOk sc i e → NamesOk sc l es → NamesOk sc (i :: l) (e :: es)
inductive PtOk (sc : Scope) : Pt → Expr → Prop
  | one {i : Nat} {e : Expr} : NameOk sc i e → PtOk sc (.one i) e
  | many {l : List Nat} {es : List Expr} {k : Nat} {pos : Pos} : NamesOk sc l es → PtOk sc (.many l) (.Tuple es k pos)

section
variable {W : Wd} {A : Around} {E : Value → Shared → Prop} {Bq : Addr → Prop}

/-- the end of a binding of names -/
inductive SB' (W : Wd) (Bq : Addr → Prop) (env : Env) (K : KM) (m : Str → Option Value) (σ : Sto) (s : Shared) (σ' : Sto) (s' : Shared) : Prop where
  | mk (m' : Str → Option Value) (x : ExtB W Bq K s K s') (r : RdOk W K env s'.heap m' σ') (b : ∀ a, Bs env s'.heap m' σ' a → Bs env s.heap m σ a) : SB' W Bq env K m σ s σ' s'

theorem store_v {env : Env} {m : Str → Option Value} {σ : Sto} {s : Shared} {K : KM} {i : Nat} {v : Value} {d : D} (hw : Wr env i Bq) (R : RdOk W K env s.heap m σ) (ok : Ok W K s) (hi : i < nN) (hk : isV (env.kindOf (nm i)) = true) (hd : IsD W K v d) :
    wpAny (model W.prog W.w) A (storeName env (nm i) v) (fun _ s' => SB' W Bq env K m σ s (σ.put i (.v d)) s') E s := by
  refine wpAny_mono (store_sound hw R ok hi hk (.v hd) Free.vv) (fun _ s' ⟨m', x, R', h1, h2⟩ => ⟨m', x, R', fun a ha => ?_⟩) fun _ _ h => h
  rcases ha with h | h | ⟨j, d', hj, e, hv⟩
  · exact .inl h
  · exact .inr (.inl h)
  · rw [Sto.get_put] at e
    split at e
    · cases e
    · rename_i q
      rw [h2 _ fun q' => q (nm_inj hj hi q')] at hv
      exact .inr (.inr ⟨j, d', hj, e, hv⟩)

theorem assign_one {env : Env} {m : Str → Option Value} {σ : Sto} {s : Shared} {K : KM} {i : Nat} {e : Expr} {v : Value} {d : D} (hw : Wr env i Bq) (ho : NameOk env.scope i e) (R : RdOk W K env s.heap m σ) (ok : Ok W K s) (hd : IsD W K v d) :
    wpAny (model W.prog W.w) A (assign e env v) (fun _ s' => SB' W Bq env K m σ s (σ.put i (.v d)) s') E s := by
  obtain ⟨⟨pos, rfl⟩, hi, hk⟩ := ho
  exact wpAny_assign_Name (store_v hw R ok hi hk hd)

theorem SB'.trans {env : Env} {m m' : Str → Option Value} {σ σ' σ'' : Sto} {s s' s'' : Shared} {K : KM} (x : ExtB W Bq K s K s') (hb : ∀ a, Bs env s'.heap m' σ' a → Bs env s.heap m σ a) (y : SB' W Bq env K m' σ' s' σ'' s'') : SB' W Bq env K m σ s σ'' s'' := by
  obtain ⟨m'', x', R, h⟩ := y
  exact ⟨m'', x.trans x' fun a h => .inl h, R, fun a ha => hb a (h a ha)⟩

theorem assignEach_names {sc : Scope} {env : Env} : ∀ {l : List Nat} {es : List Expr}, NamesOk sc l es → assignEach es env = es.map fun e => (false, assign e env)
  | _, _, .nil => rfl
  | _, _, .cons h t => by
    obtain ⟨⟨pos, rfl⟩, _⟩ := h
    show (false, assign _ env) :: assignEach _ env = _
    rw [assignEach_names t]; rfl
theorem assign_list {env : Env} : ∀ {l : List Nat} {es : List Expr}, NamesOk env.scope l es → (∀ i ∈ l, Wr env i Bq) → ∀ {vs : List Value} {ds : List D} {m : Str → Option Value} {σ σ' : Sto} {s : Shared} {K : KM}, AllD W K vs ds → bindLs l ds σ = some σ' → RdOk W K env s.heap m σ → Ok W K s →
    wpAny (model W.prog W.w) A (assignInOrder (es.map fun e => assign e env) vs) (fun _ s' => SB' W Bq env K m σ s σ' s') E s
  | _, _, .nil, hw, vs, ds, m, σ, σ', s, K, ha, e, R, ok => by
    cases ha with
    | nil => cases e; exact assignInOrder_nil ⟨m, .refl ok, R, fun _ h => h⟩
    | cons _ _ => cases e
  | _, _, .cons h t, hw, vs, ds, m, σ, σ', s, K, ha, e, R, ok => by
    cases ha with
    | nil => cases e
    | cons hd tl =>
      refine assignInOrder_cons (wpAny_mono (assign_one (hw _ (.head _)) h R ok hd) (fun _ s' ⟨m', x, R', hb⟩ => ?_) fun _ _ h => h)
      exact wpAny_mono (assign_list t (fun i hi => hw i (.tail _ hi)) tl e R' x.ok) (fun _ s'' y => .trans x hb y) fun _ _ h => h

theorem assign_sound {env : Env} {m : Str → Option Value} {σ σ' : Sto} {s : Shared} {K : KM} {p : Pt} {e : Expr} {v : Value} {d : D} (hh : A.handled = none) (hw : ∀ i ∈ p.ids, Wr env i Bq) (ho : PtOk env.scope p e) (R : RdOk W K env s.heap m σ) (ok : Ok W K s) (hd : IsD W K v d) (hb : bindP p d σ = some σ') :
    wpAny (model W.prog W.w) A (assign e env v) (fun _ s' => SB' W Bq env K m σ s σ' s') E s := by
  cases ho with
  | one h => cases hb; exact assign_one (hw _ (.head _)) h R ok hd
  | many h =>
    cases hd with
    | tup hk hc hda hal =>
      rename_i l es k pos a o vs n ds
      have ht : s.heap.IsTuple a vs := ⟨_, ok.sub _ _ hk, hc, _, hda⟩
      have hb' : bindLs l ds σ = some σ' := hb
      have hlen : ∀ {l : List Nat} {ds : List D} {σ σ' : Sto}, bindLs l ds σ = some σ' → l.length = ds.length := by
        intro l
        induction l with
        | nil => intro ds σ σ' e; cases ds with | nil => rfl | cons _ _ => cases e
        | cons i l ih => intro ds σ σ' e; cases ds with | nil => cases e | cons _ _ => simp [ih e]
      have hl2 : ∀ {l : List Nat} {es : List Expr}, NamesOk env.scope l es → l.length = es.length := by
        intro l es h
        induction h with
        | nil => rfl
        | cons _ _ ih => simp [ih]
      have hea := assignEach_names (env := env) h
      refine wpAny_assign_Tuple hh ht ?_ ?_ fun h' hx => ?_
      · rw [hea, List.length_map, ← hl2 h, hlen hb', ← hal.length, Array.length_toList]
      · rw [hea, List.findIdx?_eq_none_iff]; simp
      · have x : Ext W K s K { s with heap := h' } := Ext.same (n := s.toks) ok (fun b o e => hx b o (Nat.ne_of_lt (Heap.lt_size e)) e) (Nat.le_refl _)
        rw [hea, List.map_map]
        refine wpAny_mono (assign_list h hw (hal.mono x.kk) hb' (R.ext x) x.ok) (fun _ s'' y => ?_) fun _ _ h => h
        exact .trans x.toB (fun a ha => (Bs_ext R x a).mp ha) y
    | _ => cases hb

/-! a list that grows -/
theorem append_sound {K : KM} {s : Shared} {a : Addr} {ds : List D} {v : Value} {d : D} (ok : Ok W K s) (hl : IsLV W K s.heap (.ref a) (.o (.lst ds))) (hd : IsD W K v d) (hln : ds.length ≤ line) :
    wpAny (model W.prog W.w) A (call (.builtin "list.append") [.ref a, v]) (fun r s' => r = .none ∧ ExtB W (· = a) K s K s' ∧ IsLV W K s'.heap (.ref a) (.o (.lst (ds ++ [d])))) E s := by
  cases hl with
  | lst w h r =>
    rename_i vs n
    have := line_le
    have hs := r.length
    refine wpAny_list_append_plain (items := vs.toArray) ⟨n, h⟩ (fun h' ⟨n', e⟩ hsb => ?_) (by rw [List.size_toArray]; omega)
    refine ⟨rfl, ExtB.upds (n := s.toks) ok (by rintro b rfl; exact w) (fun b o nb e => (hsb.2 b nb).trans e) (Nat.le_refl _), ?_⟩
    rw [show vs.toArray.push v = (vs ++ [v]).toArray from by simp] at e
    exact .lst w e (r.append (.cons hd .nil))
end
end Mine
namespace Mine
open PySem PySem.W PySem.Calls PyProof.Rows

/-! one turn of a comprehension -/
noncomputable def turnOf (target : Expr) (ipos : Pos) (ifs : List Expr) (it : Value) (env : Env) (last : Sem PySem.Fin → Sem PySem.Fin) (next : Code) : Sem PySem.Fin := do
  standAt ipos
  match ← pyNext it with
  | none => pure (.done .next)
  | some v =>
    letOwnedTupleGo target it v
    assign target env v
    let ok ← forIn ifs true fun c r => if r = true then do let ok ← isTrue c env (eval c env); pure (ForInStep.yield ok) else pure (ForInStep.yield r)
    if ok = true then last (again next) else again next

noncomputable def lastApp (elt : Expr) (acc : Value) (env : Env) (k : Sem PySem.Fin) : Sem PySem.Fin := (do let _ ← call (.builtin "list.append") [acc, ← eval elt env] : Sem Unit) >>= fun _ => k
noncomputable def lastIn (i2 : Expr) (c : Value → Code) (env : Env) (k : Sem PySem.Fin) : Sem PySem.Fin := do
  let x ← eval i2 env
  standAt i2.pos
  let x ← foldedSetIterable i2 env x
  let it ← holding [x] (pyIter x)
  let _ ← runOwn (c it) env
  k
noncomputable def lastDct (k v : Expr) (d : Addr) (env : Env) (kk : Sem PySem.Fin) : Sem PySem.Fin := (do
    let kv ← eval k env
    let vv ← holding [kv] (eval v env)
    standAt { k.pos with endLine := v.pos.endLine, endCol := v.pos.endCol }
    holding [kv, vv] (dictSet d kv vv) : Sem Unit) >>= fun _ => kk
theorem turn_l1 (elt t i : Expr) (ifs : List Expr) (sc : Scope) (pos : Pos) (it acc : Value) (env : Env) : compTurn (.ListComp elt [⟨t, i, ifs, 0⟩] sc pos) 0 it acc env =
    turnOf t i.pos ifs it env (lastApp elt acc env) (.compLoop (.ListComp elt [⟨t, i, ifs, 0⟩] sc pos) 0 it acc env) := by rfl
theorem turn_l2a (elt t i t2 i2 : Expr) (ifs ifs2 : List Expr) (sc : Scope) (pos : Pos) (it acc : Value) (env : Env) : compTurn (.ListComp elt [⟨t, i, ifs, 0⟩, ⟨t2, i2, ifs2, 0⟩] sc pos) 0 it acc env =
    turnOf t i.pos ifs it env (lastIn i2 (fun it => .compStart (.ListComp elt [⟨t, i, ifs, 0⟩, ⟨t2, i2, ifs2, 0⟩] sc pos) 1 it acc env) env)
      (.compLoop (.ListComp elt [⟨t, i, ifs, 0⟩, ⟨t2, i2, ifs2, 0⟩] sc pos) 0 it acc env) := by rfl
theorem turn_l2b (elt t i t2 i2 : Expr) (ifs ifs2 : List Expr) (sc : Scope) (pos : Pos) (it acc : Value) (env : Env) : compTurn (.ListComp elt [⟨t, i, ifs, 0⟩, ⟨t2, i2, ifs2, 0⟩] sc pos) 1 it acc env =
    turnOf t2 i2.pos ifs2 it env (lastApp elt acc env) (.compLoop (.ListComp elt [⟨t, i, ifs, 0⟩, ⟨t2, i2, ifs2, 0⟩] sc pos) 1 it acc env) := by rfl
theorem turn_d1 (k v t i : Expr) (ifs : List Expr) (sc : Scope) (pos : Pos) (it : Value) (d : Addr) (env : Env) : compTurn (.DictComp k v [⟨t, i, ifs, 0⟩] sc pos) 0 it (.ref d) env =
    turnOf t i.pos ifs it env (lastDct k v d env) (.compLoop (.DictComp k v [⟨t, i, ifs, 0⟩] sc pos) 0 it (.ref d) env) := by rfl

noncomputable def IfsOk (W : Wd) (n : Nat) (sc : Scope) (f : DB) (ifs : List Expr) : Prop :=
  ∀ (A : Around) (env : Env) (σ : Sto) (m : Str → Option Value) (K : KM) (s : Shared) (d : Bool) (E : Value → Shared → Prop), env.scope = sc → f σ = some d → Ok W K s → RdOk W K env s.heap m σ → Room W A n →
    wpAny (model W.prog W.w) A (forIn ifs true fun c r => if r = true then do let ok ← isTrue c env (eval c env); pure (ForInStep.yield ok) else pure (ForInStep.yield r)) (RB W K s d) E s
noncomputable def bTrue : DB := fun _ => some true
theorem ifs_nil {W : Wd} {n : Nat} {sc : Scope} : IfsOk W n sc bTrue [] := by
  intro A env σ m K s d E hs e ok R rm
  cases e
  exact wpAny_tests_nil ⟨rfl, K, .refl ok⟩
theorem ifs_one {W : Wd} {n : Nat} {sc : Scope} {f : DB} {c : Expr} (h : SB W n sc f c) : IfsOk W n sc f [c] := by
  intro A env σ m K s d E hs e ok R rm
  exact wpAny_tests_one (h A env σ m K s d E hs e ok R rm)

noncomputable def foldC (p : Pt) (c : DB) (last : Sto → D → Option D) (σ : Sto) : List D → D → Option D
  | [], acc => some acc
  | d :: ds, acc => match bindP p d σ with
    | some σ' => match c σ' with
      | some true => match last σ' acc with
        | some acc' => foldC p c last σ ds acc'
        | none => none
      | some false => foldC p c last σ ds acc
      | none => none
    | none => none

section
variable {W : Wd} {A : Around} {E : Value → Shared → Prop}

theorem RdOk.sub {K : KM} {env : Env} {h : Heap} {m : Str → Option Value} {σ σ' : Sto} (R : RdOk W K env h m σ) (hs : ∀ i l, σ'.get i = some l → σ.get i = some l) : RdOk W K env h m σ' :=
  { R with
    rd := fun i l hi e hk => R.rd i l hi (hs i l e) hk
    ap := fun i d a hi e h => R.ap i d a hi (hs _ _ e) h
    ap2 := fun i j d e a hi hj e1 e2 => R.ap2 i j d e a hi hj (hs _ _ e1) (hs _ _ e2) }

theorem RdOk.extB {B : Addr → Prop} {K K' : KM} {env : Env} {s s' : Shared} {m : Str → Option Value} {σ : Sto} (R : RdOk W K env s.heap m σ) (x : ExtB W B K s K' s') (hB : ∀ a, Bs env s.heap m σ a → ¬ B a) : RdOk W K' env s'.heap m σ := by
  have kc : ∀ n c, env.cells.lookup n = some c → ∀ o, s.heap.get? c = some o → s'.heap.get? c = some o := fun n c e o ho => x.keep c o (R.oc n c e).1.2.1 (hB c (.inr (.inl ⟨n, e⟩))) ho
  have hv := valOf_ext (m := m) kc fun n c e => (R.oc n c e).2
  obtain ⟨ol, hol⟩ : ∃ o, s.heap.get? env.locals = some o := let ⟨o, _, _, ho, _⟩ := R.ns; ⟨o, ho⟩
  exact
  { kind := R.kind
    gl := R.gl
    bi := R.bi
    ol := R.ol.extB x (hB _ (.inl rfl)) hol
    oc := fun n c e => by
      obtain ⟨w, v, o, ho, hd⟩ := R.oc n c e
      exact ⟨w.extB x (hB c (.inr (.inl ⟨n, e⟩))) ho, v, o, kc n c e o ho, hd⟩
    inj := R.inj
    cd := R.cd
    cx := R.cx
    ns := ns_slots R.ns fun o e => x.up R.ol.2.1 (hB _ (.inl rfl)) o e
    rd := fun i l hi e hk => by
      obtain ⟨v, a, b⟩ := R.rd i l hi e hk
      exact ⟨v, (hv _).trans a, b.extB x fun a' ha ⟨d, hd⟩ => hB a' (.inr (.inr ⟨i, d, hi, hd ▸ e, ha ▸ a⟩))⟩
    ap := fun i d a hi e h => R.ap i d a hi e ((hv _).symm.trans h)
    ap2 := fun i j d e a hi hj h1 h2 h3 h4 => R.ap2 i j d e a hi hj h1 h2 ((hv _).symm.trans h3) ((hv _).symm.trans h4) }
theorem Bs_extB {B : Addr → Prop} {K K' : KM} {env : Env} {s s' : Shared} {m : Str → Option Value} {σ : Sto} (R : RdOk W K env s.heap m σ) (x : ExtB W B K s K' s') (hB : ∀ a, Bs env s.heap m σ a → ¬ B a) (a : Addr) : Bs env s'.heap m σ a ↔ Bs env s.heap m σ a := by
  have kc : ∀ n c, env.cells.lookup n = some c → ∀ o, s.heap.get? c = some o → s'.heap.get? c = some o := fun n c e o ho => x.keep c o (R.oc n c e).1.2.1 (hB c (.inr (.inl ⟨n, e⟩))) ho
  have hv := valOf_ext (m := m) kc fun n c e => (R.oc n c e).2
  unfold Bs
  simp only [hv]

theorem bindLs_get : ∀ (l : List Nat) (ds : List D) (σ σ' : Sto), bindLs l ds σ = some σ' → ∀ i, i ∉ l → σ'.get i = σ.get i
  | [], [], σ, σ', e, i, _ => by cases e; rfl
  | j :: l, d :: ds, σ, σ', e, i, hi => by
    simp only [List.mem_cons, not_or] at hi
    rw [bindLs_get l ds _ σ' e i hi.2, Sto.get_put, if_neg hi.1]
  | [], _ :: _, _, _, e, _, _ => by cases e
  | _ :: _, [], _, _, e, _, _ => by cases e
theorem bindP_get {p : Pt} {d : D} {σ σ' : Sto} (e : bindP p d σ = some σ') (i : Nat) (hi : i ∉ p.ids) : σ'.get i = σ.get i := by
  cases p with
  | one j => cases e; rw [Sto.get_put, if_neg (by simpa [Pt.ids] using hi)]
  | many l =>
    cases d with
    | tup ds => exact bindLs_get l ds σ σ' e i hi
    | _ => cases e

theorem bindLs_own : ∀ (l : List Nat) (ds : List D) (σ σ' : Sto), bindLs l ds σ = some σ' → (∀ i d, σ.get i ≠ some (.o d)) → ∀ i d, σ'.get i ≠ some (.o d)
  | [], [], σ, σ', e, h => by cases e; exact h
  | j :: l, d :: ds, σ, σ', e, h => bindLs_own l ds _ σ' e fun i d' => by
    rw [Sto.get_put]; split
    · intro q; cases q
    · exact h i d'
  | [], _ :: _, _, _, e, _ => by cases e
  | _ :: _, [], _, _, e, _ => by cases e
theorem bindP_own {p : Pt} {d : D} {σ σ' : Sto} (e : bindP p d σ = some σ') (h : ∀ i d, σ.get i ≠ some (.o d)) : ∀ i d, σ'.get i ≠ some (.o d) := by
  cases p with
  | one j =>
    cases e
    intro i d'
    rw [Sto.get_put]; split
    · intro q; cases q
    · exact h i d'
  | many l =>
    cases d with
    | tup ds => exact bindLs_own l ds σ σ' e h
    | _ => cases e

/-- where a comprehension stands: names read, the gathered list or dict -/
structure CS (W : Wd) (cenv : Env) (C Da : Addr) (σ : Sto) (acc : D) (K : KM) (m : Str → Option Value) (s : Shared) : Prop where
  ok : Ok W K s
  rd : RdOk W K cenv s.heap m σ
  lc : cenv.locals = C
  acc : IsLV W K s.heap (.ref Da) (.o acc)
  ne : Da ≠ C
  nc : ∀ n c, cenv.cells.lookup n = some c → c ≠ C ∧ c ≠ Da
  no : ∀ i d, σ.get i ≠ some (.o d)

theorem CS.bs {cenv : Env} {C Da : Addr} {σ : Sto} {acc : D} {K : KM} {m : Str → Option Value} {s : Shared} (x : CS W cenv C Da σ acc K m s) {a : Addr} (h : Bs cenv s.heap m σ a) : a = C ∨ ∃ n, cenv.cells.lookup n = some a := by
  rcases h with h | h | ⟨i, d, _, h, _⟩
  · exact .inl (h.trans x.lc)
  · exact .inr h
  · exact absurd h (x.no i d)

/-- what is done with an item leaves a longer list or dict -/
noncomputable def LastOk (W : Wd) (A : Around) (n : Nat) (cenv : Env) (C Da : Addr) (bad : List Nat) (f : Sto → D → Option D) (last : Sem PySem.Fin → Sem PySem.Fin) : Prop :=
  ∀ (σ : Sto) (acc acc' : D) (K : KM) (m : Str → Option Value) (s : Shared) (E : Value → Shared → Prop) (k : Sem PySem.Fin) (Q : PySem.Fin → Shared → Prop), f σ acc = some acc' → CS W cenv C Da σ acc K m s →
    (∀ s' K' m', ExtB W (fun a => a = C ∨ a = Da) K s K' s' → (∀ σ₀ : Sto, (∀ i l, σ₀.get i = some l → σ.get i = some l) → (∀ i ∈ bad, σ₀.get i = none) → CS W cenv C Da σ₀ acc' K' m' s') → wpAny (model W.prog W.w) A k Q E s') →
    wpAny (model W.prog W.w) A (last k) Q E s

theorem CS.sub {cenv : Env} {C Da : Addr} {σ σ' : Sto} {acc : D} {K : KM} {m : Str → Option Value} {s : Shared} (x : CS W cenv C Da σ acc K m s) (hs : ∀ i l, σ'.get i = some l → σ.get i = some l) : CS W cenv C Da σ' acc K m s :=
  ⟨x.ok, x.rd.sub hs, x.lc, x.acc, x.ne, x.nc, fun i d e => x.no i d (hs _ _ e)⟩
theorem CS.ext {cenv : Env} {C Da : Addr} {σ : Sto} {acc : D} {K K' : KM} {m : Str → Option Value} {s s' : Shared} (x : CS W cenv C Da σ acc K m s) (e : Ext W K s K' s') : CS W cenv C Da σ acc K' m s' :=
  ⟨e.ok, x.rd.ext e, x.lc, x.acc.ext e, x.ne, x.nc, x.no⟩
/-- a step beside it -/
theorem CS.extB {B : Addr → Prop} {cenv : Env} {C Da : Addr} {σ : Sto} {acc : D} {K K' : KM} {m : Str → Option Value} {s s' : Shared} (x : CS W cenv C Da σ acc K m s) (e : ExtB W B K s K' s') (hB : ∀ a, B a → a ≠ C ∧ a ≠ Da ∧ ∀ n, cenv.cells.lookup n ≠ some a) : CS W cenv C Da σ acc K' m s' :=
  ⟨e.ok, x.rd.extB e fun a ha hb => (x.bs ha).elim (hB a hb).1 fun ⟨n, q⟩ => (hB a hb).2.2 n q, x.lc, x.acc.extB e fun a ha _ hb => (hB a hb).2.1 (by cases ha; rfl), x.ne, x.nc, x.no⟩
theorem CS.live {cenv : Env} {C Da : Addr} {σ : Sto} {acc : D} {K : KM} {m : Str → Option Value} {s : Shared} (x : CS W cenv C Da σ acc K m s) : (∃ o, s.heap.get? C = some o) ∧ ∃ o, s.heap.get? Da = some o := by
  refine ⟨?_, ?_⟩
  · obtain ⟨o, _, _, ho, _⟩ := x.rd.ns; exact ⟨o, x.lc ▸ ho⟩
  · have := x.acc
    cases this with
    | lst _ h _ => exact ⟨_, h⟩
    | dct _ h _ _ _ => exact ⟨_, h⟩

theorem assign_cs {cenv : Env} {C Da : Addr} {σ σ' : Sto} {acc : D} {K : KM} {m : Str → Option Value} {s : Shared} {p : Pt} {e : Expr} {v : Value} {d : D} (hh : A.handled = none) (ho : PtOk cenv.scope p e) (x : CS W cenv C Da σ acc K m s) (hd : IsD W K v d) (hb : bindP p d σ = some σ')
    (hloc : ∀ i ∈ p.ids, cenv.kindOf (nm i) = some .local) :
    wpAny (model W.prog W.w) A (assign e cenv v) (fun _ s' => ∃ m', ExtB W (· = C) K s K s' ∧ CS W cenv C Da σ' acc K m' s') E s := by
  refine wpAny_mono (assign_sound (Bq := (· = cenv.locals)) hh (fun i hi => .one (hloc i hi)) ho x.rd x.ok hd hb) (fun _ s' ⟨m', y, R, _⟩ => ⟨m', ?_, y.ok, R, x.lc, x.acc.extB y ?_, x.ne, x.nc, bindP_own hb x.no⟩) fun _ _ h => h
  · exact y.mono x.ok fun a ha => .inl (ha.trans x.lc)
  · intro a ha _ hq
    cases ha
    exact x.ne (hq.trans x.lc)
end
end Mine
namespace Mine
open PySem PySem.W PySem.Calls PyProof.Rows

section
variable {W : Wd} {A : Around} {E : Value → Shared → Prop}

theorem Src.after {tgt : Expr} {I : Value} {wr : List Addr} {ds : List D} {St : Nat → KM → Heap → Prop} (S : Src W A tgt I wr ds St) {B : Addr → Prop} {i : Nat} {K K' : KM} {s s' : Shared} (st : St i K s.heap) (x : ExtB W B K s K' s') (hB : ∀ a ∈ wr, ¬ B a) : St i K' s'.heap := by
  have o := S.out i K s.heap st
  refine S.frame i K s.heap K' s'.heap st x.kk x.ok.sub (fun a ha => ?_) fun a ha ob e => ?_
  · obtain ⟨w, ob, e⟩ := o a ha
    exact w.extB x (hB a ha) e
  · exact x.keep a ob (o a ha).1.2.1 (hB a ha) e

theorem comp_loop {n : Nat} {tgt : Expr} {ipos : Pos} {ifs : List Expr} {it : Value} {cenv : Env} {last : Sem PySem.Fin → Sem PySem.Fin} {c : Code} {p : Pt} {cnd : DB} {lastF : Sto → D → Option D} {wr : List Addr} {ds : List D} {St : Nat → KM → Heap → Prop} {C Da : Addr} {σ : Sto} {acc accF : D} {bad : List Nat}
    {K : KM} {m : Str → Option Value} {s : Shared} (hq : c.quiet = true)
    (hden : ∀ (Q : PySem.Fin → Shared → Prop) (E : Value → Shared → Prop) (s : Shared), (∀ E', wpAny (model W.prog W.w) A (turnOf tgt ipos ifs it cenv last c) Q E' s) → wpAny (model W.prog W.w) (A.under c) ((model W.prog W.w).den c) Q E s)
    (S : Src W A tgt it wr ds St) (hp : PtOk cenv.scope p tgt) (hloc : ∀ i ∈ p.ids, cenv.kindOf (nm i) = some .local) (hσ : ∀ i ∈ p.ids, σ.get i = none) (hσb : ∀ i ∈ bad, σ.get i = none) (hi : IfsOk W n cenv.scope cnd ifs) (hl : LastOk W A n cenv C Da bad lastF last) (rm : Room W A n)
    (hwr : ∀ a ∈ wr, a ≠ C ∧ a ≠ Da ∧ ∀ n, cenv.cells.lookup n ≠ some a) (x : CS W cenv C Da σ acc K m s) (st : St 0 K s.heap) (hf : foldC p cnd lastF σ ds acc = some accF) :
    codeAny (model W.prog W.w) A c (fun r s' => r = .ok .next ∧ ∃ K' m', ExtB W (fun a => a = C ∨ a = Da ∨ a ∈ wr) K s K' s' ∧ CS W cenv C Da σ accF K' m' s') s := by
  refine codeAny_loop hq (fun k s' => ∃ i K' m' acc', k = ds.length + 1 - i ∧ i ≤ ds.length ∧ ExtB W (fun a => a = C ∨ a = Da ∨ a ∈ wr) K s K' s' ∧ CS W cenv C Da σ acc' K' m' s' ∧ St i K' s'.heap ∧ foldC p cnd lastF σ (ds.drop i) acc' = some accF) ?_ (ds.length + 1)
    ⟨0, K, m, acc, rfl, Nat.zero_le _, .refl x.ok, x, st, by simpa using hf⟩
  intro k s₁ hI
  refine hide fun GG kk => ?_
  obtain ⟨i, K₁, m₁, acc₁, rfl, hile, e₁, x₁, st₁, f₁⟩ := hI
  refine kk ?_
  clear kk GG
  refine hden _ _ _ fun E' => ?_
  unfold turnOf
  refine wpAny_bind (wpAny_standAt (wpAny_bind ?_))
  by_cases hlt : i < ds.length
  · have hd : ds[i]? = some ds[i] := List.getElem?_eq_getElem hlt
    rw [List.drop_eq_getElem_cons hlt] at f₁
    simp only [foldC] at f₁
    refine hide fun GG kk => ?_
    split at f₁
    case h_2 => cases f₁
    rename_i σ' hb
    refine kk ?_
    clear kk GG
    refine wpAny_mono (S.item i K₁ s₁ _ E' hd x₁.ok st₁) (fun r s₂ ⟨v, hr, h₂⟩ => ?_) fun _ _ h => h
    subst hr
    refine wpAny_bind (wpAny_mono h₂ (fun _ s₃ ⟨K₃, e₃, iv, st₃⟩ => ?_) fun _ _ h => h)
    have x₃ := x₁.extB e₃ hwr
    refine wpAny_bind (wpAny_mono (assign_cs rm.hh hp x₃ iv hb hloc) (fun _ s₄ ⟨m₄, e₄, x₄⟩ => ?_) fun _ _ h => h)
    have st₄ := S.after st₃ e₄ fun a ha h => (hwr a ha).1 h
    have e14 : ExtB W (fun a => a = C ∨ a = Da ∨ a ∈ wr) K s K₃ s₄ := (e₁.trans e₃ fun a h => .inl (.inr (.inr h))).trans e₄ fun a h => .inl (.inl h)
    split at f₁
    case h_3 => cases f₁
    · rename_i hc
      refine wpAny_bind (wpAny_mono (hi A cenv σ' m₄ K₃ s₄ _ E' rfl hc x₄.ok x₄.rd rm) (fun b s₅ ⟨hb5, K₅, e₅⟩ => ?_) fun _ _ h => h)
      subst hb5
      rw [if_pos rfl]
      refine hide fun GG kk => ?_
      split at f₁
      case h_2 => cases f₁
      rename_i acc' hla
      refine kk ?_
      clear kk GG
      refine hl σ' acc₁ acc' K₅ m₄ s₅ E' (again c) _ hla (x₄.ext e₅) fun s₆ K₆ m₆ e₆ x₆ => ?_
      refine wpAny_pure ⟨rfl, ds.length + 1 - (i + 1), by omega, i + 1, K₆, m₆, acc', rfl, hlt, (e14.trans e₅.toB fun a h => .inl h).trans e₆ (fun a h => .inl (h.imp id .inl)), x₆ σ (fun j l hj => ?_) hσb, S.after (S.after st₄ (B := fun _ => False) e₅.toB fun _ _ h => h) e₆ fun a ha h => h.elim (hwr a ha).1 (hwr a ha).2.1, f₁⟩
      rw [bindP_get hb j fun hm => by rw [hσ j hm] at hj; cases hj]; exact hj
    · rename_i hc
      refine wpAny_bind (wpAny_mono (hi A cenv σ' m₄ K₃ s₄ _ E' rfl hc x₄.ok x₄.rd rm) (fun b s₅ ⟨hb5, K₅, e₅⟩ => ?_) fun _ _ h => h)
      subst hb5
      rw [if_neg (by simp)]
      refine wpAny_pure ⟨rfl, ds.length + 1 - (i + 1), by omega, i + 1, K₅, m₄, acc₁, rfl, hlt, e14.trans e₅.toB fun a h => .inl h, (x₄.ext e₅).sub fun j l hj => ?_, S.after st₄ (B := fun _ => False) e₅.toB fun _ _ h => h, f₁⟩
      rw [bindP_get hb j fun hm => by rw [hσ j hm] at hj; cases hj]; exact hj
  · have hie : i = ds.length := by omega
    refine hide fun GG kk => ?_
    subst hie
    rw [List.drop_length] at f₁
    cases f₁
    refine kk ?_
    clear kk GG
    refine wpAny_mono (S.done K₁ s₁ E' x₁.ok st₁) (fun r s₂ ⟨hr, e₂⟩ => ?_) fun _ _ h => h
    subst hr
    exact wpAny_pure ⟨rfl, K₁, m₁, e₁.trans e₂ fun a h => .inl (.inr (.inr h)), x₁.extB e₂ hwr⟩
end
end Mine
namespace Mine
open PySem PySem.W PySem.Calls PyProof.Rows

/-! a dict's item is set -/
noncomputable def setV : List Int → List D → Int → D → List D
  | k' :: ks, d :: ds, k, v => (if k' = k then v else d) :: setV ks ds k v
  | _, _, _, _ => []
noncomputable def dputD (ks : List Int) (ds : List D) (k : Int) (v : D) : D := if (ks.any fun x => decide (x = k)) = true then .dct ks (setV ks ds k v) else .dct (ks ++ [k]) (ds ++ [v])

section
variable {W : Wd} {A : Around} {E : Value → Shared → Prop}

theorem map_stored {K : KM} {k : Int} {v : Value} {d : D} (hd : IsD W K v d) : ∀ {kvs : List (Int × Value)} {ds : List D}, AllD W K (kvs.map (·.2)) ds →
    (kvs.map fun kv => if kv.1 = k then (kv.1, v) else kv).map (·.1) = kvs.map (·.1) ∧ AllD W K ((kvs.map fun kv => if kv.1 = k then (kv.1, v) else kv).map (·.2)) (setV (kvs.map (·.1)) ds k d)
  | [], _, .nil => ⟨rfl, .nil⟩
  | (k', v') :: r, _, .cons h t => by
    obtain ⟨a, b⟩ := map_stored hd t
    simp only [List.map_cons, setV]
    by_cases q : k' = k
    · rw [if_pos q, if_pos q]; exact ⟨by rw [a], .cons hd b⟩
    · rw [if_neg q, if_neg q]; exact ⟨by rw [a], .cons h b⟩
theorem stored_put {K : KM} {k : Int} {v : Value} {d : D} (hd : IsD W K v d) {kvs : List (Int × Value)} {ds : List D} (ha : AllD W K (kvs.map (·.2)) ds) :
    ∃ ds', dputD (kvs.map (·.1)) ds k d = .dct ((stored kvs k v).map (·.1)) ds' ∧ AllD W K ((stored kvs k v).map (·.2)) ds' := by
  unfold dputD stored
  have e : ((kvs.map (·.1)).any fun x => decide (x = k)) = kvs.any fun kv => decide (kv.1 = k) := by rw [List.any_map]; rfl
  rw [e]
  by_cases q : (kvs.any fun kv => decide (kv.1 = k)) = true
  · rw [if_pos q, if_pos q]
    obtain ⟨a, b⟩ := map_stored (k := k) hd ha
    exact ⟨_, by rw [a], b⟩
  · rw [if_neg q, if_neg q]
    refine ⟨ds ++ [d], by simp, ?_⟩
    rw [List.map_append]
    exact ha.append (.cons hd .nil)

theorem dset_sound {K : KM} {s : Shared} {a : Addr} {ks : List Int} {ds : List D} {k : Int} {t : Tok} {v : Value} {d : D} (ok : Ok W K s) (hl : IsLV W K s.heap (.ref a) (.o (.dct ks ds))) (hd : IsD W K v d) (hln : ks.length ≤ line) :
    wpAny (model W.prog W.w) A (dictSet a (.int k t) v) (fun _ s' => ExtB W (· = a) K s K s' ∧ IsLV W K s'.heap (.ref a) (.o (dputD ks ds k d))) E s := by
  cases hl with
  | dct w h c o r =>
    rename_i ob kvs
    have := line_le
    rw [List.length_map] at hln
    refine wpAny_dictSet_pairs (knd := W.ik) (intKind_is _ _ k t) (Heap.dictOf_iff.mpr ⟨_, h, o⟩) (fun h' hd' hsb => ?_) (by omega)
    refine ⟨ExtB.upds ok (by rintro b rfl; exact w) (fun b o nb e => (hsb.2 b nb).trans e) (Nat.le_succ _), ?_⟩
    refine hide fun GG kk => ?_
    obtain ⟨o', ho', hd''⟩ := Heap.dictOf_iff.mp hd'
    obtain ⟨ds', e1, e2⟩ := stored_put (k := k) hd r
    refine kk ?_
    clear kk GG
    rw [e1]
    exact .dct w ho' c hd'' e2

/-! what is done with an item -/
noncomputable def appF (f : DE) : Sto → D → Option D := fun σ acc => match acc with
  | .lst l => match f σ with
    | some d => if l.length ≤ line then some (.lst (l ++ [d])) else none
    | none => none
  | _ => none
noncomputable def dctF (f g : DE) : Sto → D → Option D := fun σ acc => match acc with
  | .dct ks ds => match f σ, g σ with
    | some (.int k), some d => if ks.length ≤ line then some (dputD ks ds k d) else none
    | _, _ => none
  | _ => none
noncomputable def dropL : List Nat → Sto → Sto
  | [], σ => σ
  | i :: l, σ => dropL l (σ.drop i)
theorem dropL_sub : ∀ (l : List Nat) (σ : Sto) (i : Nat) (v : LV), (dropL l σ).get i = some v → σ.get i = some v
  | [], σ, i, v, e => e
  | j :: l, σ, i, v, e => by
    have := dropL_sub l _ i v e
    rw [Sto.get_drop] at this
    split at this
    · cases this
    · exact this
theorem dropL_none : ∀ (l : List Nat) (σ : Sto) (i : Nat), i ∈ l → (dropL l σ).get i = none
  | j :: l, σ, i, h => by
    cases q : (dropL (j :: l) σ).get i with
    | none => rfl
    | some v =>
      have e := dropL_sub l (σ.drop j) i v q
      rw [Sto.get_drop] at e
      split at e
      · cases e
      · rename_i hne
        have := dropL_none l (σ.drop j) i (by simpa [hne] using h)
        have q' : (dropL l (σ.drop j)).get i = some v := q
        rw [this] at q'; cases q'
noncomputable def inF (ids : List Nat) (it : Sto → Option (List D)) (p : Pt) (c : DB) (last : Sto → D → Option D) : Sto → D → Option D := fun σ acc => match it σ with
  | some ds => foldC p c last (dropL ids σ) ds acc
  | none => none

theorem CS.grow {cenv : Env} {C Da : Addr} {σ σ₀ : Sto} {acc acc' : D} {K K' : KM} {m : Str → Option Value} {s s' : Shared} (x : CS W cenv C Da σ acc K m s) (e : ExtB W (· = Da) K s K' s') (h : IsLV W K' s'.heap (.ref Da) (.o acc')) (hs : ∀ i l, σ₀.get i = some l → σ.get i = some l) : CS W cenv C Da σ₀ acc' K' m s' :=
  ⟨e.ok, (x.rd.extB e fun a ha hb => (x.bs ha).elim (fun q => x.ne (hb.symm.trans q)) fun ⟨n, q⟩ => (x.nc n a q).2 hb).sub hs, x.lc, h, x.ne, x.nc, fun i d q => x.no i d (hs _ _ q)⟩

theorem last_app {n : Nat} {cenv : Env} {C Da : Addr} {f : DE} {elt : Expr} (h : SE W n cenv.scope f elt) : (rm : Room W A n) → LastOk W A n cenv C Da [] (appF f) (lastApp elt (.ref Da) cenv) := by
  intro rm σ acc acc' K m s E k Q e x hk
  unfold appF at e
  refine hide fun GG kk => ?_
  split at e
  case h_2 => cases e
  split at e
  case h_2 => cases e
  rename_i l d hd
  split at e
  case isFalse => cases e
  rename_i hln
  cases e
  refine kk ?_
  clear kk GG
  unfold lastApp
  refine wpAny_bind (wpAny_bind (wpAny_mono (h A cenv σ m K s d E rfl hd x.ok x.rd rm) (fun v s₁ ⟨K₁, x₁, i₁⟩ => ?_) fun _ _ h => h))
  have y := x.ext x₁
  refine wpAny_bind (wpAny_mono (append_sound y.ok y.acc i₁ hln) (fun r s₂ ⟨_, e₂, i₂⟩ => wpAny_pure ?_) fun _ _ h => h)
  exact hk s₂ K₁ m (x₁.toB.trans e₂ fun a h => .inl (.inr h)) fun σ₀ hs _ => y.grow e₂ i₂ hs

theorem last_dct {n : Nat} {cenv : Env} {C Da : Addr} {f g : DE} {ke ve : Expr} (h : SE W n cenv.scope f ke) (h' : SE W n cenv.scope g ve) (rm : Room W A n) : LastOk W A n cenv C Da [] (dctF f g) (lastDct ke ve Da cenv) := by
  intro σ acc acc' K m s E k Q e x hk
  unfold dctF at e
  split at e
  case h_2 => cases e
  split at e
  case h_2 => cases e
  rename_i ks ds _ _ kk d hd1 hd2
  split at e
  case isFalse => cases e
  rename_i hln
  cases e
  unfold lastDct
  refine wpAny_bind (wpAny_bind (wpAny_mono (h A cenv σ m K s _ E rfl hd1 x.ok x.rd rm) (fun v s₁ ⟨K₁, x₁, i₁⟩ => ?_) fun _ _ h => h))
  have y := x.ext x₁
  refine wpAny_bind (wpAny_holding (wpAny_mono (h' A cenv σ m K₁ s₁ d E rfl hd2 y.ok y.rd rm) (fun vv s₂ ⟨K₂, x₂, i₂⟩ => ?_) fun _ _ h => h))
  have z := y.ext x₂
  obtain ⟨t, rfl⟩ := i₁.int_inv
  refine wpAny_bind (wpAny_standAt (wpAny_holding (wpAny_mono (dset_sound z.ok z.acc i₂ hln) (fun r s₃ ⟨e₃, i₃⟩ => ?_) fun _ _ h => h)))
  exact hk s₃ K₂ m ((x₁.trans x₂).toB.trans e₃ fun a h => .inl (.inr h)) fun σ₀ hs _ => z.grow e₃ i₃ hs

/-- an iterable, evaluated -/
noncomputable def SI (W : Wd) (n : Nat) (sc : Scope) (tgt : Expr) (f : Sto → Option (List D)) (e : Expr) : Prop :=
  ∀ (A : Around) (env : Env) (σ : Sto) (m : Str → Option Value) (K : KM) (s : Shared) (ds : List D) (E : Value → Shared → Prop), env.scope = sc → f σ = some ds → Ok W K s → RdOk W K env s.heap m σ → Room W A n →
    wpAny (model W.prog W.w) A (eval e env) (fun x s₁ => wpAny (model W.prog W.w) A (pyIter x) (RI W A tgt K s ds) E s₁) E s

theorem compStart_run {e : Expr} {depth : Nat} {it acc : Value} {env : Env} {g : Comprehension} {R : Result → Shared → Prop} {s : Shared} (hg : (clausesOf e)[depth]? = some g) (ha : g.is_async = 0) (hf : (Code.compStart e depth it acc env).isFrame = false)
    (hun : ∀ it', (Code.compLoop e depth it' acc env).quiet = true) (hA : A.under (.compStart e depth it acc env) = A)
    (h : codeAny (model W.prog W.w) A (.compLoop e depth it acc env) R s) (hself : ∀ (Q : Value → Shared → Prop) (E : Value → Shared → Prop), Q it s → wpAny (model W.prog W.w) A (pyIter it) Q E s) :
    codeAny (model W.prog W.w) A (.compStart e depth it acc env) R s := by
  refine codeAny_of_tree ?_
  rw [hA]
  show wpAny _ A (if (Code.compStart e depth it acc env).isFrame = true then (compStart e depth it acc env).onRaise (leaving env) else (compStart e depth it acc env).onRaise (fun x => do noteFrame x env; standAt theWindowsPlace)) _ _ s
  rw [if_neg (by rw [hf]; simp)]
  refine wpAny_notedAt ?_
  unfold compStart
  rw [hg]
  have h0 : ((some g).elim false fun x => x.is_async != 0) = false := by simp [ha]
  rw [h0]
  simp only [Bool.false_eq_true, if_false]
  refine wpAny_bind (wpAny_askSetting (wpAny_ite ?_))
  split
  · exact wpAny_pure ⟨hun it, h⟩
  · refine wpAny_bind (wpAny_rule (wpAny_bind (wpAny_standAt (wpAny_bind (hself _ _ (wpAny_pure ⟨hun it, h⟩))))))
end
end Mine
namespace Mine
open PySem PySem.W PySem.Calls PyProof.Rows

theorem nm_dot {i : Nat} (hi : i < nN) : nm i ≠ (".0" : Str) := by
  intro e
  have h : codeOf (nm i) ∈ nmCodes := by unfold nmCodes; exact List.mem_map.mpr ⟨i, List.mem_range.mpr hi, rfl⟩
  rw [e] at h
  have h' : nmCodes.contains (codeOf (".0" : Str)) = true := by simpa using h
  have : nmCodes.contains (codeOf (".0" : Str)) = false := by decide +kernel
  rw [this] at h'; cases h'

/-- a comprehension's scope within the scope sc; ids are its own names -/
noncomputable def compOkB (sc csc : Scope) (ids : List Nat) : Bool :=
  (csc.names.lookup (nm 51) != some .local) && (csc.kind == .function && csc.names.all (fun y => y.2 != .cell && (y.2 != .local || (csc.names.lookup y.1 == some .local && (y.1 == (".0" : Str) || ids.any fun i => nm i == y.1 && Nat.blt i nN))) && (y.2 != .free || sc.names.lookup y.1 == some .cell)))

/-- the inner scope -/
noncomputable def relS (csc sc : Scope) : Scope := relabel csc { scope := sc, locals := 0, globals := 0, cells := [] }
theorem relS_eq (csc : Scope) (env : Env) : relabel csc env = relS csc env.scope := rfl

structure CompOk (sc csc : Scope) (ids : List Nat) : Prop where
  kind : csc.kind = .function
  cell : ∀ y ∈ csc.names, y.2 ≠ .cell
  names : ∀ y ∈ csc.names, y.2 = .local → csc.names.lookup y.1 = some .local
  own : ∀ i, i < nN → csc.names.lookup (nm i) = some .local → i ∈ ids
  free : ∀ y ∈ csc.names, y.2 = .free → sc.names.lookup y.1 = some .cell
  no : csc.names.lookup (nm 51) ≠ some .local
theorem CompOk.of {sc csc : Scope} {ids : List Nat} (h : compOkB sc csc ids = true) : CompOk sc csc ids := by
  unfold compOkB at h
  obtain ⟨hno, h⟩ := Bool.and_eq_true_iff.mp h
  simp only [Bool.and_eq_true, beq_iff_eq, List.all_eq_true] at h
  obtain ⟨hk, ha⟩ := h
  refine ⟨hk, fun y hy => ?_, fun y hy hl => ?_, fun i hi hl => ?_, fun y hy hf => ?_, by simpa using hno⟩
  · simpa using (ha y hy).1.1
  · have := (ha y hy).1.2
    rw [hl] at this
    simp only [bne_self_eq_false, Bool.false_or, Bool.and_eq_true, beq_iff_eq] at this
    exact this.1
  · have hm := mem_of_lookup hl
    have := (ha _ hm).1.2
    simp only [bne_self_eq_false, Bool.false_or, Bool.and_eq_true, beq_iff_eq, Bool.or_eq_true, List.any_eq_true, Nat.blt_eq] at this
    rcases this.2 with h | ⟨j, hj, h1, h2⟩
    · exact absurd h (nm_dot hi)
    · rw [← nm_inj h2 hi h1]; exact hj
  · have := (ha y hy).2
    rw [hf] at this
    simpa using this

theorem lookup_relabel {env : Env} : ∀ {names : List (Str × NameKind)} {x : Str}, (names.map fun (n, k) => if (k == NameKind.free && env.scope.kind == .function && env.kindOf n == some .cell) then (n, NameKind.cell) else (n, k)).lookup x =
    (names.lookup x).map fun k => if (k == NameKind.free && env.scope.kind == .function && env.kindOf x == some .cell) = true then NameKind.cell else k
  | [], _ => rfl
  | (n, k) :: r, x => by
    have ih := @lookup_relabel env r x
    show List.lookup x ((if (k == NameKind.free && env.scope.kind == .function && env.kindOf n == some .cell) = true then (n, NameKind.cell) else (n, k)) :: _) = _
    cases hx : x == n with
    | true =>
      have := beq_iff_eq.mp hx
      subst this
      by_cases hc : (k == NameKind.free && env.scope.kind == .function && env.kindOf x == some .cell) = true
      · rw [if_pos hc]; simp only [List.lookup_cons, hx, Option.map_some, if_pos hc]
      · rw [if_neg hc]; simp only [List.lookup_cons, hx, Option.map_some, if_neg hc]
    | false =>
      by_cases hc : (k == NameKind.free && env.scope.kind == .function && env.kindOf n == some .cell) = true
      · rw [if_pos hc]; simp only [List.lookup_cons, hx]; exact ih
      · rw [if_neg hc]; simp only [List.lookup_cons, hx]; exact ih

theorem closure_go {env : Env} : ∀ (names : List (Str × NameKind)) (acc : List (Str × Addr)), (∀ y ∈ names, y.2 = .free → ∃ c, env.cells.lookup y.1 = some c) → (∀ n c, acc.lookup n = some c → env.cells.lookup n = some c) →
    ∃ cl, (forIn names acc (fun (x : Str × NameKind) (cs : List (Str × Addr)) => (if (x.2 == NameKind.free) = true then do let a ← cellOf env x.1; pure (ForInStep.yield ((x.1, a) :: cs)) else pure (ForInStep.yield cs) : Sem (ForInStep (List (Str × Addr))))) : Sem (List (Str × Addr))) = pure cl ∧
      (∀ n c, cl.lookup n = some c → env.cells.lookup n = some c) ∧ (∀ n c, acc.lookup n = some c → ∃ c', cl.lookup n = some c') ∧ ∀ y ∈ names, y.2 = .free → ∃ c, cl.lookup y.1 = some c
  | [], acc, _, ha => ⟨acc, rfl, ha, fun n c h => ⟨c, h⟩, fun _ h => nomatch h⟩
  | (n, k) :: r, acc, hf, ha => by
    by_cases hk : (k == NameKind.free) = true
    · obtain ⟨c, hc⟩ := hf (n, k) (.head _) (by simpa using hk)
      have ha' : ∀ n' c', ((n, c) :: acc).lookup n' = some c' → env.cells.lookup n' = some c' := by
        intro n' c' e
        rw [List.lookup_cons] at e
        cases hb : n' == n with
        | true => rw [hb] at e; cases e; rw [beq_iff_eq.mp hb]; exact hc
        | false => rw [hb] at e; exact ha _ _ e
      obtain ⟨cl, h1, h2, h3, h4⟩ := closure_go r ((n, c) :: acc) (fun y hy => hf y (.tail _ hy)) ha'
      refine ⟨cl, ?_, h2, fun n' c' e => ?_, fun y hy hfr => ?_⟩
      · rw [List.forIn_cons]
        have e1 : cellOf env n = pure c := by unfold cellOf; rw [hc]
        simp only [hk, if_true, e1]
        exact h1
      · cases hb : n' == n with
        | true => exact h3 n' c (by rw [List.lookup_cons, hb])
        | false => exact h3 n' c' (by rw [List.lookup_cons, hb]; exact e)
      · rcases List.mem_cons.mp hy with rfl | hy
        · exact h3 n c (by rw [List.lookup_cons, beq_self_eq_true])
        · exact h4 y hy hfr
    · obtain ⟨cl, h1, h2, h3, h4⟩ := closure_go r acc (fun y hy => hf y (.tail _ hy)) ha
      refine ⟨cl, ?_, h2, h3, fun y hy hfr => ?_⟩
      · rw [List.forIn_cons]
        simp only [hk, Bool.false_eq_true, if_false]
        exact h1
      · rcases List.mem_cons.mp hy with rfl | hy
        · exact absurd hfr (by simpa using hk)
        · exact h4 y hy hfr
theorem closure_of {env : Env} {csc : Scope} (hf : ∀ y ∈ csc.names, y.2 = .free → ∃ c, env.cells.lookup y.1 = some c) : ∃ cl, closureFor csc env = pure cl ∧ (∀ n c, cl.lookup n = some c → env.cells.lookup n = some c) ∧ ∀ y ∈ csc.names, y.2 = .free → ∃ c, cl.lookup y.1 = some c := by
  obtain ⟨cl, h1, h2, _, h4⟩ := closure_go (env := env) csc.names [] hf (fun _ _ h => by simp at h)
  refine ⟨cl, ?_, h2, h4⟩
  unfold closureFor
  exact (congrArg (fun (t : Sem (List (Str × Addr))) => t >>= fun s => pure s) h1).trans rfl
end Mine
namespace Mine
open PySem PySem.W PySem.Calls PyProof.Rows

section
variable {W : Wd} {A : Around} {E : Value → Shared → Prop}

theorem no_own (ids : List Nat) (σ : Sto) (i : Nat) (d : D) : (dropL ids σ.vs).get i ≠ some (.o d) := by
  intro e
  obtain ⟨⟨d', h⟩, _⟩ := Sto.get_vs σ i _ (dropL_sub ids _ i _ e)
  cases h

theorem comp_rd {K : KM} {env : Env} {s : Shared} {m m₀ : Str → Option Value} {σ : Sto} {csc : Scope} {ids : List Nat} {cl : List (Str × Addr)} {C : Addr} (R : RdOk W K env s.heap m σ) (co : CompOk env.scope csc ids)
    (h2 : ∀ n c, cl.lookup n = some c → env.cells.lookup n = some c) (h4 : ∀ y ∈ csc.names, y.2 = .free → ∃ c, cl.lookup y.1 = some c) (w : Own W K C) (hn : s.heap.Ns C m₀) : RdOk W K (compEnvC csc cl C env) s.heap m₀ (dropL ids σ.vs) := by
  have kd : ∀ x, (compEnvC csc cl C env).kindOf x = (csc.names.lookup x).map fun k => if (k == NameKind.free && env.scope.kind == .function && env.kindOf x == some .cell) = true then NameKind.cell else k := fun x => lookup_relabel
  have kc : ∀ x k, csc.names.lookup x = some k → k ≠ .cell := fun x k e => co.cell _ (mem_of_lookup e)
  have fr : ∀ x, csc.names.lookup x = some .free → env.kindOf x = some .cell := fun x e => co.free _ (mem_of_lookup e) rfl
  exact
  { kind := co.kind
    gl := R.gl
    bi := R.bi
    ol := w.toL
    oc := fun n c e => R.oc n c (h2 n c e)
    inj := fun n n' c e e' => R.inj n n' c (h2 _ _ e) (h2 _ _ e')
    cd := fun h => by
      rw [kd] at h
      cases q : csc.names.lookup (nm 51) with
      | none => rw [q] at h; cases h
      | some k =>
        rw [q] at h
        have h' := Option.some.inj h
        dsimp only at h'
        split at h'
        · cases h'
        · exact absurd (q.trans (congrArg some h')) co.no
    cx := fun x e => by
      rw [kd] at e
      cases q : csc.names.lookup x with
      | none => rw [q] at e; cases e
      | some k =>
        rw [q, Option.map_some] at e
        cases k with
        | free => exact h4 _ (mem_of_lookup q) rfl
        | cell => exact absurd rfl (kc _ _ q)
        | «local» => cases e
        | globalExplicit => cases e
        | globalImplicit => cases e
    ns := hn
    rd := fun i l hi e hk => by
      have hd : i ∉ ids := fun hm => by rw [dropL_none ids _ i hm] at e; cases e
      obtain ⟨⟨d, rfl⟩, es⟩ := Sto.get_vs σ i _ (dropL_sub ids _ i _ e)
      rw [kd] at hk
      cases q : csc.names.lookup (nm i) with
      | none => rw [q] at hk; cases hk
      | some k =>
        rw [q, Option.map_some] at hk
        cases k with
        | free =>
          have hc := fr _ q
          obtain ⟨v, a, b⟩ := R.rd i _ hi es (by rw [hc]; rfl)
          refine ⟨v, ?_, b⟩
          obtain ⟨c, hcl⟩ := h4 _ (mem_of_lookup q) rfl
          have hce := h2 _ _ hcl
          have kk : (compEnvC csc cl C env).kindOf (nm i) = some .cell := by
            rw [kd, q, Option.map_some, if_pos]
            simp [R.kind, hc]
          unfold valOf at a ⊢
          rw [hc] at a
          rw [kk]
          have e1 : (compEnvC csc cl C env).cells.lookup (nm i) = some c := hcl
          simp only [hce] at a
          simp only [e1]
          exact a
        | cell => exact absurd rfl (kc _ _ q)
        | «local» => exact absurd (co.own i hi q) hd
        | globalExplicit => cases hk
        | globalImplicit => cases hk
    ap := fun i d a hi e => absurd e (no_own ids σ i d)
    ap2 := fun i j d e a hi hj e1 => absurd e1 (no_own ids σ i d) }

/-- frozen at last -/
theorem freeze_lv {K : KM} {h : Heap} {a : Addr} {d : D} (i : IsLV W K h (.ref a) (.o d)) : ∃ o, h.get? a = some o ∧ Own W K a ∧ IsD W (putK K a o) (.ref a) d := by
  cases i with
  | lst w h r => exact ⟨_, h, w, .lst (putK_self _ _ _) rfl rfl (by simpa using r.mono fun b o e => putK_of w.1 e)⟩
  | dct w h c o r => exact ⟨_, h, w, .dct (putK_self _ _ _) c o (r.mono fun b o e => putK_of w.1 e)⟩

theorem comp_inner {n : Nat} {e : Expr} {csc : Scope} {env : Env} {g : Comprehension} {σ : Sto} {m : Str → Option Value} {K : KM} {s : Shared} {ids : List Nat} {ds : List D} {acc₀ accF : D} {cl : List (Str × Addr)} {newAcc : Sem Value} (G : Good W)
    (co : CompOk env.scope csc ids) (h2 : ∀ n c, cl.lookup n = some c → env.cells.lookup n = some c) (h4 : ∀ y ∈ csc.names, y.2 = .free → ∃ c, cl.lookup y.1 = some c) (ok : Ok W K s) (R : RdOk W K env s.heap m σ) (rm : Room W A n)
    (hfirst : wpAny (model W.prog W.w) A (eval g.iter env) (fun x s₁ => wpAny (model W.prog W.w) A (pyIter x) (RI W A g.target K s ds) E s₁) E s)
    (hacc : ∀ (K : KM) (s : Shared) (Q : Value → Shared → Prop), Ok W K s → (∀ o, Ext W K s K { s with heap := s.heap.push o } → IsLV W K (s.heap.push o) (.ref s.heap.objs.size) (.o acc₀) → Q (.ref s.heap.objs.size) { s with heap := s.heap.push o }) → wpAny (model W.prog W.w) A newAcc Q E s)
    (hrun : ∀ (C Da : Addr) (it : Value) (wr : List Addr) (St : Nat → KM → Heap → Prop) (K : KM) (m₀ : Str → Option Value) (s : Shared), Src W A g.target it wr ds St → St 0 K s.heap → (∀ a ∈ wr, a ≠ C ∧ a ≠ Da ∧ ∀ n, cl.lookup n ≠ some a) →
      CS W (compEnvC csc cl C env) C Da (dropL ids σ.vs) acc₀ K m₀ s →
      codeAny (model W.prog W.w) A (.compStart e 0 it (.ref Da) (compEnvC csc cl C env)) (fun r s' => r = .ok .next ∧ ∃ K' m', ExtB W (fun a => a = C ∨ a = Da ∨ a ∈ wr) K s K' s' ∧ CS W (compEnvC csc cl C env) C Da (dropL ids σ.vs) accF K' m' s') s) :
    wpAny (model W.prog W.w) A (eval g.iter env) (fun x s₁ => wpAny (model W.prog W.w) A (pyIter x) (fun it s₂ => wpAny (model W.prog W.w) A newAcc (fun acc s₃ =>
      wpAny (model W.prog W.w) A (newFunctionEnv csc env.globals cl [] env.qual none .none (some env)) (fun cenv s₄ =>
        codeAny (model W.prog W.w) A (.compStart e 0 it acc { cenv with scope := relabel csc env }) (fun r s' => r = .ok .next ∧ ∃ K' m', Ext W K s K' s' ∧ IsD W K' acc accF ∧ s'.heap.Ns cenv.locals m' ∧ Own W K' cenv.locals ∧ s.heap.get? cenv.locals = none) s₄) E s₃) E s₂) E s₁) E s := by
  refine wpAny_mono hfirst (fun x s₁ h₁ => wpAny_mono h₁ (fun it s₂ h₂ => ?_) fun _ _ h => h) fun _ _ h => h
  obtain ⟨K₂, wr, St, x₂, S, st₂, hfr⟩ := h₂
  refine hacc K₂ s₂ _ x₂.ok fun o x₃ hl₃ => ?_
  generalize hDa : s₂.heap.objs.size = Da at hl₃ ⊢
  have hDf : s₂.heap.get? Da = none := hDa ▸ get_size_none _
  refine wpAny_newFunctionEnv co.cell (by intro y hy; simp at hy) (fun h' hn hsb => ?_) co.kind
  dsimp only at hn hsb ⊢
  generalize hC : (s₂.heap.push o).objs.size = C at hn hsb ⊢
  have hCf : (s₂.heap.push o).get? C = none := hC ▸ get_size_none _
  have keep : ∀ b o', (s₂.heap.push o).get? b = some o' → h'.get? b = some o' := fun b o' q => hsb.extBut b o' (fun q' => by rw [q', hCf] at q; cases q) (Heap.get?_push_of_some _ q)
  have x₄ : Ext W K₂ { s₂ with heap := s₂.heap.push o } K₂ { s₂ with heap := h', toks := s₂.toks + ([] : List (Str × Value)).length } := Ext.same (s := { s₂ with heap := s₂.heap.push o }) x₃.ok keep (Nat.le_add_right _ _)
  have wC : Own W K₂ C := Own.fresh (s := { s₂ with heap := s₂.heap.push o }) G x₃.ok hCf
  have hl₄ := hl₃.ext x₄
  have hne : Da ≠ C := by
    rintro rfl
    obtain ⟨o', e', _⟩ := freeze_lv hl₃
    rw [hCf] at e'; cases e'
  have xs := (x₂.trans x₃).trans x₄
  have R₄ := R.ext xs
  have cnone : s.heap.get? C = none := by
    cases q : s.heap.get? C with
    | none => rfl
    | some o' => have := (x₂.trans x₃).le.keep C o' wC.2.1 q; rw [hCf] at this; cases this
  have wD : Own W K₂ Da := (freeze_lv hl₃).choose_spec.2.1
  have dnone : s.heap.get? Da = none := by
    cases q : s.heap.get? Da with
    | none => rfl
    | some o' => have := x₂.le.keep Da o' wD.2.1 q; rw [hDf] at this; cases this
  have out := S.out 0 K₂ s₂.heap st₂
  have cs : CS W (compEnvC csc cl C env) C Da (dropL ids σ.vs) acc₀ K₂ _ { s₂ with heap := h', toks := s₂.toks + ([] : List (Str × Value)).length } :=
    { ok := x₄.ok
      rd := comp_rd R₄ co h2 h4 wC hn
      lc := rfl
      acc := hl₄
      ne := hne
      nc := fun n c q => by
        obtain ⟨_, v, oc, hoc, _⟩ := R.oc n c (h2 n c q)
        refine ⟨fun q' => ?_, fun q' => ?_⟩
        · rw [q', cnone] at hoc; cases hoc
        · rw [q', dnone] at hoc; cases hoc
      no := no_own ids σ }
  have st₄ := S.after (B := fun _ => False) st₂ (x₃.trans x₄).toB fun _ _ h => h
  have hwr : ∀ a ∈ wr, a ≠ C ∧ a ≠ Da ∧ ∀ n, cl.lookup n ≠ some a := fun a ha => by
    obtain ⟨wa, oa, ea⟩ := out a ha
    refine ⟨?_, ?_, fun n q => ?_⟩
    · rintro rfl; have := Heap.get?_push_of_some o ea; rw [hCf] at this; cases this
    · rintro rfl; rw [hDf] at ea; cases ea
    · obtain ⟨_, v, oc, hoc, _⟩ := R.oc n a (h2 n a q)
      rw [hfr a ha] at hoc; cases hoc
  refine codeAny_mono (hrun C Da it wr St K₂ _ _ S st₄ hwr cs) fun r s' ⟨hr, K₅, m₅, x₅, cs₅⟩ => ⟨hr, ?_⟩
  obtain ⟨oD, hoD, wD₅, iD⟩ := freeze_lv cs₅.acc
  have y : ExtB W (fun a => a = C ∨ a = Da ∨ a ∈ wr) K s K₅ s' := xs.toB.trans x₅ fun a h => .inl h
  have fresh : ∀ a, (a = C ∨ a = Da ∨ a ∈ wr) → s.heap.get? a = none := by
    rintro a (rfl | rfl | h)
    · exact cnone
    · exact dnone
    · exact hfr a h
  refine ⟨_, m₅, (y.freeze (.inl (.inr (.inl rfl))) wD₅ hoD).toExt fresh, iD, cs₅.rd.ns, ?_, cnone⟩
  have w₅ : Own W K₅ C := ⟨cs₅.rd.ol.1, wC.2⟩
  exact (⟨by unfold putK; rw [if_neg (Ne.symm hne)]; exact w₅.1, w₅.2⟩ : Own W (putK K₅ Da oD) C)
end
end Mine
namespace Mine
open PySem PySem.W PySem.Calls PyProof.Rows

/-- a comprehension's run, ahead of its names' being let go -/
structure CR (W : Wd) (n : Nat) (sc csc : Scope) (g : Comprehension) (newAcc : Sem Value) (f : DE) (e : Expr) : Prop where
  co : ∃ ids, CompOk sc csc ids
  cls : ∃ gs, clausesOf e = g :: gs
  set : ∀ env x, foldedSetIterable g.iter env x = pure x
  run : ∀ (A : Around) (env : Env) (σ : Sto) (m : Str → Option Value) (K : KM) (s : Shared) (accF : D) (E : Value → Shared → Prop) (cl : List (Str × Addr)), env.scope = sc → f σ = some accF → Ok W K s → RdOk W K env s.heap m σ → Room W A n →
    (∀ n c, cl.lookup n = some c → env.cells.lookup n = some c) → (∀ y ∈ csc.names, y.2 = .free → ∃ c, cl.lookup y.1 = some c) →
    wpAny (model W.prog W.w) A (eval g.iter env) (fun x s₁ => wpAny (model W.prog W.w) A (pyIter x) (fun it s₂ => wpAny (model W.prog W.w) A newAcc (fun acc s₃ =>
      wpAny (model W.prog W.w) A (newFunctionEnv csc env.globals cl [] env.qual none .none (some env)) (fun cenv s₄ =>
        codeAny (model W.prog W.w) A (.compStart e 0 it acc { cenv with scope := relabel csc env }) (fun r s' => r = .ok .next ∧ ∃ K' m', Ext W K s K' s' ∧ IsD W K' acc accF ∧ s'.heap.Ns cenv.locals m' ∧ Own W K' cenv.locals ∧ s.heap.get? cenv.locals = none) s₄) E s₃) E s₂) E s₁) E s

section
variable {W : Wd} {n : Nat} {sc csc : Scope}

theorem SE_comp (G : Good W) {g : Comprehension} {newAcc : Sem Value} {f : DE} {e : Expr} {pos : Pos} (c : CR W n sc csc g newAcc f e) (heval : ∀ env, eval e env = comprehension e csc env pos newAcc false (eval g.iter env) none) : SE W n sc f e := by
  intro A env σ m K s d E hs hf ok R rm
  refine hide fun GG kk => ?_
  subst hs
  obtain ⟨ids, co⟩ := c.co
  obtain ⟨gs, hcl⟩ := c.cls
  obtain ⟨cl, h1, h2, h4⟩ := closure_of (fun y hy hf => R.cx _ (co.free y hy hf))
  refine kk ?_
  clear kk GG
  rw [heval]
  refine wpAny_comprehension_free (use := none) hcl (c.set env) h1 co.kind co.names ?_
  refine wpAny_mono (c.run A env σ m K s d E cl rfl hf ok R rm h2 h4) (fun x s₁ h => wpAny_mono h (fun it s₂ h => wpAny_mono h (fun acc s₃ h => wpAny_mono h (fun cenv s₄ h => ?_) fun _ _ h => h) fun _ _ h => h) fun _ _ h => h) fun _ _ h => h
  refine codeAny_mono h fun r s' ⟨hr, K', m', x, i, hn, w, hnone⟩ => ?_
  subst hr
  refine ⟨m', hn, fun h' hsb => ?_⟩
  have y : ExtB W (· = cenv.locals) K' s' K' { s' with heap := h' } := ExtB.upds (n := s'.toks) x.ok (by rintro a rfl; exact w) (fun b o nb e => (hsb.2 b nb).trans e) (Nat.le_refl _)
  exact ⟨K', (x.toB.trans (B := (· = cenv.locals)) y fun a h => .inl h).toExt (by rintro a rfl; exact hnone), i⟩

/-- the names are the comprehension's own -/
noncomputable def locsB (csc : Scope) (ids : List Nat) : Bool := ids.all fun i => csc.names.lookup (nm i) == some .local

noncomputable def lcF (it : Sto → Option (List D)) (p : Pt) (c : DB) (f : DE) : DE := fun σ => match it σ with
  | some ds => foldC p c (appF f) (dropL p.ids σ.vs) ds (.lst [])
  | none => none
noncomputable def lcF2 (it : Sto → Option (List D)) (p : Pt) (c : DB) (it2 : Sto → Option (List D)) (p2 : Pt) (c2 : DB) (f : DE) : DE := fun σ => match it σ with
  | some ds => foldC p c (inF p2.ids it2 p2 c2 (appF f)) (dropL (p.ids ++ p2.ids) σ.vs) ds (.lst [])
  | none => none
noncomputable def dcF (it : Sto → Option (List D)) (p : Pt) (c : DB) (f g : DE) : DE := fun σ => match it σ with
  | some ds => foldC p c (dctF f g) (dropL p.ids σ.vs) ds (.dct [] [])
  | none => none

theorem new_list (G : Good W) {A : Around} {E : Value → Shared → Prop} (K : KM) (s : Shared) (Q : Value → Shared → Prop) (ok : Ok W K s) (h : ∀ o, Ext W K s K { s with heap := s.heap.push o } → IsLV W K (s.heap.push o) (.ref s.heap.objs.size) (.o (.lst [])) → Q (.ref s.heap.objs.size) { s with heap := s.heap.push o }) :
    wpAny (model W.prog W.w) A (newList []) Q E s := by
  refine wpAny_newList (h _ (Ext.same (n := s.toks) ok (fun _ _ e => Heap.get?_push_of_some _ e) (Nat.le_refl _)) ?_) (Nat.zero_le _)
  exact .lst (vs := []) (n := 0) (.fresh G ok (get_size_none _)) (Heap.get?_push_size _ rfl) .nil
theorem new_dct (G : Good W) {A : Around} {E : Value → Shared → Prop} (K : KM) (s : Shared) (Q : Value → Shared → Prop) (ok : Ok W K s) (h : ∀ o, Ext W K s K { s with heap := s.heap.push o } → IsLV W K (s.heap.push o) (.ref s.heap.objs.size) (.o (.dct [] [])) → Q (.ref s.heap.objs.size) { s with heap := s.heap.push o }) :
    wpAny (model W.prog W.w) A newDict Q E s := by
  refine wpAny_newObj_type (h _ (Ext.same (n := s.toks) ok (fun _ _ e => Heap.get?_push_of_some _ e) (Nat.le_refl _)) ?_) (Nat.zero_le _)
  obtain ⟨o, ho, hd⟩ := Heap.dictOf_iff.mp (new_dict (W := W) (h := s.heap))
  exact .dct (kvs := []) (.fresh G ok (get_size_none _)) ho (size_ne_sys G ok) hd .nil

theorem locs_of {env : Env} {ids : List Nat} (h : locsB csc ids = true) (cl : List (Str × Addr)) (C : Addr) : ∀ i ∈ ids, (compEnvC csc cl C env).kindOf (nm i) = some .local := fun i hi => by
  have := List.all_eq_true.mp h i hi
  exact lookup_relabel_local (beq_iff_eq.mp this)

theorem CR_l1 (G : Good W) {t i elt : Expr} {ifs : List Expr} {pos : Pos} {it : Sto → Option (List D)} {p : Pt} {c : DB} {f : DE} (hco : compOkB sc csc p.ids = true) (hloc : locsB csc p.ids = true) (hset : ∀ env x, foldedSetIterable i env x = pure x)
    (hit : SI W n sc t it i) (hp : PtOk (relS csc sc) p t) (hi : IfsOk W n (relS csc sc) c ifs) (he : SE W n (relS csc sc) f elt) : CR W n sc csc ⟨t, i, ifs, 0⟩ (newList []) (lcF it p c f) (.ListComp elt [⟨t, i, ifs, 0⟩] csc pos) where
  co := ⟨_, .of hco⟩
  cls := ⟨[], rfl⟩
  set := hset
  run := by
    intro A env σ m K s accF E cl hs hf ok R rm h2 h4
    refine hide fun GG kk => ?_
    subst hs
    unfold lcF at hf
    split at hf
    case h_2 => cases hf
    rename_i ds hds
    refine kk ?_
    clear kk GG
    refine comp_inner (acc₀ := .lst []) G (.of hco) h2 h4 ok R rm (hit A env σ m K s ds E rfl hds ok R rm) (fun K s Q ok h => new_list G K s Q ok h) fun C Da it' wr St K' m₀ s' S st hwr cs => ?_
    refine compStart_run (g := ⟨t, i, ifs, 0⟩) rfl rfl rfl (fun _ => rfl) rfl ?_ fun Q E h => S.self 0 K' s' Q E st h
    refine comp_loop (ipos := i.pos) (bad := []) rfl (fun Q E s h => ?_) S hp (locs_of hloc cl C) (fun i hi => dropL_none _ _ i hi) (fun _ h => nomatch h) hi (last_app he rm) rm hwr cs st hf
    show wpAny _ A ((compTurn (.ListComp elt [⟨t, i, ifs, 0⟩] csc pos) 0 it' (.ref Da) (compEnvC csc cl C env)).onRaise (fun x => do noteFrame x (compEnvC csc cl C env); theTreesLotGoes x)) Q E s
    refine wpAny_noted ?_
    rw [turn_l1]
    exact h _

theorem CR_d1 (G : Good W) {t i ke ve : Expr} {ifs : List Expr} {pos : Pos} {it : Sto → Option (List D)} {p : Pt} {c : DB} {f g : DE} (hco : compOkB sc csc p.ids = true) (hloc : locsB csc p.ids = true) (hset : ∀ env x, foldedSetIterable i env x = pure x)
    (hit : SI W n sc t it i) (hp : PtOk (relS csc sc) p t) (hi : IfsOk W n (relS csc sc) c ifs) (hk : SE W n (relS csc sc) f ke) (hv : SE W n (relS csc sc) g ve) : CR W n sc csc ⟨t, i, ifs, 0⟩ newDict (dcF it p c f g) (.DictComp ke ve [⟨t, i, ifs, 0⟩] csc pos) where
  co := ⟨_, .of hco⟩
  cls := ⟨[], rfl⟩
  set := hset
  run := by
    intro A env σ m K s accF E cl hs hf ok R rm h2 h4
    refine hide fun GG kk => ?_
    subst hs
    unfold dcF at hf
    split at hf
    case h_2 => cases hf
    rename_i ds hds
    refine kk ?_
    clear kk GG
    refine comp_inner (acc₀ := .dct [] []) G (.of hco) h2 h4 ok R rm (hit A env σ m K s ds E rfl hds ok R rm) (fun K s Q ok h => new_dct G K s Q ok h) fun C Da it' wr St K' m₀ s' S st hwr cs => ?_
    refine compStart_run (g := ⟨t, i, ifs, 0⟩) rfl rfl rfl (fun _ => rfl) rfl ?_ fun Q E h => S.self 0 K' s' Q E st h
    refine comp_loop (ipos := i.pos) (bad := []) rfl (fun Q E s h => ?_) S hp (locs_of hloc cl C) (fun i hi => dropL_none _ _ i hi) (fun _ h => nomatch h) hi (last_dct hk hv rm) rm hwr cs st hf
    show wpAny _ A ((compTurn (.DictComp ke ve [⟨t, i, ifs, 0⟩] csc pos) 0 it' (.ref Da) (compEnvC csc cl C env)).onRaise (fun x => do noteFrame x (compEnvC csc cl C env); theTreesLotGoes x)) Q E s
    refine wpAny_noted ?_
    rw [turn_d1]
    exact h _
end
end Mine
namespace Mine
open PySem PySem.W PySem.Calls PyProof.Rows

section
variable {W : Wd} {n : Nat} {sc csc : Scope}

theorem last_in {A : Around} {cenv : Env} {C Da : Addr} {i2 : Expr} {cc : Value → Code} {tgt : Expr} {ids : List Nat} {itF : Sto → Option (List D)} {p : Pt} {c : DB} {lastF : Sto → D → Option D} (hit : SI W n cenv.scope tgt itF i2) (hset : ∀ x, foldedSetIterable i2 cenv x = pure x) (rm : Room W A n)
    (hrun : ∀ (it : Value) (wr : List Addr) (St : Nat → KM → Heap → Prop) (K : KM) (m : Str → Option Value) (s : Shared) (σ : Sto) (ds : List D) (acc accF : D), Src W A tgt it wr ds St → St 0 K s.heap → (∀ a ∈ wr, a ≠ C ∧ a ≠ Da ∧ ∀ n, cenv.cells.lookup n ≠ some a) → CS W cenv C Da (dropL ids σ) acc K m s →
      foldC p c lastF (dropL ids σ) ds acc = some accF → codeAny (model W.prog W.w) A (cc it) (fun r s' => r = .ok .next ∧ ∃ K' m', ExtB W (fun a => a = C ∨ a = Da ∨ a ∈ wr) K s K' s' ∧ CS W cenv C Da (dropL ids σ) accF K' m' s') s) :
    LastOk W A n cenv C Da ids (inF ids itF p c lastF) (lastIn i2 cc cenv) := by
  intro σ acc acc' K m s E k Q e x hk
  unfold inF at e
  split at e
  case h_2 => cases e
  rename_i ds hds
  unfold lastIn
  refine wpAny_bind (wpAny_mono (hit A cenv σ m K s ds E rfl hds x.ok x.rd rm) (fun xv s₁ h₁ => wpAny_bind (wpAny_standAt (wpAny_bind (wpAny_of_eq (hset xv) (wpAny_bind (wpAny_holding (wpAny_mono h₁ (fun it s₂ h₂ => ?_) fun _ _ h => h))))))) fun _ _ h => h)
  obtain ⟨K₂, wr, St, x₂, S, st₂, hfr⟩ := h₂
  have y := (x.ext x₂).sub (σ' := dropL ids σ) (dropL_sub ids σ)
  have hwr : ∀ a ∈ wr, a ≠ C ∧ a ≠ Da ∧ ∀ n, cenv.cells.lookup n ≠ some a := fun a ha => by
    have hn := hfr a ha
    obtain ⟨⟨o1, h1⟩, ⟨o2, h2⟩⟩ := x.live
    refine ⟨fun q => ?_, fun q => ?_, fun n q => ?_⟩
    · rw [q, h1] at hn; cases hn
    · rw [q, h2] at hn; cases hn
    · obtain ⟨_, v, o, ho, _⟩ := x.rd.oc n a q
      rw [ho] at hn; cases hn
  refine wpAny_bind (wpAny_runOwn (codeAny_mono (hrun it wr St K₂ m s₂ σ ds acc acc' S st₂ hwr y e) fun r s₃ ⟨hr, K₃, m₃, x₃, y₃⟩ => ?_))
  subst hr
  have hx : ExtB W (fun a => a = C ∨ a = Da) K s K₃ s₃ := (x₂.toB.trans x₃ (B := fun a => a = C ∨ a = Da)) fun a h => by
    rcases h with h | h | h
    · exact .inl (.inl h)
    · exact .inl (.inr h)
    · exact .inr (hfr a h)
  refine hk s₃ K₃ m₃ hx fun σ₀ hs hb => y₃.sub fun i l hl => ?_
  have : (dropL ids σ).get i = some l := by
    have hi : i ∉ ids := fun hm => by rw [hb i hm] at hl; cases hl
    have hl' := hs i l hl
    rw [← hl']
    exact dropL_get ids σ i hi
  exact this
where
  dropL_get : ∀ (l : List Nat) (σ : Sto) (i : Nat), i ∉ l → (dropL l σ).get i = σ.get i
    | [], σ, i, _ => rfl
    | j :: l, σ, i, h => by
      simp only [List.mem_cons, not_or] at h
      show (dropL l (σ.drop j)).get i = _
      rw [dropL_get l _ i h.2, Sto.get_drop, if_neg h.1]

theorem CR_l2 (G : Good W) {t i t2 i2 elt : Expr} {ifs ifs2 : List Expr} {pos : Pos} {it it2 : Sto → Option (List D)} {p p2 : Pt} {c c2 : DB} {f : DE} (hco : compOkB sc csc (p.ids ++ p2.ids) = true) (hloc : locsB csc (p.ids ++ p2.ids) = true) (hset : ∀ env x, foldedSetIterable i env x = pure x) (hset2 : ∀ env x, foldedSetIterable i2 env x = pure x)
    (hit : SI W n sc t it i) (hp : PtOk (relS csc sc) p t) (hi : IfsOk W n (relS csc sc) c ifs) (hit2 : SI W n (relS csc sc) t2 it2 i2) (hp2 : PtOk (relS csc sc) p2 t2) (hi2 : IfsOk W n (relS csc sc) c2 ifs2) (he : SE W n (relS csc sc) f elt) :
    CR W n sc csc ⟨t, i, ifs, 0⟩ (newList []) (lcF2 it p c it2 p2 c2 f) (.ListComp elt [⟨t, i, ifs, 0⟩, ⟨t2, i2, ifs2, 0⟩] csc pos) where
  co := ⟨_, .of hco⟩
  cls := ⟨_, rfl⟩
  set := hset
  run := by
    intro A env σ m K s accF E cl hs hf ok R rm h2 h4
    refine hide fun GG kk => ?_
    subst hs
    unfold lcF2 at hf
    split at hf
    case h_2 => cases hf
    rename_i ds hds
    refine kk ?_
    clear kk GG
    refine comp_inner (acc₀ := .lst []) G (.of hco) h2 h4 ok R rm (hit A env σ m K s ds E rfl hds ok R rm) (fun K s Q ok h => new_list G K s Q ok h) fun C Da it' wr St K' m₀ s' S st hwr cs => ?_
    refine compStart_run (g := ⟨t, i, ifs, 0⟩) rfl rfl rfl (fun _ => rfl) rfl ?_ fun Q E h => S.self 0 K' s' Q E st h
    have hl : LastOk W A n (compEnvC csc cl C env) C Da p2.ids (inF p2.ids it2 p2 c2 (appF f)) (lastIn i2 (fun it => .compStart (.ListComp elt [⟨t, i, ifs, 0⟩, ⟨t2, i2, ifs2, 0⟩] csc pos) 1 it (.ref Da) (compEnvC csc cl C env)) (compEnvC csc cl C env)) := by
      refine last_in hit2 (hset2 _) rm fun it3 wr3 St3 K3 m3 s3 σ3 ds3 acc3 accF3 S3 st3 hwr3 cs3 hf3 => ?_
      refine compStart_run (g := ⟨t2, i2, ifs2, 0⟩) rfl rfl rfl (fun _ => rfl) rfl ?_ fun Q E h => S3.self 0 K3 s3 Q E st3 h
      refine comp_loop (ipos := i2.pos) (bad := []) rfl (fun Q E s h => ?_) S3 hp2 (fun i hi => locs_of hloc cl C i (List.mem_append_right _ hi)) (fun i hi => dropL_none _ _ i hi) (fun _ h => nomatch h) hi2 (last_app he rm) rm hwr3 cs3 st3 hf3
      show wpAny _ A ((compTurn (.ListComp elt [⟨t, i, ifs, 0⟩, ⟨t2, i2, ifs2, 0⟩] csc pos) 1 it3 (.ref Da) (compEnvC csc cl C env)).onRaise (fun x => do noteFrame x (compEnvC csc cl C env); theTreesLotGoes x)) Q E s
      refine wpAny_noted ?_
      rw [turn_l2b]
      exact h _
    refine comp_loop (ipos := i.pos) (bad := p2.ids) rfl (fun Q E s h => ?_) S hp (fun i hi => locs_of hloc cl C i (List.mem_append_left _ hi)) (fun i hi => dropL_none _ _ i (List.mem_append_left _ hi)) (fun i hi => dropL_none _ _ i (List.mem_append_right _ hi)) hi hl rm hwr cs st hf
    refine wpAny_noted ?_
    rw [turn_l2a]
    exact h _

/-! iterables -/
noncomputable def iLst (f : DE) : Sto → Option (List D) := fun σ => match f σ with
  | some (.lst l) => if l.length ≤ line then some l else none
  | _ => none
noncomputable def iSeq (f : DE) : Sto → Option (List D) := fun σ => match f σ with
  | some (.str x) => if x.cps.all (· < 128) = true then some (charsD x) else none
  | some (.dct ks _) => some (ks.map .int)
  | _ => none
noncomputable def iRng1 (f : DE) : Sto → Option (List D) := fun σ => match f σ with
  | some (.int b) => if small b = true then some (rngD 0 b) else none
  | _ => none
noncomputable def iRng2 (f g : DE) : Sto → Option (List D) := fun σ => match f σ, g σ with
  | some (.int a), some (.int b) => if (small a && small b) = true then some (rngD a b) else none
  | _, _ => none
noncomputable def iZip (f g : DE) : Sto → Option (List D) := fun σ => match f σ, g σ with
  | some (.lst a), some (.lst b) => some (zipD a b)
  | _, _ => none
noncomputable def iItems (f : DE) : Sto → Option (List D) := fun σ => match f σ with
  | some (.dct ks ds) => some (itemsD ks ds)
  | _ => none
noncomputable def iVals (f : DE) : Sto → Option (List D) := fun σ => match f σ with
  | some (.dct ks ds) => some ds
  | _ => none

theorem SI_lst (G : Good W) {tgt : Expr} {f : DE} {e : Expr} (h : SE W n sc f e) : SI W n sc tgt (iLst f) e := by
  intro A env σ m K s ds E hs hf ok R rm
  unfold iLst at hf
  refine hide fun GG kk => ?_
  split at hf
  case h_2 => cases hf
  rename_i l q
  split at hf
  case isFalse => cases hf
  cases hf
  refine kk ?_
  clear kk GG
  refine wpAny_mono (h A env σ m K s _ E hs q ok R rm) (fun v s₁ ⟨K₁, x₁, i₁⟩ => ?_) fun _ _ h => h
  exact wpAny_mono (iter_list G rm.hh x₁.ok i₁) (fun it s₂ h => .trans ok G x₁ h) fun _ _ h => h
theorem SI_seq (G : Good W) {tgt : Expr} {f : DE} {e : Expr} (h : SE W n sc f e) (hgo : ∀ I v, letOwnedTupleGo tgt I v = pure ()) : SI W n sc tgt (iSeq f) e := by
  intro A env σ m K s ds E hs hf ok R rm
  unfold iSeq at hf
  split at hf
  · rename_i x q
    split at hf
    case isFalse => cases hf
    rename_i ha
    cases hf
    refine wpAny_mono (h A env σ m K s _ E hs q ok R rm) (fun v s₁ ⟨K₁, x₁, i₁⟩ => ?_) fun _ _ h => h
    obtain ⟨_, rfl⟩ := i₁.str_inv
    exact wpAny_mono (iter_str G rm.hh x₁.ok ha hgo) (fun it s₂ h => .trans ok G x₁ h) fun _ _ h => h
  · rename_i ks ds' q
    cases hf
    refine wpAny_mono (h A env σ m K s _ E hs q ok R rm) (fun v s₁ ⟨K₁, x₁, i₁⟩ => ?_) fun _ _ h => h
    exact wpAny_mono (iter_keys G rm.hh x₁.ok i₁ hgo) (fun it s₂ h => .trans ok G x₁ h) fun _ _ h => h
  · cases hf

/-- a call of a type by its name -/
theorem call_type_name {A : Around} {env : Env} {σ : Sto} {m : Str → Option Value} {K : KM} {s : Shared} {E : Value → Shared → Prop} {x : Str} {T : String} {es : List Expr} {p pos : Pos} {g : Sto → Option (List D)} {l : List D} {Q : Value → Shared → Prop} (G : Good W) (hm : W.mg x = none) (hb : W.mb x = some (.type T)) (hk : sc.names.lookup x = some .globalImplicit) (hd : (x == ("__debug__" : Str)) = false)
    (ha : SLs W n sc g es) (hs : env.scope = sc) (q : g σ = some l) (ok : Ok W K s) (R : RdOk W K env s.heap m σ) (rm : Room W A n)
    (h : ∀ vs K₁ s₁, Ext W K s K₁ s₁ → AllD W K₁ vs l → wpAny (model W.prog W.w) A (call (.type T) vs) Q E s₁) : wpAny (model W.prog W.w) A (eval (.Call (.Name x p) es [] pos) env) Q E s := by
  refine Call_Name rfl (wpAny_Name ?_ hd)
  rw [loadName_read R.kind (by rw [Env.kindOf, hs]; exact hk)]
  refine loadGlobal_builtin (by rw [R.gl]; exact ok.g G) hm (by rw [R.bi]; exact ok.b G) hb ?_
  exact PyProof.Rows.callWith_type (ha.1 _ _) (evalArgs_of (ha.1 _ _) (wpAny_mono (ha.2.2 A env σ m K s l E pos hs q ok R rm) (fun vs s₁ ⟨K₁, x₁, i₁⟩ => h vs K₁ s₁ x₁ i₁) fun _ _ h => h))
end
end Mine
namespace Mine
open PySem PySem.W PySem.Calls PyProof.Rows

section
variable {W : Wd} {n : Nat} {sc csc : Scope}

theorem SI_rng1 (G : Good W) {tgt : Expr} {x : Str} {f : DE} {e : Expr} {p pos : Pos} (hm : W.mg x = none) (hb : W.mb x = some (.type "range")) (hk : sc.names.lookup x = some .globalImplicit) (hd : (x == ("__debug__" : Str)) = false) (ha : SLs W n sc (aCons f aNil) [e]) (hgo : ∀ I v, letOwnedTupleGo tgt I v = pure ()) :
    SI W n sc tgt (iRng1 f) (.Call (.Name x p) [e] [] pos) := by
  intro A env σ m K s ds E hs hf ok R rm
  unfold iRng1 at hf
  refine hide fun GG kk => ?_
  split at hf
  case h_2 => cases hf
  rename_i b q
  split at hf
  case isFalse => cases hf
  rename_i hsm
  cases hf
  refine kk ?_
  clear kk GG
  refine call_type_name G hm hb hk hd ha hs (l := [.int b]) (by simp [aCons, aNil, q]) ok R rm fun vs K₁ s₁ x₁ i₁ => ?_
  refine hide fun GG kk => ?_
  obtain ⟨v, rfl, i⟩ := i₁.inv1
  obtain ⟨t, rfl⟩ := i.int_inv
  refine kk ?_
  clear kk GG
  refine call_range_1 ?_
  have x₂ : Ext W K₁ s₁ K₁ { s₁ with heap := s₁.heap.push { cls := .type "range", data := .fields #[.int 0 s₁.toks, .int b t, .int 1 (s₁.toks + 1)] }, toks := s₁.toks + 1 + 1 } := Ext.same x₁.ok (fun _ _ e => Heap.get?_push_of_some _ e) (Nat.le_succ_of_le (Nat.le_succ _))
  exact wpAny_mono (iter_range G rm.hh x₂.ok (IsRange.new _ _ _ _ _ _ _) (by decide) hsm hgo) (fun it s₂ h => .trans ok G (x₁.trans x₂) h) fun _ _ h => h
theorem SI_rng2 (G : Good W) {tgt : Expr} {x : Str} {f g : DE} {e e' : Expr} {p pos : Pos} (hm : W.mg x = none) (hb : W.mb x = some (.type "range")) (hk : sc.names.lookup x = some .globalImplicit) (hd : (x == ("__debug__" : Str)) = false) (ha : SLs W n sc (aCons f (aCons g aNil)) [e, e']) (hgo : ∀ I v, letOwnedTupleGo tgt I v = pure ()) :
    SI W n sc tgt (iRng2 f g) (.Call (.Name x p) [e, e'] [] pos) := by
  intro A env σ m K s ds E hs hf ok R rm
  unfold iRng2 at hf
  refine hide fun GG kk => ?_
  split at hf
  case h_2 => cases hf
  rename_i a b q q'
  split at hf
  case isFalse => cases hf
  rename_i hsm
  simp only [Bool.and_eq_true] at hsm
  cases hf
  refine kk ?_
  clear kk GG
  refine call_type_name G hm hb hk hd ha hs (l := [.int a, .int b]) (by simp [aCons, aNil, q, q']) ok R rm fun vs K₁ s₁ x₁ i₁ => ?_
  refine hide fun GG kk => ?_
  obtain ⟨v, u, rfl, i, j⟩ := i₁.inv2
  obtain ⟨t, rfl⟩ := i.int_inv
  obtain ⟨t', rfl⟩ := j.int_inv
  refine kk ?_
  clear kk GG
  refine call_range_2 ?_
  have x₂ : Ext W K₁ s₁ K₁ { s₁ with heap := s₁.heap.push { cls := .type "range", data := .fields #[.int a t, .int b t', .int 1 s₁.toks] }, toks := s₁.toks + 1 } := Ext.same x₁.ok (fun _ _ e => Heap.get?_push_of_some _ e) (Nat.le_succ _)
  exact wpAny_mono (iter_range G rm.hh x₂.ok (IsRange.new _ _ _ _ _ _ _) hsm.1 hsm.2 hgo) (fun it s₂ h => .trans ok G (x₁.trans x₂) h) fun _ _ h => h
theorem SI_zip (G : Good W) {elts : List Expr} {k : Nat} {tp : Pos} {x : Str} {f g : DE} {e e' : Expr} {p pos : Pos} (hm : W.mg x = none) (hb : W.mb x = some (.type "zip")) (hk : sc.names.lookup x = some .globalImplicit) (hd : (x == ("__debug__" : Str)) = false) (ha : SLs W n sc (aCons f (aCons g aNil)) [e, e']) :
    SI W n sc (.Tuple elts k tp) (iZip f g) (.Call (.Name x p) [e, e'] [] pos) := by
  intro A env σ m K s ds E hs hf ok R rm
  unfold iZip at hf
  refine hide fun GG kk => ?_
  split at hf
  case h_2 => cases hf
  rename_i a b q q'
  cases hf
  refine kk ?_
  clear kk GG
  refine call_type_name G hm hb hk hd ha hs (l := [.lst a, .lst b]) (by simp [aCons, aNil, q, q']) ok R rm fun vs K₁ s₁ x₁ i₁ => ?_
  refine hide fun GG kk => ?_
  obtain ⟨v, u, rfl, i, j⟩ := i₁.inv2
  obtain ⟨a1, o1, vs1, n1, rfl, hk1, hc1, hd1, da1⟩ := frozen_list i
  obtain ⟨a2, o2, vs2, n2, rfl, hk2, hc2, hd2, da2⟩ := frozen_list j
  refine kk ?_
  clear kk GG
  exact wpAny_mono (iter_zip G rm.hh x₁.ok hk1 hc1 hd1 da1 hk2 hc2 hd2 da2) (fun z s₂ h => wpAny_mono h (fun it s₃ h => .trans ok G x₁ h) fun _ _ h => h) fun _ _ h => h
theorem SI_items (G : Good W) {elts : List Expr} {k : Nat} {tp : Pos} {f : DE} {o : Expr} {apos pos : Pos} (ho : SE W n sc f o) (hbase : ∀ env, attributeBase o "items" env (eval o env) = eval o env) (hline : (apos.endLine == pos.line) = true) :
    SI W n sc (.Tuple elts k tp) (iItems f) (.Call (.Attribute o "items" apos) [] [] pos) := by
  intro A env σ m K s ds E hs hf ok R rm
  unfold iItems at hf
  refine hide fun GG kk => ?_
  split at hf
  case h_2 => cases hf
  rename_i ks ds' q
  cases hf
  refine kk ?_
  clear kk GG
  refine wpAny_Call_method_late (hbase env) rfl hline rfl (wpAny_mono (ho A env σ m K s _ E hs q ok R rm) (fun ov s₁ ⟨K₁, x₁, i₁⟩ => ?_) fun _ _ h => h)
  refine hide fun GG kk => ?_
  obtain ⟨a, ob, kvs, rfl, hk, hsys, hdo, hkk, da⟩ := frozen_dict i₁
  refine kk ?_
  clear kk GG
  have hD : s₁.heap.DictOf W.ik a kvs := Heap.dictOf_iff.mpr ⟨ob, x₁.ok.sub _ _ hk, hdo⟩
  refine ⟨"dict", "dict.items", F.plainAttrs_dict, F.slot_dict_items, F.type_dict_items, hD.typeIs, hD.mapOf.noDict, ?_⟩
  refine method_meetsIn F.slot_dict_items F.entry_dict_items rfl (PyProof.Rows.evalArgs_none ⟨rfl, hD.typeIs, F.args_dict_items_1 _, _, meets_dict_items W.ik a hsys, ⟨kvs, hD⟩, ?_⟩)
  have x₂ : Ext W K₁ s₁ K₁ { s₁ with heap := s₁.heap.push { cls := .type "dict_items", data := .fields #[.ref a] } } := Ext.same (n := s₁.toks) x₁.ok (fun _ _ e => Heap.get?_push_of_some _ e) (Nat.le_refl _)
  exact wpAny_mono (iter_items G rm.hh x₂.ok i₁ ⟨_, Heap.get?_push_size _ rfl, rfl, rfl⟩) (fun it s₂ h => .trans ok G (x₁.trans x₂) h) fun _ _ h => h
theorem SI_vals (G : Good W) {tgt : Expr} {f : DE} {o : Expr} {apos pos : Pos} (ho : SE W n sc f o) (hbase : ∀ env, attributeBase o "values" env (eval o env) = eval o env) (hline : (apos.endLine == pos.line) = true) (hgo : ∀ I v, letOwnedTupleGo tgt I v = pure ()) :
    SI W n sc tgt (iVals f) (.Call (.Attribute o "values" apos) [] [] pos) := by
  intro A env σ m K s ds E hs hf ok R rm
  unfold iVals at hf
  refine hide fun GG kk => ?_
  split at hf
  case h_2 => cases hf
  rename_i ks ds' q
  cases hf
  refine kk ?_
  clear kk GG
  refine wpAny_Call_method_late (hbase env) rfl hline rfl (wpAny_mono (ho A env σ m K s _ E hs q ok R rm) (fun ov s₁ ⟨K₁, x₁, i₁⟩ => ?_) fun _ _ h => h)
  refine hide fun GG kk => ?_
  obtain ⟨a, ob, kvs, rfl, hk, hsys, hdo, hkk, da⟩ := frozen_dict i₁
  refine kk ?_
  clear kk GG
  have hD : s₁.heap.DictOf W.ik a kvs := Heap.dictOf_iff.mpr ⟨ob, x₁.ok.sub _ _ hk, hdo⟩
  refine ⟨"dict", "dict.values", F.plainAttrs_dict, F.slot_dict_values, F.type_dict_values, hD.typeIs, hD.mapOf.noDict, ?_⟩
  refine method_meetsIn F.slot_dict_values F.entry_dict_values rfl (PyProof.Rows.evalArgs_none ⟨rfl, hD.typeIs, F.args_dict_values_1 _, _, meets_dict_values W.ik a hsys, ⟨kvs, hD⟩, ?_⟩)
  have x₂ : Ext W K₁ s₁ K₁ { s₁ with heap := s₁.heap.push { cls := .type "dict_values", data := .fields #[.ref a] } } := Ext.same (n := s₁.toks) x₁.ok (fun _ _ e => Heap.get?_push_of_some _ e) (Nat.le_refl _)
  exact wpAny_mono (iter_vals G rm.hh x₂.ok i₁ ⟨_, Heap.get?_push_size _ rfl, rfl, rfl⟩ hgo) (fun it s₂ h => .trans ok G (x₁.trans x₂) h) fun _ _ h => h

/-! book.get(key, default) -/
noncomputable def eGet (fo : DL) (fk fd : DE) : DE := fun σ => match fo σ, fk σ, fd σ with
  | some o, some (.int k), some d => match o.d with
    | .dct ks ds => some ((dget ks ds k).getD d)
    | _ => none
  | _, _, _ => none
theorem SE_get (G : Good W) {fo : DL} {fk fd : DE} {o a b : Expr} {apos pos : Pos} (ho : SL W n sc fo o) (hk : SE W n sc fk a) (hd : SE W n sc fd b) (hbase : ∀ env, attributeBase o "get" env (eval o env) = eval o env) (hline : (apos.endLine == pos.line) = true)
    (hst : ∀ env, backTo pos (starEach [a, b] env) = [(false, eval a env), (false, eval b env)]) : SE W n sc (eGet fo fk fd) (.Call (.Attribute o "get" apos) [a, b] [] pos) := by
  intro A env σ m K s d E hs hf ok R rm
  unfold eGet at hf
  refine hide fun GG kk => ?_
  split at hf
  case h_2 => cases hf
  rename_i od k dd q1 q2 q3
  split at hf
  case h_2 => cases hf
  rename_i ks ds hod
  cases hf
  refine kk ?_
  clear kk GG
  refine wpAny_Call_method2_late (hbase env) hline (hst env) (wpAny_mono (ho A env σ m K s _ E hs q1 ok R rm) (fun ov s₁ ⟨K₁, x₁, i₁⟩ => ?_) fun _ _ h => h)
  have vw := i₁.view
  rw [hod] at vw
  refine hide fun GG kk => ?_
  obtain ⟨p, kvs, hp, hsys, hD, hks, da⟩ := vw.isDict x₁.ok.sub
  subst hp
  refine kk ?_
  clear kk GG
  refine ⟨"dict", "dict.get", F.plainAttrs_dict, F.slot_dict_get, F.type_dict_get, hD.typeIs, hD.mapOf.noDict, ?_⟩
  refine wpAny_dict_get2 (knd := W.ik) hsys (wpAny_mono (hk A env σ m K₁ s₁ _ E hs q2 x₁.ok (R.ext x₁) rm) (fun vk s₂ ⟨K₂, x₂, i₂⟩ => ?_) fun _ _ h => h)
  refine wpAny_mono (hd A env σ m K₂ s₂ _ E hs q3 x₂.ok (R.ext (x₁.trans x₂)) rm) (fun vd s₃ ⟨K₃, x₃, i₃⟩ => ?_) fun _ _ h => h
  refine hide fun GG kk => ?_
  obtain ⟨t, rfl⟩ := i₂.int_inv
  have vw3 := (i₁.ext (x₂.trans x₃)).view
  rw [hod] at vw3
  obtain ⟨p', kvs', hp', hsys', hD', hks', da'⟩ := vw3.isDict x₃.ok.sub
  cases hp'
  refine kk ?_
  clear kk GG
  refine ⟨k, _, intKind_is _ _ k t, hD'.mapOf, ?_⟩
  subst hks'
  rcases valueAt_dget da' k with ⟨y, d', e1, e2, e3⟩ | ⟨e1, e2⟩
  · rw [e1, e2]; exact .trans ((x₁.trans x₂).trans x₃) (.here x₃.ok (Nat.le_succ _) e3)
  · rw [e1, e2]; exact .trans ((x₁.trans x₂).trans x₃) (.here x₃.ok (Nat.le_succ _) i₃)

/-! isinstance(x, tuple) -/
noncomputable def eIsT (f : DE) : DE := fun σ => match f σ with
  | some (.tup _) => some (.bool true)
  | some (.int _) => some (.bool false)
  | _ => none
theorem SE_isT (G : Good W) {f : DE} {a : Expr} {p p2 pos : Pos} (hm : W.mg "isinstance" = none) (hb : W.mb "isinstance" = some (.builtin "isinstance")) (hk : sc.names.lookup ("isinstance" : Str) = some .globalImplicit) (hm2 : W.mg "tuple" = none) (hb2 : W.mb "tuple" = some (.type "tuple")) (hk2 : sc.names.lookup ("tuple" : Str) = some .globalImplicit)
    (ha : SE W n sc f a) (hst : ∀ env, backTo pos (starEach [a, .Name "tuple" p2] env) = [(false, eval a env), (false, eval (.Name "tuple" p2) env)]) : SE W n sc (eIsT f) (.Call (.Name "isinstance" p) [a, .Name "tuple" p2] [] pos) := by
  intro A env σ m K s d E hs hf ok R rm
  have go : ∀ d' r, f σ = some d' → (∀ v K₁ s₁, Ext W K s K₁ s₁ → IsD W K₁ v d' → wpAny (model W.prog W.w) A (call (.builtin "isinstance") [v, .type "tuple"]) (RV W K s r) E s₁) → wpAny (model W.prog W.w) A (eval (.Call (.Name "isinstance" p) [a, .Name "tuple" p2] [] pos) env) (RV W K s r) E s := by
    intro d' r q h
    refine Call_Name rfl (wpAny_Name ?_ (by decide +kernel))
    rw [loadName_read R.kind (by rw [Env.kindOf, hs]; exact hk)]
    refine loadGlobal_builtin (by rw [R.gl]; exact ok.g G) hm (by rw [R.bi]; exact ok.b G) hb ?_
    rw [hst]
    refine callWith_builtin rfl (evalArgs_of rfl (spliced_cons (wpAny_mono (ha A env σ m K s d' E hs q ok R rm) (fun v s₁ ⟨K₁, x₁, i₁⟩ => ?_) fun _ _ h => h)))
    refine spliced_cons (wpAny_Name ?_ (by decide +kernel))
    rw [loadName_read R.kind (by rw [Env.kindOf, hs]; exact hk2)]
    refine loadGlobal_builtin (by rw [R.gl]; exact x₁.ok.g G) hm2 (by rw [R.bi]; exact x₁.ok.b G) hb2 (wpAny_pure ?_)
    exact h v K₁ s₁ x₁ i₁
  unfold eIsT at hf
  split at hf
  · rename_i l q
    cases hf
    refine go _ _ q fun v K₁ s₁ x₁ i₁ => ?_
    cases i₁ with
    | tup hk hc hd' hal => exact PySem.IsiPair.tuple_tuple (x₁.ok.sub _ _ hk) hc (.trans x₁ (.now x₁.ok (.bool _)))
  · rename_i i q
    cases hf
    refine go _ _ q fun v K₁ s₁ x₁ i₁ => ?_
    obtain ⟨t, rfl⟩ := i₁.int_inv
    exact PySem.IsiPair.int_tuple (.trans x₁ (.here x₁.ok (Nat.le_succ _) (.bool _)))
  · cases hf
end
end Mine
namespace Mine
open PySem PySem.W PySem.Calls PyProof.Rows

inductive Fl where
  | next
  | brk
  | cont
  | ret (d : D)
noncomputable abbrev DS := Sto → Option (Fl × Sto)
noncomputable def FlOk (W : Wd) (K : KM) : Fl → Flow → Prop
  | .next, .next => True
  | .brk, .brk => True
  | .cont, .cont => True
  | .ret d, .ret v => IsD W K v d
  | _, _ => False
inductive RS (W : Wd) (env : Env) (K : KM) (m : Str → Option Value) (σ : Sto) (s : Shared) (fl : Fl) (σ' : Sto) (flow : Flow) (s' : Shared) : Prop where
  | mk (K' : KM) (m' : Str → Option Value) (x : ExtB W (Bs env s.heap m σ) K s K' s') (r : RdOk W K' env s'.heap m' σ') (b : ∀ a, Bs env s'.heap m' σ' a → Bs env s.heap m σ a ∨ s.heap.get? a = none) (f : FlOk W K' fl flow) : RS W env K m σ s fl σ' flow s'
noncomputable def S1 (W : Wd) (n : Nat) (sc : Scope) (f : DS) (st : Stmt) : Prop :=
  ∀ (A : Around) (env : Env) (σ : Sto) (m : Str → Option Value) (K : KM) (s : Shared) (r : Fl × Sto) (E : Value → Shared → Prop), env.scope = sc → f σ = some r → Ok W K s → RdOk W K env s.heap m σ → Room W A n →
    wpAny (model W.prog W.w) A (exec st env) (RS W env K m σ s r.1 r.2) E s
noncomputable def Ss (W : Wd) (n : Nat) (sc : Scope) (f : DS) (st : List Stmt) : Prop :=
  ∀ (A : Around) (env : Env) (σ : Sto) (m : Str → Option Value) (K : KM) (s : Shared) (r : Fl × Sto) (E : Value → Shared → Prop), env.scope = sc → f σ = some r → Ok W K s → RdOk W K env s.heap m σ → Room W A n →
    wpAny (model W.prog W.w) A (execs st env) (RS W env K m σ s r.1 r.2) E s

noncomputable def sNil : DS := fun σ => some (.next, σ)
noncomputable def sThen (f g : DS) : DS := fun σ => match f σ with
  | some (.next, σ') => g σ'
  | r => r
/-- the frame's lists and dicts are frozen where the step wants it -/
noncomputable def sTry (f : DS) : DS := fun σ => match f σ with
  | some r => some r
  | none => f σ.frz
noncomputable def sIf (c : DB) (f g : DS) : DS := fun σ => match c σ with
  | some true => f σ
  | some false => g σ
  | none => none
noncomputable def sRet (f : DE) : DS := fun σ => match f σ with
  | some d => some (.ret d, σ)
  | none => none
/-- a frame's own list or dict, given back -/
noncomputable def sRetO (f : DL) : DS := fun σ => match f σ with
  | some l => some (.ret l.d, σ.frz)
  | none => none
noncomputable def sBrk : DS := fun σ => some (.brk, σ)
noncomputable def sAsg (p : Pt) (f : DE) : DS := fun σ => match f σ with
  | some d => match bindP p d σ with
    | some σ' => some (.next, σ')
    | none => none
  | none => none
noncomputable def sNewL (i : Nat) : DS := fun σ => some (.next, σ.put i (.o (.lst [])))
noncomputable def sNewD (i : Nat) : DS := fun σ => some (.next, σ.put i (.o (.dct [] [])))
noncomputable def sAug (i : Nat) (op : BO) (f : DE) : DS := fun σ => match σ.get i, f σ with
  | some (.v (.int a)), some (.int b) => match op with
    | .add => some (.next, σ.put i (.v (.int (a + b))))
    | _ => none
  | _, _ => none
noncomputable def sApp (i : Nat) (f : DE) : DS := fun σ => match f σ, σ.get i with
  | some d, some (.o (.lst l)) => if l.length ≤ line then some (.next, σ.put i (.o (.lst (l ++ [d])))) else none
  | _, _ => none
noncomputable def sSet (i : Nat) (fk fv : DE) : DS := fun σ => match fv σ, σ.get i, fk σ with
  | some d, some (.o (.dct ks ds)), some (.int k) => if ks.length ≤ line then some (.next, σ.put i (.o (dputD ks ds k d))) else none
  | _, _, _ => none
noncomputable def sAugSet (i : Nat) (fk fv : DE) : DS := fun σ => match σ.get i, fk σ, fv σ with
  | some (.o (.dct ks ds)), some (.int k), some (.int b) => match dget ks ds k with
    | some (.int a) => if ks.length ≤ line then some (.next, σ.put i (.o (dputD ks ds k (.int (a + b))))) else none
    | _ => none
  | _, _, _ => none
noncomputable def goFor (p : Pt) (f : DS) : List D → Sto → Option (Fl × Sto)
  | [], σ => some (.next, σ)
  | d :: ds, σ => match bindP p d σ with
    | some σ' => match f σ' with
      | some (.next, σ'') => goFor p f ds σ''
      | some (.cont, σ'') => goFor p f ds σ''
      | some (.brk, σ'') => some (.next, σ'')
      | some (.ret d, σ'') => some (.ret d, σ'')
      | none => none
    | none => none
noncomputable def sFor (p : Pt) (it : Sto → Option (List D)) (f : DS) : DS := fun σ => match it σ with
  | some ds => goFor p f ds σ
  | none => none
noncomputable def goWhile (c : DB) (f : DS) : Nat → Sto → Option (Fl × Sto)
  | 0, _ => none
  | k + 1, σ => match c σ with
    | some true => match f σ with
      | some (.next, σ') => goWhile c f k σ'
      | some (.cont, σ') => goWhile c f k σ'
      | some (.brk, σ') => some (.next, σ')
      | some (.ret d, σ') => some (.ret d, σ')
      | none => none
    | some false => some (.next, σ)
    | none => none
noncomputable def sWhile (k : Nat) (c : DB) (f : DS) : DS := fun σ => goWhile c f k σ

section
variable {W : Wd} {n : Nat} {sc : Scope}

theorem RS.here {env : Env} {K K' : KM} {m : Str → Option Value} {σ : Sto} {s s' : Shared} (x : Ext W K s K' s') (R : RdOk W K env s.heap m σ) {fl : Fl} {flow : Flow} (h : FlOk W K' fl flow) : RS W env K m σ s fl σ flow s' :=
  ⟨K', m, x.toB, R.ext x, fun a ha => .inl ((Bs_ext R x a).mp ha), h⟩
theorem RS.of_ext {env : Env} {K K₁ : KM} {m : Str → Option Value} {σ σ' : Sto} {s s₁ s' : Shared} (x : Ext W K s K₁ s₁) (R : RdOk W K env s.heap m σ) (G : Good W) (ok : Ok W K s) {fl : Fl} {flow : Flow} (h : RS W env K₁ m σ s₁ fl σ' flow s') : RS W env K m σ s fl σ' flow s' := by
  obtain ⟨K', m', y, R', hb, hf⟩ := h
  refine ⟨K', m', x.toB.trans y fun a ha => .inl ((Bs_ext R x a).mp ha), R', fun a ha => ?_, hf⟩
  rcases hb a ha with h | h
  · exact .inl ((Bs_ext R x a).mp h)
  · exact .inr (get_none_of x.le (x.ok.ne_pt G h) h)
theorem RS.trans {env : Env} {K K₁ : KM} {m m₁ : Str → Option Value} {σ σ₁ σ' : Sto} {s s₁ s' : Shared} (G : Good W) (x : ExtB W (Bs env s.heap m σ) K s K₁ s₁) (hb₁ : ∀ a, Bs env s₁.heap m₁ σ₁ a → Bs env s.heap m σ a ∨ s.heap.get? a = none) {fl : Fl} {flow : Flow}
    (h : RS W env K₁ m₁ σ₁ s₁ fl σ' flow s') : RS W env K m σ s fl σ' flow s' := by
  obtain ⟨K', m', y, R', hb, hf⟩ := h
  refine ⟨K', m', x.trans y hb₁, R', fun a ha => ?_, hf⟩
  rcases hb a ha with h | h
  · exact hb₁ a h
  · by_cases q : Bs env s.heap m σ a
    · exact .inl q
    · refine .inr ?_
      cases z : s.heap.get? a with
      | none => rfl
      | some o => have := x.keep a o (x.ok.fr_fresh G h) q z; rw [h] at this; cases this

theorem Ss_nil : Ss W n sc sNil [] := by
  intro A env σ m K s r E hs hf ok R rm
  cases hf
  exact wpAny_execs_nil (.here (.refl ok) R trivial)
theorem Ss_cons (G : Good W) {f g : DS} {st : Stmt} {rest : List Stmt} (h1 : S1 W n sc f st) (h2 : Ss W n sc g rest) : Ss W n sc (sThen f g) (st :: rest) := by
  intro A env σ m K s r E hs hf ok R rm
  unfold sThen at hf
  split at hf
  · rename_i σ' q
    refine wpAny_execs_cons (wpAny_mono (h1 A env σ m K s _ E hs q ok R rm) (fun flow s₁ ⟨K₁, m₁, x₁, R₁, hb, ho⟩ => ?_) fun _ _ h => h)
    cases flow with
    | next => exact wpAny_mono (h2 A env σ' m₁ K₁ s₁ r E hs hf x₁.ok R₁ rm) (fun flow s₂ h => .trans G x₁ hb h) fun _ _ h => h
    | _ => exact ho.elim
  · rename_i hne
    refine wpAny_execs_cons (wpAny_mono (h1 A env σ m K s r E hs hf ok R rm) (fun flow s₁ h => ?_) fun _ _ h => h)
    obtain ⟨fl, σ'⟩ := r
    have hn : fl ≠ .next := fun q => by subst q; exact hne σ' hf
    obtain ⟨K₁, m₁, x₁, R₁, hb, ho⟩ := h
    cases flow with
    | next => cases fl <;> first | exact absurd rfl hn | exact ho.elim
    | _ => exact ⟨K₁, m₁, x₁, R₁, hb, ho⟩

/-- the frame's own are frozen -/
theorem frz_rd {env : Env} {K : KM} {m : Str → Option Value} {σ : Sto} {s : Shared} (ok : Ok W K s) (R : RdOk W K env s.heap m σ) : ∃ K', ExtB W (Bs env s.heap m σ) K s K' s ∧ RdOk W K' env s.heap m σ.frz ∧ (∀ a, Bs env s.heap m σ.frz a → Bs env s.heap m σ a) := by
  classical
  let P : Addr → Prop := fun a => ∃ i d, i < nN ∧ σ.get i = some (.o d) ∧ isV (env.kindOf (nm i)) = true ∧ valOf env s.heap m (nm i) = some (.ref a)
  have own : ∀ a, P a → Own W K a ∧ ∃ o, s.heap.get? a = some o := by
    rintro a ⟨i, d, hi, e, hk, hv⟩
    obtain ⟨v, h1, h2⟩ := R.rd i _ hi e hk
    rw [hv] at h1; cases h1
    obtain ⟨o, ho, w, _⟩ := freeze_lv h2
    exact ⟨w, o, ho⟩
  let K' : KM := fun a => if P a then s.heap.get? a else K a
  have kk : ∀ a o, K a = some o → K' a = some o := fun a o e => by
    show (if P a then s.heap.get? a else K a) = some o
    rw [if_neg]
    · exact e
    · intro h; rw [(own a h).1.1] at e; cases e
  have ok' : Ok W K' s := ⟨ok.base, fun a o e => by
      by_cases h : P a
      · have e' : (if P a then s.heap.get? a else K a) = some o := e
        rw [if_pos h] at e'; exact e'
      · have e' : (if P a then s.heap.get? a else K a) = some o := e
        rw [if_neg h] at e'; exact ok.sub a o e', by
      show (if P W.PT then _ else K W.PT) = none
      rw [if_neg fun h => (own _ h).1.2.1.1 rfl]; exact ok.pt, by
      show (if P W.LF then _ else K W.LF) = none
      rw [if_neg fun h => (own _ h).1.2.1.2 rfl]; exact ok.lf, ok.live, ok.b0, ok.tk⟩
  have x : ExtB W (Bs env s.heap m σ) K s K' s :=
    { keep := fun _ _ _ _ e => e
      lf := fun _ o e => ⟨o.slots, e⟩
      tab := fun ps hp e => ⟨#[], by simpa using hp, by simpa using e⟩
      kk := kk
      ok := ok'
      fr := fun a o e => by
        by_cases h : P a
        · obtain ⟨i, d, hi, e1, _, hv⟩ := h
          exact .inr (.inr (.inr (.inr ⟨i, d, hi, e1, hv⟩)))
        · have e' : (if P a then s.heap.get? a else K a) = some o := e
          rw [if_neg h] at e'; exact .inl e'
      os := rfl
      gens := id
      tk := Nat.le_refl _ }
  have nP : ∀ a, (a = env.locals ∨ ∃ n, env.cells.lookup n = some a) → ¬ P a := by
    rintro a ha ⟨i, d, hi, e, hk, hv⟩
    have := R.ap i d a hi e hv
    rcases ha with h | ⟨n, h⟩
    · exact this.1 h
    · exact this.2 n a h rfl
  have nk' : ∀ a, (a = env.locals ∨ ∃ n, env.cells.lookup n = some a) → K a = none → K' a = none := fun a ha w => by
    show (if P a then s.heap.get? a else K a) = none
    rw [if_neg (nP a ha)]; exact w
  have nof : ∀ i d, σ.frz.get i ≠ some (.o d) := fun i d e => by
    rw [Sto.get_frz] at e
    cases q : σ.get i with
    | none => rw [q] at e; cases e
    | some l => rw [q] at e; cases e
  refine ⟨K', x, ?_, fun a ha => ?_⟩
  · exact
    { kind := R.kind
      gl := R.gl
      bi := R.bi
      ol := ⟨nk' _ (.inl rfl) R.ol.1, R.ol.2⟩
      oc := fun n c e => ⟨⟨nk' c (.inr ⟨n, e⟩) (R.oc n c e).1.1, (R.oc n c e).1.2⟩, (R.oc n c e).2⟩
      inj := R.inj
      cd := R.cd
      cx := R.cx
      ns := R.ns
      rd := fun i l hi e hk => by
        rw [Sto.get_frz] at e
        cases q : σ.get i with
        | none => rw [q] at e; cases e
        | some l0 =>
          rw [q] at e; cases e
          obtain ⟨v, h1, h2⟩ := R.rd i l0 hi q hk
          refine ⟨v, h1, ?_⟩
          cases h2 with
          | v h => exact .v (h.mono kk)
          | lst w h r =>
            have hp : P _ := ⟨i, _, hi, q, hk, h1⟩
            exact .v (.lst (o := _) (by show (if P _ then s.heap.get? _ else K _) = _; rw [if_pos hp]; exact h) rfl rfl (by simpa using r.mono kk))
          | dct w h c o r =>
            have hp : P _ := ⟨i, _, hi, q, hk, h1⟩
            exact .v (.dct (by show (if P _ then s.heap.get? _ else K _) = _; rw [if_pos hp]; exact h) c o (r.mono kk))
      ap := fun i d a hi e => absurd e (nof i d)
      ap2 := fun i j d e a hi hj e1 => absurd e1 (nof i d) }
  · rcases ha with h | h | ⟨i, d, _, e, _⟩
    · exact .inl h
    · exact .inr (.inl h)
    · exact absurd e (nof i d)

theorem S1_try (G : Good W) {f : DS} {st : Stmt} (h : S1 W n sc f st) : S1 W n sc (sTry f) st := by
  intro A env σ m K s r E hs hf ok R rm
  unfold sTry at hf
  split at hf
  · rename_i r' q
    cases hf
    exact h A env σ m K s r E hs q ok R rm
  · obtain ⟨K', x, R', hb⟩ := frz_rd ok R
    exact wpAny_mono (h A env σ.frz m K' s r E hs hf x.ok R' rm) (fun flow s' h => .trans G x (fun a ha => .inl (hb a ha)) h) fun _ _ h => h

theorem S1_if (G : Good W) {c : DB} {f g : DS} {t : Expr} {body orelse : List Stmt} {pos : Pos} (hc : SB W n sc c t) (hf : Ss W n sc f body) (hg : Ss W n sc g orelse) : S1 W n sc (sIf c f g) (.If t body orelse pos) := by
  intro A env σ m K s r E hs e ok R rm
  refine wpAny_If ?_
  unfold sIf at e
  split at e
  · rename_i q
    refine wpAny_mono (hc A env σ m K s _ E hs q ok R rm) (fun b s₁ ⟨hb, K₁, x₁⟩ => ?_) fun _ _ h => h
    subst hb
    rw [if_pos rfl]
    exact wpAny_mono (hf A env σ m K₁ s₁ r E hs e x₁.ok (R.ext x₁) rm) (fun flow s₂ h => .of_ext x₁ R G ok h) fun _ _ h => h
  · rename_i q
    refine wpAny_mono (hc A env σ m K s _ E hs q ok R rm) (fun b s₁ ⟨hb, K₁, x₁⟩ => ?_) fun _ _ h => h
    subst hb
    rw [if_neg (by simp)]
    exact wpAny_mono (hg A env σ m K₁ s₁ r E hs e x₁.ok (R.ext x₁) rm) (fun flow s₂ h => .of_ext x₁ R G ok h) fun _ _ h => h
  · cases e
theorem S1_ret {f : DE} {e : Expr} {pos : Pos} (h : SE W n sc f e) : S1 W n sc (sRet f) (.Return (some e) pos) := by
  intro A env σ m K s r E hs hf ok R rm
  unfold sRet at hf
  split at hf
  · rename_i d q
    cases hf
    exact wpAny_Return_some (wpAny_mono (h A env σ m K s d E hs q ok R rm) (fun v s₁ ⟨K₁, x₁, i₁⟩ => .here x₁ R i₁) fun _ _ h => h)
  · cases hf
theorem S1_brk {pos : Pos} : S1 W n sc sBrk (.Break pos) := by
  intro A env σ m K s r E hs hf ok R rm
  cases hf
  exact wpAny_Break (.here (.refl ok) R trivial)
end
end Mine
namespace Mine
open PySem PySem.W PySem.Calls PyProof.Rows

section
variable {W : Wd} {n : Nat} {sc : Scope}

theorem RS.of_sb {env : Env} {K : KM} {m : Str → Option Value} {σ σ' : Sto} {s s' : Shared} (ok : Ok W K s) (h : SB' W (Ps env) env K m σ s σ' s') : RS W env K m σ s .next σ' .next s' := by
  obtain ⟨m', x, R, hb⟩ := h
  exact ⟨K, m', x.mono ok fun a ha => .inl (ha.imp id .inl), R, fun a ha => .inl (hb a ha), trivial⟩

theorem isV_of_val {env : Env} {h : Heap} {m : Str → Option Value} {x : Str} {v : Value} (e : valOf env h m x = some v) : isV (env.kindOf x) = true := by
  unfold valOf at e
  split at e
  · rename_i q; rw [q]; rfl
  · rename_i q; rw [q]; rfl
  · cases e
theorem Bs_live {env : Env} {K : KM} {m : Str → Option Value} {σ : Sto} {s : Shared} (R : RdOk W K env s.heap m σ) {a : Addr} (h : Bs env s.heap m σ a) : ∃ o, s.heap.get? a = some o := by
  rcases h with h | ⟨n, h⟩ | ⟨i, d, hi, e, hv⟩
  · obtain ⟨o, _, _, ho, _⟩ := R.ns; exact ⟨o, h ▸ ho⟩
  · obtain ⟨_, v, o, ho, _⟩ := R.oc n a h; exact ⟨o, ho⟩
  · obtain ⟨v, h1, h2⟩ := R.rd i _ hi e (isV_of_val hv)
    rw [hv] at h1; cases h1
    obtain ⟨o, ho, _⟩ := freeze_lv h2
    exact ⟨o, ho⟩

theorem S1_asg (G : Good W) {i : Nat} {f : DE} {e : Expr} {p pos : Pos} (h : SE W n sc f e) (hi : Nat.blt i nN = true) (hk : isV (sc.names.lookup (nm i)) = true) (hsw : ∀ env, env.scope = sc → swapsWith e (some (.Name (nm i) p)) pos.line env = pure false) :
    S1 W n sc (sAsg (.one i) f) (.Assign [.Name (nm i) p] e pos) := by
  intro A env σ m K s r E hs hf ok R rm
  unfold sAsg at hf
  split at hf
  case h_2 => cases hf
  rename_i d q
  cases hf
  refine wpAny_Assign_Name (wpAny_mono (h A env σ m K s d E hs q ok R rm) (fun v s₁ ⟨K₁, x₁, i₁⟩ => ?_) fun _ _ h => h) (hsw env hs)
  exact wpAny_mono (store_v (.all env i) (R.ext x₁) x₁.ok (Nat.blt_eq.mp hi) (by rw [Env.kindOf, hs]; exact hk) i₁) (fun _ s₂ h => .of_ext x₁ R G ok (.of_sb x₁.ok h)) fun _ _ h => h
theorem S1_asgT (G : Good W) {l : List Nat} {f : DE} {e : Expr} {elts : List Expr} {k : Nat} {p pos : Pos} (h : SE W n sc f e) (hp : PtOk sc (.many l) (.Tuple elts k p)) (hsw : ∀ env, swapsWithSole [.Tuple elts k p] e pos.line env = pure false) (hw : ∀ env, swappedStores [.Tuple elts k p] e env = pure none) :
    S1 W n sc (sAsg (.many l) f) (.Assign [.Tuple elts k p] e pos) := by
  intro A env σ m K s r E hs hf ok R rm
  unfold sAsg at hf
  refine hide fun GG kk => ?_
  split at hf
  case h_2 => cases hf
  rename_i d q
  split at hf
  case h_2 => cases hf
  rename_i σ' hb
  cases hf
  refine kk ?_
  clear kk GG
  refine Assign_Tuple (wpAny_mono (h A env σ m K s d E hs q ok R rm) (fun v s₁ ⟨K₁, x₁, i₁⟩ => ?_) fun _ _ h => h) (hsw env) (hw env)
  exact wpAny_mono (assign_sound (Bq := Ps env) rm.hh (fun i _ => .all env i) (hs ▸ hp) (R.ext x₁) x₁.ok i₁ hb) (fun _ s₂ h => .of_ext x₁ R G ok (.of_sb x₁.ok h)) fun _ _ h => h

theorem store_own (G : Good W) {A : Around} {E : Value → Shared → Prop} {env : Env} {σ : Sto} {m : Str → Option Value} {K : KM} {s s₁ : Shared} {i : Nat} {a : Addr} {d : D} (ok : Ok W K s) (R : RdOk W K env s.heap m σ) (x₁ : Ext W K s K s₁) (ha : s.heap.get? a = none) (hl : IsLV W K s₁.heap (.ref a) (.o d)) (hi : i < nN) (hk : isV (env.kindOf (nm i)) = true) :
    wpAny (model W.prog W.w) A (storeName env (nm i) (.ref a)) (fun _ s' => RS W env K m σ s .next (σ.put i (.o d)) .next s') E s₁ := by
  have R₁ := R.ext x₁
  have nb : ¬ Bs env s.heap m σ a := fun h => by obtain ⟨o, ho⟩ := Bs_live R h; rw [ha] at ho; cases ho
  have nb₁ : ¬ Bs env s₁.heap m σ a := fun h => nb ((Bs_ext R x₁ a).mp h)
  have hf : Free env s₁.heap m σ i (.ref a) (.o d) := ⟨fun d' a' _ e h => by cases e; exact nb₁ (h.imp id .inl), fun d' a' j e _ e2 hj e3 h => by cases e2; exact absurd (.inr (.inr ⟨j, e, hj, e3, h⟩)) nb₁⟩
  refine wpAny_mono (store_sound (.all env i) R₁ x₁.ok hi hk hl hf) (fun _ s' ⟨m', y, R', h1, h2⟩ => ?_) fun _ _ h => h
  refine ⟨K, m', (x₁.toB.trans y (B := Bs env s.heap m σ)) fun b hb => .inl (hb.imp id .inl), R', fun b hb => ?_, trivial⟩
  rcases hb with h | h | ⟨j, d', hj, e, hv⟩
  · exact .inl (.inl h)
  · exact .inl (.inr (.inl h))
  · rw [Sto.get_put] at e
    split at e
    · rename_i q; subst q
      rw [h1] at hv; cases hv
      exact .inr ha
    · rename_i q
      rw [h2 _ fun q' => q (nm_inj hj hi q')] at hv
      exact .inl ((Bs_ext R x₁ b).mp (.inr (.inr ⟨j, d', hj, e, hv⟩)))
theorem S1_newL (G : Good W) {i : Nat} {p p2 pos : Pos} (hi : Nat.blt i nN = true) (hk : isV (sc.names.lookup (nm i)) = true) : S1 W n sc (sNewL i) (.Assign [.Name (nm i) p] (.List [] p2) pos) := by
  intro A env σ m K s r E hs hf ok R rm
  cases hf
  refine wpAny_Assign_Name (wpAny_List (wpAny_pure ⟨Nat.zero_le _, ?_⟩)) rfl
  exact store_own G ok R (Ext.same (n := s.toks) ok (fun _ _ e => Heap.get?_push_of_some _ e) (Nat.le_refl _)) (get_size_none _) (.lst (vs := []) (n := 0) (.fresh G ok (get_size_none _)) (Heap.get?_push_size _ rfl) .nil) (Nat.blt_eq.mp hi) (by rw [Env.kindOf, hs]; exact hk)
theorem S1_newD (G : Good W) {i : Nat} {p p2 pos : Pos} (hi : Nat.blt i nN = true) (hk : isV (sc.names.lookup (nm i)) = true) : S1 W n sc (sNewD i) (.Assign [.Name (nm i) p] (.Dict [] [] p2) pos) := by
  intro A env σ m K s r E hs hf ok R rm
  cases hf
  refine wpAny_Assign_Name (wpAny_Dict_empty ?_) rfl
  obtain ⟨o, ho, hd⟩ := Heap.dictOf_iff.mp (new_dict (W := W) (h := s.heap))
  exact store_own G ok R (Ext.same (n := s.toks) ok (fun _ _ e => Heap.get?_push_of_some _ e) (Nat.le_refl _)) (get_size_none _) (.dct (kvs := []) (.fresh G ok (get_size_none _)) ho (size_ne_sys G ok) hd .nil) (Nat.blt_eq.mp hi) (by rw [Env.kindOf, hs]; exact hk)

theorem S1_aug (G : Good W) {i : Nat} {op : BO} {f : DE} {e : Expr} {p pos : Pos} (h : SE W n sc f e) (hi : Nat.blt i nN = true) (hk : isV (sc.names.lookup (nm i)) = true) : S1 W n sc (sAug i op f) (.AugAssign (.Name (nm i) p) op.real e pos) := by
  intro A env σ m K s r E hs hf ok R rm
  unfold sAug at hf
  split at hf
  case h_2 => cases hf
  rename_i a b q1 q2
  split at hf
  case h_2 => cases hf
  cases hf
  have hk' : isV (env.kindOf (nm i)) = true := by rw [Env.kindOf, hs]; exact hk
  obtain ⟨v, h1, h2⟩ := R.rd i _ (Nat.blt_eq.mp hi) q1 hk'
  cases h2 with
  | v iv =>
    obtain ⟨t, rfl⟩ := iv.int_inv
    refine wpAny_AugAssign_Name (load_name R.kind R.ns h1 (wpAny_mono (h A env σ m K s _ E hs q2 ok R rm) (fun v s₁ ⟨K₁, x₁, i₁⟩ => ?_) fun _ _ h => h))
    obtain ⟨u, rfl⟩ := i₁.int_inv
    refine AutoIntOps.iadd_0 ?_
    have x₂ : Ext W K₁ s₁ K₁ { s₁ with toks := s₁.toks + 1 } := .toks x₁.ok (Nat.le_succ _)
    exact wpAny_mono (store_v (.all env i) (R.ext (x₁.trans x₂)) x₂.ok (Nat.blt_eq.mp hi) hk' (.int _ _)) (fun _ s₂ h => .of_ext (x₁.trans x₂) R G ok (.of_sb x₂.ok h)) fun _ _ h => h

/-- a list or dict of the frame's own that changed -/
theorem RdOk.upd {env : Env} {K K' : KM} {m : Str → Option Value} {σ : Sto} {s s' : Shared} {i : Nat} {a : Addr} {d d' : D} (R : RdOk W K env s.heap m σ) (hi : i < nN) (e : σ.get i = some (.o d)) (hv : valOf env s.heap m (nm i) = some (.ref a)) (x : ExtB W (· = a) K s K' s') (hl : IsLV W K' s'.heap (.ref a) (.o d')) :
    RdOk W K' env s'.heap m (σ.put i (.o d')) ∧ ∀ b, Bs env s'.heap m (σ.put i (.o d')) b → Bs env s.heap m σ b := by
  have hap := R.ap i d a hi e hv
  have R' : RdOk W K env s.heap m (σ.drop i) := R.sub fun j l hj => by
    rw [Sto.get_drop] at hj; split at hj
    · cases hj
    · exact hj
  have nb : ∀ b, Bs env s.heap m (σ.drop i) b → ¬ b = a := by
    rintro b (h | ⟨n, h⟩ | ⟨j, d2, hj, e2, hv2⟩) rfl
    · exact hap.1 h
    · exact hap.2 n b h rfl
    · rw [Sto.get_drop] at e2
      split at e2
      · cases e2
      · rename_i q; exact q (R.ap2 j i d2 d b hj hi e2 e hv2 hv)
  have R'' := R'.extB x nb
  have hval : ∀ y, valOf env s'.heap m y = valOf env s.heap m y := by
    have kc : ∀ n c, env.cells.lookup n = some c → ∀ o, s.heap.get? c = some o → s'.heap.get? c = some o := fun n c e' o ho => x.keep c o (R.oc n c e').1.2.1 (fun q => hap.2 n c e' q.symm) ho
    exact valOf_ext kc fun n c e' => (R.oc n c e').2
  refine ⟨{ R'' with rd := ?_, ap := ?_, ap2 := ?_ }, ?_⟩
  · intro j l hj ej hk
    rw [Sto.get_put] at ej
    split at ej
    · rename_i q; subst q; cases ej
      exact ⟨_, (hval _).trans hv, hl⟩
    · rename_i q
      exact R''.rd j l hj (by rw [Sto.get_drop, if_neg q]; exact ej) hk
  · intro j d2 b hj ej hvj
    rw [hval] at hvj
    rw [Sto.get_put] at ej
    split at ej
    · rename_i q; subst q
      rw [hv] at hvj; cases hvj; exact hap
    · exact R.ap j d2 b hj ej hvj
  · intro j k d2 d3 b hj hk e2 e3 h2 h3
    rw [hval] at h2 h3
    rw [Sto.get_put] at e2 e3
    split at e2
    · rename_i q2
      split at e3
      · rename_i q3; rw [q2, q3]
      · rename_i q3; subst q2; exact R.ap2 j k d d3 b hj hk e e3 h2 h3
    · split at e3
      · rename_i q3; subst q3; exact R.ap2 j k d2 d b hj hk e2 e h2 h3
      · exact R.ap2 j k d2 d3 b hj hk e2 e3 h2 h3
  · rintro b (h | h | ⟨j, d2, hj, e2, hv2⟩)
    · exact .inl h
    · exact .inr (.inl h)
    · rw [hval] at hv2
      rw [Sto.get_put] at e2
      split at e2
      · rename_i q; subst q; exact .inr (.inr ⟨j, d, hj, e, hv2⟩)
      · exact .inr (.inr ⟨j, d2, hj, e2, hv2⟩)
theorem RS.of_upd (G : Good W) {env : Env} {K K₁ K' : KM} {m : Str → Option Value} {σ : Sto} {s s₁ s' : Shared} {i : Nat} {a : Addr} {d d' : D} (ok : Ok W K s) (R : RdOk W K env s.heap m σ) (x₁ : Ext W K s K₁ s₁) (hi : i < nN) (e : σ.get i = some (.o d)) (hv : valOf env s.heap m (nm i) = some (.ref a)) (x : ExtB W (· = a) K₁ s₁ K' s') (hl : IsLV W K' s'.heap (.ref a) (.o d')) :
    RS W env K m σ s .next (σ.put i (.o d')) .next s' := by
  have R₁ := R.ext x₁
  have hv₁ : valOf env s₁.heap m (nm i) = some (.ref a) := by
    obtain ⟨v, h1, h2⟩ := R₁.rd i _ hi e (isV_of_val hv)
    have kc : ∀ n c, env.cells.lookup n = some c → ∀ o, s.heap.get? c = some o → s₁.heap.get? c = some o := fun n c e' o ho => x₁.le.keep c o (R.oc n c e').1.2.1 ho
    rw [valOf_ext kc fun n c e' => (R.oc n c e').2]; exact hv
  obtain ⟨R', hb⟩ := R₁.upd hi e hv₁ x hl
  refine .of_ext x₁ R G ok ⟨K', m, x.mono x₁.ok fun b hb' => .inl ?_, R', fun b hb' => .inl (hb b hb'), trivial⟩
  subst hb'
  exact .inr (.inr ⟨i, d, hi, e, hv₁⟩)
end
end Mine
namespace Mine
open PySem PySem.W PySem.Calls PyProof.Rows

section
variable {W : Wd} {n : Nat} {sc : Scope}

theorem S1_app (G : Good W) {i : Nat} {f : DE} {e : Expr} {p1 apos cpos pos : Pos} (h : SE W n sc f e) (hi : Nat.blt i nN = true) (hkk : isV (sc.names.lookup (nm i)) = true) (hd : (nm i == ("__debug__" : Str)) = false) (hline : (apos.endLine == cpos.line) = true) (hst : ∀ env, backTo cpos (starEach [e] env) = [(false, eval e env)]) :
    S1 W n sc (sApp i f) (.Expr (.Call (.Attribute (.Name (nm i) p1) "append" apos) [e] [] cpos) pos) := by
  intro A env σ m K s r E hs hf ok R rm
  unfold sApp at hf
  split at hf
  case h_2 => cases hf
  rename_i d l q1 q2
  split at hf
  case isFalse => cases hf
  rename_i hln
  cases hf
  have hi' := Nat.blt_eq.mp hi
  refine wpAny_Expr_any ?_ (by unfold interactive; rw [R.kind]; rfl) rfl
  refine wpAny_Call_method1_late rfl hline (hst env) ?_
  have hk : isV (env.kindOf (nm i)) = true := by rw [Env.kindOf, hs]; exact hkk
  obtain ⟨v, h1, h2⟩ := R.rd i _ hi' q2 hk
  cases h2 with
  | lst w ho da =>
    rename_i a vs nn
    refine wpAny_Name (load_name R.kind R.ns h1 ?_) hd
    refine ⟨"list", "list.append", F.plainAttrs_list, F.slot_list_append, F.type_list_append, ⟨_, ho, rfl⟩, fun b hb => by cases hb; exact ⟨_, ho, rfl⟩, ?_⟩
    refine callWith_builtin rfl (evalArgs_of rfl (spliced_cons (wpAny_mono (h A env σ m K s d E hs q1 ok R rm) (fun v s₁ ⟨K₁, x₁, i₁⟩ => wpAny_pure ?_) fun _ _ h => h)))
    have hl : IsLV W K s.heap (.ref a) (.o (.lst l)) := .lst w ho da
    exact wpAny_mono (append_sound x₁.ok (hl.ext x₁) i₁ hln) (fun r s₂ ⟨_, x₂, i₂⟩ => .of_upd G ok R x₁ hi' q2 h1 x₂ i₂) fun _ _ h => h

theorem setItem_sound {A : Around} {E : Value → Shared → Prop} {K : KM} {s : Shared} {a : Addr} {ks : List Int} {ds : List D} {k : Int} {t : Tok} {v : Value} {d : D} (ok : Ok W K s) (hl : IsLV W K s.heap (.ref a) (.o (.dct ks ds))) (hd : IsD W K v d) (hln : ks.length ≤ line) :
    wpAny (model W.prog W.w) A (setItem (.ref a) (.int k t) v) (fun _ s' => ExtB W (· = a) K s K s' ∧ IsLV W K s'.heap (.ref a) (.o (dputD ks ds k d))) E s := by
  cases hl with
  | dct w h c o r =>
    rename_i ob kvs
    have := line_le
    rw [List.length_map] at hln
    refine wpAny_setItem_pairs (knd := W.ik) (intKind_is _ _ k t) (Heap.dictOf_iff.mpr ⟨_, h, o⟩) (fun h' hd' hsb => ?_) (by omega)
    refine ⟨ExtB.upds ok (by rintro b rfl; exact w) (fun b o nb e => (hsb.2 b nb).trans e) (Nat.le_succ _), ?_⟩
    obtain ⟨o', ho', hd''⟩ := Heap.dictOf_iff.mp hd'
    obtain ⟨ds', e1, e2⟩ := stored_put (k := k) hd r
    rw [e1]
    exact .dct w ho' c hd'' e2

theorem S1_set (G : Good W) {i : Nat} {fk fv : DE} {ke ve : Expr} {p1 p2 pos : Pos} (hkE : SE W n sc fk ke) (hv : SE W n sc fv ve) (hi : Nat.blt i nN = true) (hk : isV (sc.names.lookup (nm i)) = true) (hd : (nm i == ("__debug__" : Str)) = false)
    (hsw : ∀ env, swapsWith ve (some (.Subscript (.Name (nm i) p1) ke p2)) pos.line env = pure false) : S1 W n sc (sSet i fk fv) (.Assign [.Subscript (.Name (nm i) p1) ke p2] ve pos) := by
  intro A env σ m K s r E hs hf ok R rm
  unfold sSet at hf
  split at hf
  case h_2 => cases hf
  rename_i d ks ds k q1 q2 q3
  split at hf
  case isFalse => cases hf
  rename_i hln
  cases hf
  have hi' := Nat.blt_eq.mp hi
  refine wpAny_Assign_Subscript (wpAny_mono (hv A env σ m K s d E hs q1 ok R rm) (fun v s₁ ⟨K₁, x₁, i₁⟩ => ?_) fun _ _ h => h) (hsw env)
  have R₁ := R.ext x₁
  obtain ⟨v', h1, h2⟩ := R₁.rd i _ hi' q2 (by rw [Env.kindOf, hs]; exact hk)
  obtain ⟨v0, h0, _⟩ := R.rd i _ hi' q2 (by rw [Env.kindOf, hs]; exact hk)
  refine wpAny_Name (load_name R₁.kind R₁.ns h1 ?_) hd
  refine wpAny_mono (hkE A env σ m K₁ s₁ _ E hs q3 x₁.ok R₁ rm) (fun vk s₂ ⟨K₂, x₂, i₂⟩ => ?_) fun _ _ h => h
  obtain ⟨t, rfl⟩ := i₂.int_inv
  have hl := h2.ext x₂
  obtain ⟨a, rfl⟩ : ∃ a, v' = .ref a := by cases h2; exact ⟨_, rfl⟩
  have kc : ∀ n c, env.cells.lookup n = some c → ∀ o, s.heap.get? c = some o → s₁.heap.get? c = some o := fun n c e' o ho => x₁.le.keep c o (R.oc n c e').1.2.1 ho
  have hv0 : valOf env s.heap m (nm i) = some (.ref a) := by rw [← valOf_ext kc fun n c e' => (R.oc n c e').2]; exact h1
  exact wpAny_mono (setItem_sound x₂.ok hl (i₁.mono x₂.kk) hln) (fun _ s₃ ⟨x₃, i₃⟩ => .of_upd G ok R (x₁.trans x₂) hi' q2 hv0 x₃ i₃) fun _ _ h => h

theorem S1_augset (G : Good W) {i j : Nat} {fv : DE} {ve : Expr} {p1 p2 p3 pos : Pos} (hv : SE W n sc fv ve) (hi : Nat.blt i nN = true) (hk : isV (sc.names.lookup (nm i)) = true) (hd : (nm i == ("__debug__" : Str)) = false) (hj : SE W n sc (eVar j) (.Name (nm j) p3)) :
    S1 W n sc (sAugSet i (eVar j) fv) (.AugAssign (.Subscript (.Name (nm i) p1) (.Name (nm j) p3) p2) .Add ve pos) := by
  intro A env σ m K s r E hs hf ok R rm
  unfold sAugSet at hf
  split at hf
  case h_2 => cases hf
  rename_i ks ds k b q1 q2 q3
  split at hf
  case h_2 => cases hf
  rename_i a q4
  split at hf
  case isFalse => cases hf
  rename_i hln
  cases hf
  have hi' := Nat.blt_eq.mp hi
  have hk' : isV (env.kindOf (nm i)) = true := by rw [Env.kindOf, hs]; exact hk
  obtain ⟨v0, h1, h2⟩ := R.rd i _ hi' q1 hk'
  obtain ⟨p, rfl⟩ : ∃ a, v0 = .ref a := by cases h2; exact ⟨_, rfl⟩
  refine wpAny_AugAssign_Subscript (wpAny_Name (load_name R.kind R.ns h1 ?_) hd)
  refine wpAny_mono (hj A env σ m K s _ E hs q2 ok R rm) (fun vk s₁ ⟨K₁, x₁, i₁⟩ => ?_) fun _ _ h => h
  obtain ⟨T, id, _, _, hg⟩ := idx_sound (A := A) (E := E) x₁.ok (h2.ext x₁).view i₁.view (show idxD (.dct ks ds) (.int k) = some (.int a) from q4)
  refine wpAny_mono hg (fun old s₂ ⟨K₂, x₂, i₂⟩ => ?_) fun _ _ h => h
  refine wpAny_mono (hv A env σ m K₂ s₂ _ E hs q3 x₂.ok (R.ext (x₁.trans x₂)) rm) (fun v s₃ ⟨K₃, x₃, i₃⟩ => ?_) fun _ _ h => h
  obtain ⟨t, rfl⟩ := i₁.int_inv
  obtain ⟨t2, rfl⟩ := i₂.int_inv
  obtain ⟨t3, rfl⟩ := i₃.int_inv
  refine AutoIntOps.iadd_0 ?_
  have x₄ : Ext W K₃ s₃ K₃ { s₃ with toks := s₃.toks + 1 } := .toks x₃.ok (Nat.le_succ _)
  have xx := ((x₁.trans x₂).trans x₃).trans x₄
  exact wpAny_mono (setItem_sound x₄.ok (h2.ext xx) (.int _ _) hln) (fun _ s₅ ⟨x₅, i₅⟩ => .of_upd G ok R xx hi' q1 h1 x₅ i₅) fun _ _ h => h

theorem ExtB.none_back {B : Addr → Prop} {K K' : KM} {s s' : Shared} (G : Good W) (e : ExtB W B K s K' s') {a : Addr} (h : s'.heap.get? a = none) : B a ∨ s.heap.get? a = none := by
  by_cases q : B a
  · exact .inl q
  · refine .inr ?_
    cases z : s.heap.get? a with
    | none => rfl
    | some o => have := e.keep a o (e.ok.fr_fresh G h) q z; rw [h] at this; cases this
theorem sub_step {i n : Nat} (h : i < n) : n + 1 - (i + 1) < n + 1 - i := by omega

/-- the end of a loop's turn, for both loops -/
theorem turn_end {A : Around} {env : Env} {σ : Sto} {m : Str → Option Value} {K : KM} {s : Shared} {r : Fl × Sto} {E : Value → Shared → Prop} {f : DS} {body : List Stmt} {g : Sto → Option (Fl × Sto)} {Q : Flow → Shared → Prop}
    (hf : Ss W n sc f body) (hs : env.scope = sc) (ok : Ok W K s) (R : RdOk W K env s.heap m σ) (rm : Room W A n)
    (hq : (match f σ with | some (.next, σ'') => g σ'' | some (.cont, σ'') => g σ'' | some (.brk, σ'') => some (.next, σ'') | some (.ret d, σ'') => some (.ret d, σ'') | none => none) = some r)
    (I : ∀ σ₅ fl flow s₅, RS W env K m σ s fl σ₅ flow s₅ → g σ₅ = some r → Q .next s₅ ∧ Q .cont s₅)
    (F : ∀ flow s₅, RS W env K m σ s r.1 r.2 flow s₅ → (flow = .next → Q .brk s₅) ∧ ∀ v, flow = .ret v → Q (.ret v) s₅) : wpAny (model W.prog W.w) A (execs body env) Q E s := by
  cases h : f σ with
  | none => rw [h] at hq; cases hq
  | some x =>
    rw [h] at hq
    refine wpAny_mono (hf A env σ m K s x E hs h ok R rm) (fun flow s₅ hR => ?_) fun _ _ h => h
    clear h
    obtain ⟨K₅, m₅, e₅, R₅, b₅, ho⟩ := hR
    obtain ⟨fl, σ'⟩ := x
    cases fl with
    | next => cases flow with
      | next => exact (I _ _ _ _ ⟨K₅, m₅, e₅, R₅, b₅, ho⟩ hq).1
      | _ => exact ho.elim
    | cont => cases flow with
      | cont => exact (I _ _ _ _ ⟨K₅, m₅, e₅, R₅, b₅, ho⟩ hq).2
      | _ => exact ho.elim
    | brk => cases flow with
      | brk => cases hq; exact (F .next _ ⟨K₅, m₅, e₅, R₅, b₅, trivial⟩).1 rfl
      | _ => exact ho.elim
    | ret d => cases flow with
      | ret v => cases hq; exact (F (.ret v) _ ⟨K₅, m₅, e₅, R₅, b₅, ho⟩).2 v rfl
      | _ => exact ho.elim
theorem S1_for (G : Good W) {p : Pt} {tgt iter : Expr} {it : Sto → Option (List D)} {f : DS} {body : List Stmt} {pos : Pos} (hit : SI W n sc tgt it iter) (hset : ∀ env x, foldedSetIterable iter env x = pure x) (hp : PtOk sc p tgt) (hf : Ss W n sc f body) : S1 W n sc (sFor p it f) (.For tgt iter body [] pos) := by
  intro A env σ m K s r E hs hr ok R rm
  unfold sFor at hr
  split at hr
  case h_2 => cases hr
  rename_i ds hds
  refine wpAny_For (wpAny_mono (hit A env σ m K s ds E hs hds ok R rm) (fun x s₁ h₁ => wpAny_mono h₁ (fun itv s₂ h₂ => ?_) fun _ _ h => h) fun _ _ h => h) (hset env)
  obtain ⟨K₂, wr, St, x₂, S, st₂, hfr⟩ := h₂
  refine codeAny_mono (R := fun r' s' => ∃ flow, r' = .ok flow ∧ RS W env K m σ s r.1 r.2 flow s') ?_ fun r' s' ⟨flow, hr', h⟩ => by subst hr'; exact h
  refine codeAny_forLoop_any (fun k s' => ∃ i K' m' σ', k = ds.length + 1 - i ∧ i ≤ ds.length ∧ ExtB W (Bs env s.heap m σ) K s K' s' ∧ RdOk W K' env s'.heap m' σ' ∧ (∀ a, Bs env s'.heap m' σ' a → Bs env s.heap m σ a ∨ s.heap.get? a = none) ∧ St i K' s'.heap ∧ (∀ a ∈ wr, ¬ Bs env s'.heap m' σ' a) ∧ goFor p f (ds.drop i) σ' = some r) ?_ (ds.length + 1)
    ⟨0, K₂, m, σ, rfl, Nat.zero_le _, x₂.toB, R.ext x₂, fun a ha => .inl ((Bs_ext R x₂ a).mp ha), st₂, fun a ha hb => ?_, by simpa using hr⟩
  · intro k s₁ hI
    refine hide fun GG kk => ?_
    obtain ⟨i, K₁, m₁, σ₁, rfl, hile, e₁, R₁, hb₁, st₁, hw₁, f₁⟩ := hI
    refine kk ?_
    clear kk GG
    by_cases hlt : i < ds.length
    · have hd : ds[i]? = some ds[i] := List.getElem?_eq_getElem hlt
      rw [List.drop_eq_getElem_cons hlt] at f₁
      simp only [goFor] at f₁
      split at f₁
      case h_2 => cases f₁
      rename_i σ₂ hb
      refine wpAny_mono (S.item i K₁ s₁ _ _ hd e₁.ok st₁) (fun r' s₂ ⟨v, hr', h₂⟩ => ?_) fun _ _ h => h
      subst hr'
      refine wpAny_mono h₂ (fun _ s₃ ⟨K₃, e₃, iv, st₃⟩ => ?_) fun _ _ h => h
      have R₃ := R₁.extB e₃ fun a ha hb' => hw₁ a hb' ha
      have b₃ := fun a => Bs_extB R₁ e₃ (fun a ha hb' => hw₁ a hb' ha) a
      refine wpAny_mono (assign_sound (Bq := Ps env) rm.hh (fun i _ => .all env i) (hs ▸ hp) R₃ e₃.ok iv hb) (fun _ s₄ ⟨m₄, e₄, R₄, b₄⟩ => ?_) fun _ _ h => h
      have hw₃ : ∀ a ∈ wr, ¬ Bs env s₃.heap m₁ σ₁ a := fun a ha hb' => hw₁ a ha ((b₃ a).mp hb')
      have st₄ := S.after st₃ e₄ fun a ha hb' => hw₃ a ha (hb'.imp id .inl)
      have e14 : ExtB W (Bs env s.heap m σ) K s K₃ s₄ := (e₁.trans e₃ fun a ha => .inr (hfr a ha)).trans e₄ fun a ha => .inl (ha.imp id .inl)
      have hb4 : ∀ a, Bs env s₄.heap m₄ σ₂ a → Bs env s.heap m σ a ∨ s.heap.get? a = none := fun a ha => hb₁ a ((b₃ a).mp (b₄ a ha))
      have hw4 : ∀ a ∈ wr, ¬ Bs env s₄.heap m₄ σ₂ a := fun a ha hb' => hw₃ a ha (b₄ a hb')
      refine turn_end hf hs e₄.ok R₄ rm f₁ (fun σ₅ fl flow s₅ h₅ g => ?_) fun flow s₅ h₅ => ⟨fun q => ⟨.next, rfl, q ▸ .trans G e14 hb4 h₅⟩, fun v q => ⟨.ret v, rfl, q ▸ .trans G e14 hb4 h₅⟩⟩
      refine (fun h => ⟨h, h⟩ : ∀ {P : Prop}, P → P ∧ P) ?_
      obtain ⟨K₅, m₅, e₅, R₅, b₅, ho⟩ := h₅
      refine ⟨ds.length + 1 - (i + 1), sub_step hlt, i + 1, K₅, m₅, σ₅, rfl, hlt, e14.trans e₅ hb4, R₅, fun a ha => (b₅ a ha).elim (hb4 a) (e14.none_back G), S.after st₄ e₅ hw4, fun a ha hb' => ?_, g⟩
      rcases b₅ a hb' with h | h
      · exact hw4 a ha h
      · obtain ⟨_, o, ho'⟩ := S.out _ _ _ st₄ a ha; rw [h] at ho'; cases ho'
    · have hie : i = ds.length := by omega
      subst hie
      rw [List.drop_length] at f₁
      cases f₁
      refine wpAny_mono (S.done K₁ s₁ _ e₁.ok st₁) (fun r' s₂ ⟨hr', e₂⟩ => ?_) fun _ _ h => h
      subst hr'
      refine wpAny_execs_nil ⟨.next, rfl, K₁, m₁, e₁.trans e₂ fun a ha => .inr (hfr a ha), R₁.extB e₂ fun a ha hb' => hw₁ a hb' ha, fun a ha => hb₁ a ((Bs_extB R₁ e₂ (fun a ha hb' => hw₁ a hb' ha) a).mp ha), trivial⟩
  · have := (Bs_ext R x₂ a).mp hb
    obtain ⟨o, ho⟩ := Bs_live R this
    rw [hfr a ha] at ho; cases ho

theorem S1_while (G : Good W) {k : Nat} {c : DB} {f : DS} {t : Expr} {body : List Stmt} {pos : Pos} (hc : SB W n sc c t) (hf : Ss W n sc f body) : S1 W n sc (sWhile k c f) (.While t body [] pos) := by
  intro A env σ m K s r E hs hr ok R rm
  unfold sWhile at hr
  refine wpAny_While (codeAny_mono (R := fun r' s' => ∃ flow, r' = .ok flow ∧ RS W env K m σ s r.1 r.2 flow s') ?_ fun r' s' ⟨flow, hr', h⟩ => by subst hr'; exact h)
  refine codeAny_whileLoop (fun k s' => ∃ K' m' σ', ExtB W (Bs env s.heap m σ) K s K' s' ∧ RdOk W K' env s'.heap m' σ' ∧ (∀ a, Bs env s'.heap m' σ' a → Bs env s.heap m σ a ∨ s.heap.get? a = none) ∧ goWhile c f k σ' = some r) ?_ k
    ⟨K, m, σ, .refl ok, R, fun a ha => .inl ha, hr⟩
  intro k s₁ hI
  refine hide fun GG kk => ?_
  obtain ⟨K₁, m₁, σ₁, e₁, R₁, hb₁, f₁⟩ := hI
  refine kk ?_
  clear kk GG
  cases k with
  | zero => cases f₁
  | succ k =>
    simp only [goWhile] at f₁
    split at f₁
    case h_3 => cases f₁
    · rename_i hq
      refine wpAny_mono (hc A env σ₁ m₁ K₁ s₁ _ _ hs hq e₁.ok R₁ rm) (fun b s₂ ⟨hb, K₂, x₂⟩ => ?_) fun _ _ h => h
      subst hb
      rw [if_pos rfl]
      have R₂ := R₁.ext x₂
      have e12 : ExtB W (Bs env s.heap m σ) K s K₂ s₂ := e₁.trans (B' := fun _ => False) x₂.toB fun _ h => h.elim
      have hb2 : ∀ a, Bs env s₂.heap m₁ σ₁ a → Bs env s.heap m σ a ∨ s.heap.get? a = none := fun a ha => hb₁ a ((Bs_ext R₁ x₂ a).mp ha)
      refine turn_end hf hs x₂.ok R₂ rm f₁ (fun σ₃ fl flow s₃ h₃ g => ?_) fun flow s₃ h₃ => ⟨fun q => ⟨.next, rfl, q ▸ .trans G e12 hb2 h₃⟩, fun v q => ⟨.ret v, rfl, q ▸ .trans G e12 hb2 h₃⟩⟩
      refine (fun h => ⟨h, h⟩ : ∀ {P : Prop}, P → P ∧ P) ?_
      obtain ⟨K₃, m₃, e₃, R₃, b₃, ho⟩ := h₃
      exact ⟨k, Nat.lt_succ_self _, K₃, m₃, σ₃, e12.trans e₃ hb2, R₃, fun a ha => (b₃ a ha).elim (hb2 a) (e12.none_back G), g⟩
    · rename_i hq
      cases f₁
      refine wpAny_mono (hc A env σ₁ m₁ K₁ s₁ _ _ hs hq e₁.ok R₁ rm) (fun b s₂ ⟨hb, K₂, x₂⟩ => ?_) fun _ _ h => h
      subst hb
      rw [if_neg (by simp)]
      exact wpAny_execs_nil ⟨.next, rfl, .trans G e₁ hb₁ (.here x₂ R₁ trivial)⟩
end
end Mine
namespace Mine
open PySem PySem.W PySem.Calls PyProof.Rows

section
variable {W : Wd} {n : Nat} {sc csc : Scope}

/-- x = [a comprehension], x a local name -/
theorem S1_asgC (G : Good W) {i : Nat} {f : DE} {e : Expr} {p pos cpos : Pos} {g : Comprehension} {newAcc : Sem Value} (c : CR W n sc csc g newAcc f e) (heval : ∀ env u, evalThenUse e env u = (do let _ ← comprehension e csc env cpos newAcc false (eval g.iter env) (some u)))
    (hi : Nat.blt i nN = true) (hk : isV (sc.names.lookup (nm i)) = true) (hsw : ∀ env, env.scope = sc → swapsWith e (some (.Name (nm i) p)) pos.line env = pure true) : S1 W n sc (sAsg (.one i) f) (.Assign [.Name (nm i) p] e pos) := by
  intro A env σ m K s r E hs hf ok R rm
  refine hide fun GG kk => ?_
  subst hs
  unfold sAsg at hf
  split at hf
  case h_2 => cases hf
  rename_i d q
  cases hf
  have hi' := Nat.blt_eq.mp hi
  obtain ⟨ids, co⟩ := c.co
  obtain ⟨gs, hcl⟩ := c.cls
  obtain ⟨cl, h1, h2, h4⟩ := closure_of (fun y hy hf => R.cx _ (co.free y hy hf))
  refine kk ?_
  clear kk GG
  rw [exec_Assign_Name_used _ _ _ _ (hsw env rfl), heval]
  refine wpAny_bind (wpAny_standAt (wpAny_bind (wpAny_bind (wpAny_mono (wpAny_comprehension_free (use := some (assign (.Name (nm i) p) env)) (Q := fun _ s' => RS W env K m σ s .next (σ.put i (.v d)) .next s') hcl (c.set env) h1 co.kind co.names ?_) (fun _ s' hq => wpAny_pure (wpAny_pure hq)) fun _ _ h => h))))
  refine wpAny_mono (c.run A env σ m K s d E cl rfl q ok R rm h2 h4) (fun x s₁ h => wpAny_mono h (fun it s₂ h => wpAny_mono h (fun acc s₃ h => wpAny_mono h (fun cenv s₄ h => ?_) fun _ _ h => h) fun _ _ h => h) fun _ _ h => h) fun _ _ h => h
  refine codeAny_mono h fun r s' ⟨hr, K', m', x, iv, hn, w, hnone⟩ => ?_
  subst hr
  have R' := R.ext x
  refine wpAny_assign_Name (wpAny_mono (store_v (.all env i) R' x.ok hi' hk iv) (fun _ s'' ⟨m'', y, R'', hb⟩ => ?_) fun _ _ h => h)
  have nps : ¬ Ps env cenv.locals := fun h => by
    obtain ⟨o, ho⟩ := Bs_live (σ := σ) R (h.imp id .inl)
    rw [hnone] at ho; cases ho
  obtain ⟨oC, hoC⟩ : ∃ o, s'.heap.get? cenv.locals = some o := let ⟨o, _, _, ho, _⟩ := hn; ⟨o, ho⟩
  refine ⟨m', hn.at' fun o e => y.keep _ o w.2.1 nps e, fun h' hsb => ?_⟩
  have w' : Own W K' cenv.locals := w
  have z : ExtB W (· = cenv.locals) K' s'' K' { s'' with heap := h' } := ExtB.upds (n := s''.toks) y.ok (by rintro a rfl; exact w') (fun b o nb e => (hsb.2 b nb).trans e) (Nat.le_refl _)
  have nb : ∀ a, Bs env s''.heap m'' (σ.put i (.v d)) a → ¬ a = cenv.locals := by
    rintro a ha rfl
    obtain ⟨o, ho⟩ := Bs_live R ((Bs_ext R x _).mp (hb _ ha))
    rw [hnone] at ho; cases ho
  refine ⟨K', m'', ?_, R''.extB z nb, fun a ha => .inl ((Bs_ext R x a).mp (hb a ((Bs_extB R'' z nb a).mp ha))), trivial⟩
  exact ((x.toB.trans y (B := Bs env s.heap m σ)) fun a h => .inl (h.imp id .inl)).trans z fun a h => .inr (by subst h; exact hnone)
end

/-! calls of the text's functions -/
theorem cellsFrom_some : ∀ (names : List (Str × NameKind)) (k : Nat) (acc : List (Str × Addr)) (x : Str), (x, NameKind.cell) ∈ names ∨ (acc.lookup x).isSome = true → ((cellsFrom k names acc).lookup x).isSome = true
  | [], k, acc, x, h => h.elim (fun h => nomatch h) id
  | (y, kind) :: r, k, acc, x, h => by
    unfold cellsFrom
    split
    · rename_i hk
      refine cellsFrom_some r (k + 1) _ x ?_
      rcases h with h | h
      · rcases List.mem_cons.mp h with e | h
        · cases e; right; rw [List.lookup_cons, beq_self_eq_true]; rfl
        · exact .inl h
      · right
        rw [List.lookup_cons]
        cases hb : x == y with
        | true => rfl
        | false => exact h
    · rename_i hk
      refine cellsFrom_some r k acc x ?_
      rcases h with h | h
      · rcases List.mem_cons.mp h with e | h
        · cases e; exact absurd rfl hk
        · exact .inl h
      · exact .inr h
/-- the parameters, bound -/
noncomputable def bindsOf : List Nat → List Value → List (Str × Value)
  | i :: l, v :: vs => (nm i, v) :: bindsOf l vs
  | _, _ => []

/-- what the two maps of names say of the store -/
noncomputable def BdOk (W : Wd) (K : KM) (h : Heap) (kd : Str → Option NameKind) (m cm : Str → Option Value) (σ : Sto) : Prop :=
  ∀ i l, i < nN → σ.get i = some l → isV (kd (nm i)) = true → ∃ v d, l = .v d ∧ IsD W K v d ∧ ((kd (nm i) = some .local ∧ m (nm i) = some v) ∨ (kd (nm i) = some .cell ∧ cm (nm i) = some v))

theorem bind_ok {W : Wd} {K : KM} {h : Heap} {kd : Str → Option NameKind} : ∀ {ps : List Nat} {vs : List Value} {ds : List D} {m cm : Str → Option Value} {σ σ' : Sto}, (∀ i ∈ ps, i < nN) → (∀ i ∈ ps, isV (kd (nm i)) = true) → AllD W K vs ds → bindLs ps ds σ = some σ' → BdOk W K h kd m cm σ →
    BdOk W K h kd (bindL kd (bindsOf ps vs) m) (bindC kd (bindsOf ps vs) cm) σ'
  | [], vs, ds, m, cm, σ, σ', _, _, ha, e, b => by
    cases ds with
    | nil => cases e; cases ha; exact b
    | cons _ _ => cases e
  | i :: ps, vs, ds, m, cm, σ, σ', hi, hk, ha, e, b => by
    cases ha with
    | nil => cases e
    | cons hd tl =>
      rename_i v vs d ds
      have hin := hi i (.head _)
      have e' : bindLs ps ds (σ.put i (.v d)) = some σ' := e
      refine bind_ok (ps := ps) (fun j hj => hi j (.tail _ hj)) (fun j hj => hk j (.tail _ hj)) tl e' ?_
      intro j l hj ej hkj
      rw [Sto.get_put] at ej
      split at ej
      · rename_i q; subst q; cases ej
        refine ⟨v, d, rfl, hd, ?_⟩
        cases z : kd (nm j) with
        | none => rw [z] at hkj; cases hkj
        | some k =>
          cases k with
          | «local» => left; exact ⟨rfl, by rw [if_pos rfl, if_pos rfl]⟩
          | cell => right; exact ⟨rfl, by rw [if_neg (by simp), if_pos rfl]⟩
          | free => rw [z] at hkj; cases hkj
          | globalExplicit => rw [z] at hkj; cases hkj
          | globalImplicit => rw [z] at hkj; cases hkj
      · rename_i q
        refine hide fun GG kk => ?_
        obtain ⟨v', d', e1, e2, e3⟩ := b j l hj ej hkj
        refine kk ?_
        clear kk GG
        have hne : nm j ≠ nm i := fun h => q (nm_inj hj hin h)
        refine ⟨v', d', e1, e2, e3.imp (fun ⟨a, b⟩ => ⟨a, ?_⟩) fun ⟨a, b⟩ => ⟨a, ?_⟩⟩
        · split
          · exact (if_neg hne).trans b
          · exact b
        · split
          · exact b
          · exact (if_neg hne).trans b

/-- what a function's body tells of it -/
noncomputable def fnOf (ps : List Nat) (f : DS) : List D → Option D := fun ds => match bindLs ps ds [] with
  | some σ => match f σ with
    | some (.ret d, _) => some d
    | some (.next, _) => some .none
    | _ => none
  | none => none

section
variable {W : Wd}

theorem code_keep (G : Good W) {K : KM} {s : Shared} (ok : Ok W K s) {cd : Value} {q : Str} (h : W.hB.CodeRec cd q) : s.heap.CodeRec cd q := by
  obtain ⟨c, o, vs, t, rfl, ho, hd, hv⟩ := h
  refine ⟨c, o, vs, t, rfl, ok.keepB G ?_ ho, hd, hv⟩
  rintro rfl
  have := G.pt0
  rw [ho] at this; cases this
  simp only [X.tableObj, Data.fields.injEq] at hd
  subst hd
  simp at hv

/-- what a function's data are -/
structure FdOk (W : Wd) (fd : FuncData) (scope : Scope) (body : List Stmt) (ps : List Nat) : Prop where
  scope : fd.scope = scope
  body : fd.body = .stmts body
  gl : fd.globals = mainGlobals
  clo : fd.closure = []
  bi : fd.builtins = builtinsNs
  code : W.hB.CodeRec fd.code fd.qualname
  cd : fd.scope.names.lookup (nm 51) = some .local → fd.code = .ref W.PC
  bind : ∀ vs : List Value, vs.length = ps.length → ∀ s : Shared, (∀ b o, b ≠ W.PT → W.hB.get? b = some o → s.heap.get? b = some o) → BindsTo s fd ⟨vs, []⟩ (bindsOf ps vs)

theorem call_ok (G : Good W) {n : Nat} (hn8 : n < 8) {fd : FuncData} {body : List Stmt} {scope : Scope} {a : Addr} {o : Obj} {ps : List Nat} {f : DS} (hk : scope.kind = .function) (hco : scope.isCoroutine = false) (hgen : scope.isGenerator = false)
    (ho : W.hB.get? a = some o) (hpt : a ≠ W.PT) (hdata : o.data = .func fd) (FD : FdOk W fd scope body ps)
    (hps : ps.all (fun i => Nat.blt i nN && isV (scope.names.lookup (nm i))) = true) (hb : Ss W n scope f body) : CallOk W (n + 1) (.ref a) (fnOf ps f) := by
  intro A K s vs ds r E rm ok ha e
  have hps1 : ∀ i ∈ ps, i < nN := fun i hi => by have := List.all_eq_true.mp hps i hi; simp only [Bool.and_eq_true, Nat.blt_eq] at this; exact this.1
  have hps2 : ∀ i ∈ ps, isV (scope.names.lookup (nm i)) = true := fun i hi => by have := List.all_eq_true.mp hps i hi; simp only [Bool.and_eq_true] at this; exact this.2
  unfold fnOf at e
  refine hide fun GG kk => ?_
  split at e
  case h_2 => cases e
  rename_i σ hσ
  have hlen : vs.length = ps.length := by
    have : ∀ {l : List Nat} {ds : List D} {σ σ' : Sto}, bindLs l ds σ = some σ' → l.length = ds.length := by
      intro l
      induction l with
      | nil => intro ds σ σ' e; cases ds with | nil => rfl | cons _ _ => cases e
      | cons i l ih => intro ds σ σ' e; cases ds with | nil => cases e | cons _ _ => simp [ih e]
    rw [this hσ, ha.length]
  have hroom : A.depth < recursionLimit := by have := rm.dep; omega
  obtain ⟨hsc, hbd, hgl, hcl, hbi, hcd, hcd51, hbind⟩ := FD
  subst hsc
  refine kk ?_
  clear kk GG
  refine wpAny_call (codeAny_call_function hroom (ok.keepB G hpt ho) hdata hco hgen hbd (code_keep G ok hcd) ?_)
  refine hbind vs hlen s (fun b o hb e => ok.keepB G hb e) _ _ _ _ ?_
  rw [hcl]
  have hbk : ∀ {l : List Nat} {vs : List Value}, (∀ i ∈ l, isV (fd.scope.names.lookup (nm i)) = true) → ∀ x ∈ bindsOf l vs, fd.scope.names.lookup x.1 = some .local ∨ (fd.scope.names.lookup x.1 = some .cell ∧ ((cellsFrom (s.heap.objs.size + 1) fd.scope.names []).lookup x.1).isSome = true) := by
    intro l
    induction l with
    | nil => intro vs _ x hx; cases vs <;> cases hx
    | cons i l ih =>
      intro vs hl x hx
      cases vs with
      | nil => cases hx
      | cons v vs =>
        rcases List.mem_cons.mp hx with rfl | hx
        · have := hl i (.head _)
          unfold isV at this
          split at this
          · rename_i q; exact .inl q
          · rename_i q; exact .inr ⟨q, cellsFrom_some _ _ _ _ (.inl (mem_of_lookup q))⟩
          · cases this
        · exact ih (fun j hj => hl j (.tail _ hj)) x hx
  refine wpAny_with_toks (Nat.le_refl s.toks) (wpAny_newFunctionEnv_cells hk (hbk hps2) fun env he s₁ X htk => ?_)
  refine hide fun GG kk => ?_
  obtain ⟨h₁, tk, rfl, keep⟩ := X.done
  refine kk ?_
  clear kk GG
  have x₁ : Ext W K s K { s with heap := h₁, toks := tk } := Ext.same ok keep htk
  refine ⟨(ok.nolim G).keeps keep, codeAny_func ?_⟩
  have hscope : env.scope = fd.scope := by rw [he]; rfl
  have hloc : env.locals = s.heap.objs.size := by rw [he]; rfl
  have hcells : env.cells = cellsFrom (s.heap.objs.size + 1) fd.scope.names [] := by rw [he]; rfl
  have kdf : ∀ x, env.kindOf x = fd.scope.names.lookup x := fun x => by rw [Env.kindOf, hscope]
  have fresh : ∀ b, s.heap.objs.size ≤ b → s.heap.get? b = none := fun b hb => Heap.get?_none_of_le hb
  have cab : ∀ n c, env.cells.lookup n = some c → s.heap.objs.size < c := fun n c e => by have := X.above n c (mem_of_lookup e); rwa [hloc] at this
  have bd := bind_ok (W := W) (K := K) (h := h₁) (kd := env.kindOf) (m := fun _ => none) (cm := fun _ => none) hps1 (fun i hi => by rw [kdf]; exact hps2 i hi) ha hσ (fun i l _ e => by cases e)
  have noown : ∀ i d, σ.get i ≠ some (.o d) := bindLs_own ps ds [] σ hσ fun i d => by simp [Sto.get]
  have R : RdOk W K env h₁ (bindL env.kindOf (bindsOf ps vs) fun _ => none) σ :=
    { kind := by rw [hscope]; exact hk
      gl := by rw [he]; exact hgl
      bi := by rw [he]; exact hbi
      ol := by rw [hloc]; exact (Own.fresh G ok (fresh _ (Nat.le_refl _))).toL
      oc := fun n c e => ⟨.fresh G ok (fresh c (Nat.le_of_lt (cab n c e))), _, X.cell n c e⟩
      inj := fun n n' c e e' => name_of_addr X.apart (mem_of_lookup e) (mem_of_lookup e')
      cd := fun h => by rw [kdf] at h; rw [he]; exact hcd51 h
      cx := fun x e => by
        rw [kdf] at e
        exact Option.isSome_iff_exists.mp (by rw [hcells]; exact cellsFrom_some _ _ _ _ (.inl (mem_of_lookup e)))
      ns := X.toInCall.ns
      rd := fun i l hi e hkv => by
        obtain ⟨v, d, rfl, iv, hv⟩ := bd i l hi e hkv
        refine ⟨v, ?_, .v iv⟩
        unfold valOf
        rcases hv with ⟨q, hv⟩ | ⟨q, hv⟩
        · rw [q]; exact hv
        · rw [q]
          obtain ⟨c, hc⟩ : ∃ c, env.cells.lookup (nm i) = some c := Option.isSome_iff_exists.mp (by rw [hcells]; exact cellsFrom_some _ _ _ _ (.inl (mem_of_lookup ((kdf _).symm.trans q))))
          obtain ⟨oc, hoc, hdc⟩ := X.cell _ c hc
          have hoc' : h₁.get? c = some oc := hoc
          simp only [hc, hoc', hdc]
          exact hv
      ap := fun i d a hi e => absurd e (noown i d)
      ap2 := fun i j d e a hi hj e1 => absurd e1 (noown i d) }
  have fin : ∀ fl σ', f σ = some (fl, σ') → (∀ flow s' K', ExtB W (Bs env h₁ (bindL env.kindOf (bindsOf ps vs) fun _ => none) σ) K { s with heap := h₁, toks := tk } K' s' → FlOk W K' fl flow → RV W K s r (match flow with | .ret v => v | _ => .none) s') →
      wpAny (model W.prog W.w) (A.deeper env) (execs body env) (fun flow s' => RV W K s r (match flow with | .ret v => v | _ => .none) s') (fun _ _ => False) { s with heap := h₁, toks := tk } := by
    intro fl σ' hf hq
    exact wpAny_mono (hb (A.deeper env) env σ _ K { s with heap := h₁, toks := tk } (fl, σ') _ hscope hf x₁.ok R (rm.deeper hn8 env)) (fun flow s' ⟨K', m', y, _, _, ho⟩ => hq flow s' K' y ho) fun _ _ h => h
  have toE : ∀ {K' : KM} {s' : Shared}, ExtB W (Bs env h₁ (bindL env.kindOf (bindsOf ps vs) fun _ => none) σ) K { s with heap := h₁, toks := tk } K' s' → Ext W K s K' s' := fun {K' s'} y =>
    (x₁.toB.trans y fun b h => .inl h).toExt fun b h => by
      rcases h with h | ⟨n, h⟩ | ⟨i, d, _, h, _⟩
      · rw [h, hloc]; exact fresh _ (Nat.le_refl _)
      · exact fresh b (Nat.le_of_lt (cab n b h))
      · exact absurd h (noown i d)
  split at e
  · rename_i d σ' hf
    cases e
    refine wpAny_mono (fin _ _ hf fun flow s' K' y ho => ?_) (fun _ _ h => h) fun _ _ h => h.elim
    cases flow with
    | ret v => exact ⟨K', toE y, ho⟩
    | _ => exact ho.elim
  · rename_i σ' hf
    cases e
    refine wpAny_mono (fin _ _ hf fun flow s' K' y ho => ?_) (fun _ _ h => h) fun _ _ h => h.elim
    cases flow with
    | next => exact ⟨K', toE y, .none⟩
    | _ => exact ho.elim
  · cases e
end
end Mine
namespace Mine
open PySem PySem.W PySem.Calls PyProof.Rows

theorem nodebug {i : Nat} (hi : Nat.blt i nN = true) : (nm i == ("__debug__" : Str)) = false := by
  rw [beq_eq_false_iff_ne]
  intro e
  have h : codeOf (nm i) ∈ nmCodes := by unfold nmCodes; exact List.mem_map.mpr ⟨i, List.mem_range.mpr (Nat.blt_eq.mp hi), rfl⟩
  rw [e] at h
  have h' : nmCodes.contains (codeOf ("__debug__" : Str)) = true := by simpa using h
  have : nmCodes.contains (codeOf ("__debug__" : Str)) = false := by decide +kernel
  rw [this] at h'; cases h'

noncomputable def iAny (f : DE) : Sto → Option (List D) := fun σ => match f σ with
  | some (.lst l) => if l.length ≤ line then some l else none
  | some (.str x) => if x.cps.all (· < 128) = true then some (charsD x) else none
  | some (.dct ks _) => some (ks.map .int)
  | _ => none
section
variable {W : Wd} {n : Nat} {sc : Scope}
theorem SI_any (G : Good W) {tgt : Expr} {f : DE} {e : Expr} (h : SE W n sc f e) (hgo : ∀ I v, letOwnedTupleGo tgt I v = pure ()) : SI W n sc tgt (iAny f) e := by
  intro A env σ m K s ds E hs hf ok R rm
  unfold iAny at hf
  split at hf
  · rename_i l q
    exact SI_lst G h A env σ m K s ds E hs (by unfold iLst; rw [q]; exact hf) ok R rm
  · rename_i x q
    exact SI_seq G h hgo A env σ m K s ds E hs (by unfold iSeq; rw [q]; exact hf) ok R rm
  · rename_i ks ds' q
    exact SI_seq G h hgo A env σ m K s ds E hs (by unfold iSeq; rw [q]; exact hf) ok R rm
  · cases hf

/-- a local or cell name as it is written -/
theorem vE {i : Nat} {pos : Pos} (hi : Nat.blt i nN = true) (hk : isV (sc.names.lookup (nm i)) = true) : SE W n sc (eVar i) (.Name (nm i) pos) := SE_var hi hk (nodebug hi)
theorem vL {i : Nat} {pos : Pos} (hi : Nat.blt i nN = true) (hk : isV (sc.names.lookup (nm i)) = true) : SL W n sc (lVar i) (.Name (nm i) pos) := SL_var hi hk (nodebug hi)
end

theorem upper_str : ∀ d l, (upperD (d :: l)).isSome = true → ∃ x, d = .str x := by
  intro d l h
  unfold upperD at h
  split at h
  · rename_i q; cases q; exact ⟨_, rfl⟩
  · cases h
theorem lower_str : ∀ d l, (lowerD (d :: l)).isSome = true → ∃ x, d = .str x := by
  intro d l h
  unfold lowerD at h
  split at h
  · rename_i q; cases q; exact ⟨_, rfl⟩
  · cases h
theorem join_str : ∀ d l, (joinD (d :: l)).isSome = true → ∃ x, d = .str x := by
  intro d l h
  unfold joinD at h
  split at h
  · rename_i q; cases q; exact ⟨_, rfl⟩
  · cases h
theorem SE_glb2 {W : Wd} {n : Nat} {sc : Scope} (G : Good W) {x : Str} {i : Int} {pos : Pos} (hk : sc.names.lookup x = some .globalImplicit) (hd : (x == ("__debug__" : Str)) = false) (hg : ∃ t, W.mg x = some (.int i t)) : SE W n sc (eLit (.int i)) (.Name x pos) :=
  let ⟨_, h⟩ := hg; SE_glb G hk hd h

/-- the builtins' names -/
structure Nms (W : Wd) : Prop where
  len : W.mg "len" = none ∧ W.mb "len" = some (.builtin "len")
  chr : W.mg "chr" = none ∧ W.mb "chr" = some (.builtin "chr")
  sum : W.mg "sum" = none ∧ W.mb "sum" = some (.builtin "sum")
  sorted : W.mg "sorted" = none ∧ W.mb "sorted" = some (.builtin "sorted")
  divmod : W.mg "divmod" = none ∧ W.mb "divmod" = some (.builtin "divmod")
  isinstance : W.mg "isinstance" = none ∧ W.mb "isinstance" = some (.builtin "isinstance")
  tuple : W.mg "tuple" = none ∧ W.mb "tuple" = some (.type "tuple")
  range : W.mg "range" = none ∧ W.mb "range" = some (.type "range")
  move : ∃ t, W.mg "_MOVE_COST" = some (.int 2 t)
  case : ∃ t, W.mg "_CASE_COST" = some (.int 1 t)
  zip : W.mg "zip" = none ∧ W.mb "zip" = some (.type "zip")

/-! the parts by hand -/
noncomputable def addI : List D → List D → Option (List D)
  | .int a :: as, .int b :: bs => match addI as bs with
    | some l => some (.int (a + b) :: l)
    | none => none
  | [], [] => some []
  | _, _ => none
/-- tuple(i + j for i, j in zip(a, b)) -/
noncomputable def eGadd (f : DE) (g : DL) : DE := fun σ => match f σ, g σ with
  | some (.tup a), some b => match b.d with
    | .tup c => match addI a c with
      | some l => some (.tup l)
      | none => none
    | _ => none
  | _, _ => none
noncomputable def eMkc (f : DE) : DE := fun σ => match f σ with
  | some d => some (.cmpr d)
  | none => none
noncomputable def eAttr (f : DE) : DE := fun σ => match f σ with
  | some (.cmpr d) => some d
  | _ => none
noncomputable def iTup (f : DE) : Sto → Option (List D) := fun σ => match f σ with
  | some (.tup l) => some l
  | _ => none
noncomputable def den_compare : DS :=
  (sThen (sFor (.many [114, 115]) (iTup (eAttr (eVar 41))) (sThen (sAsg (.one 116) (eIdx (lVar 43) (lVar 114)))
  (sThen (sAsg (.one 117) (eIdx (lVar 44) (lVar 114)))
  (sThen (sIf (bCmp .lt (lVar 116) (lVar 117)) (sThen (sRet (eNeg (eVar 115)))
  sNil) sNil)
  (sThen (sIf (bCmp .gt (lVar 116) (lVar 117)) (sThen (sRet (eVar 115))
  sNil) sNil)
  sNil)))))
  (sThen (sRet (eLit (.int 0)))
  sNil))
noncomputable def eCmpr (fo fa fb : DE) : DE := fun σ => match fo σ, fa σ, fb σ with
  | some (.cmpr o), some a, some b => fnOf [41, 43, 44] den_compare [.cmpr o, a, b]
  | _, _, _ => none
noncomputable def MkcOk (W : Wd) (n : Nat) : Prop := ∀ {sc : Scope} {f : DE} {a : Expr} {p pos : Pos}, sc.names.lookup ("TupleComp" : Str) = some .globalImplicit → SE W n sc f a → (∀ env, starEach [a] env = [(false, eval a env)]) → SE W n sc (eMkc f) (.Call (.Name "TupleComp" p) [a] [] pos)
noncomputable def CmprOk (W : Wd) (n : Nat) : Prop := ∀ {sc : Scope} {fo fa fb : DE} {o a b : Expr} {apos pos : Pos}, SE W n sc fo o → SE W n sc fa a → SE W n sc fb b →
  (∀ env, ∃ pl : Sem Bool, eval (.Call (.Attribute o "compare" apos) [a, b] [] pos) env = (do
      let ov ← eval o env
      standAt apos.atName
      let (f, first) ← holding [ov] (getMethod ov "compare" pl)
      callWith pos f first (backTo pos (starEach [a, b] env)) (backToKw pos (keywordEach [] env)))) →
  (∀ env, starEach [a, b] env = [(false, eval a env), (false, eval b env)]) → SE W n sc (eCmpr fo fa fb) (.Call (.Attribute o "compare" apos) [a, b] [] pos)

/-! the text's functions -/
noncomputable def stAt (k : Nat) : Stmt := PySem.Challenge.pw_xg0019_01.main.body.getD k default
noncomputable def fName : Stmt → Str
  | .FunctionDef a _ _ _ _ _ _ _ _ _ => a
  | _ => default
noncomputable def fParams : Stmt → Arguments
  | .FunctionDef _ a _ _ _ _ _ _ _ _ => a
  | _ => default
noncomputable def fBody : Stmt → List Stmt
  | .FunctionDef _ _ a _ _ _ _ _ _ _ => a
  | _ => default
noncomputable def fScope : Stmt → Scope
  | .FunctionDef _ _ _ _ _ _ a _ _ _ => a
  | _ => default
noncomputable def fPos : Stmt → Pos
  | .FunctionDef _ _ _ _ _ _ _ _ _ a => a
  | _ => default
end Mine
namespace Mine
open PySem PySem.W PySem.Calls PyProof.Rows

noncomputable def den__law_links : DS :=
  (sThen (sNewL 38)
  (sThen (sFor (.one 69) (iRng1 (eLit (.int 4))) (sThen (sAsg (.many [121, 122]) (eIdx (lVar 36) (lVar 69)))
  (sThen (sFor (.one 55) (iRng1 (eVar 69)) (sThen (sAsg (.one 123) (eIdx (lE (eIdx (lVar 36) (lVar 55))) (lE (eLit (.int 1)))))
  (sThen (sIf (bIte (bVal (eVar 37)) (bCmp2 .lt .lt (lVar 121) (lVar 123) (lVar 122)) (bCmp .lt (lVar 122) (lVar 123))) (sThen (sApp 38 (eTup (aCons (eVar 55) (aCons (eVar 69) aNil))))
  sNil) sNil)
  sNil)))
  sNil)))
  (sThen (sTry (sRet (eVar 38)))
  sNil)))
set_option maxHeartbeats 4000000 in
theorem ss__law_links {W : Wd} (GW : Good W) (NM : Nms W) : Ss W 0 (fScope (stAt 25)) (den__law_links) (fBody (stAt 25)) :=
  (Ss_cons GW (S1_newL (i := 38) GW (by kernel_rfl) (by kernel_rfl))
  (Ss_cons GW (S1_for (p := (.one 69)) GW (SI_rng1 GW NM.range.1 NM.range.2 (by kernel_rfl) (by kernel_rfl) (SLs_cons SE_int SLs_nil (fun _ => rfl)) (fun _ _ => rfl)) (fun _ _ => rfl) (.one ⟨⟨_, rfl⟩, Nat.blt_eq.mp (by kernel_rfl), (by kernel_rfl)⟩) (Ss_cons GW (S1_asgT GW (SE_idx (vL (i := 36) (by kernel_rfl) (by kernel_rfl)) (vL (i := 69) (by kernel_rfl) (by kernel_rfl)) (fun _ _ => rfl)) (.many (l := [121, 122]) (.cons ⟨⟨_, rfl⟩, Nat.blt_eq.mp (by kernel_rfl), (by kernel_rfl)⟩ (.cons ⟨⟨_, rfl⟩, Nat.blt_eq.mp (by kernel_rfl), (by kernel_rfl)⟩ .nil))) (fun _ => rfl) (fun _ => rfl))
  (Ss_cons GW (S1_for (p := (.one 55)) GW (SI_rng1 GW NM.range.1 NM.range.2 (by kernel_rfl) (by kernel_rfl) (SLs_cons (vE (i := 69) (by kernel_rfl) (by kernel_rfl)) SLs_nil (fun _ => rfl)) (fun _ _ => rfl)) (fun _ _ => rfl) (.one ⟨⟨_, rfl⟩, Nat.blt_eq.mp (by kernel_rfl), (by kernel_rfl)⟩) (Ss_cons GW (S1_asg (i := 123) GW (SE_idx (SE.toL (SE_idx (vL (i := 36) (by kernel_rfl) (by kernel_rfl)) (vL (i := 55) (by kernel_rfl) (by kernel_rfl)) (fun _ _ => rfl))) (SE.toL SE_int) (fun _ _ => rfl)) (by kernel_rfl) (by kernel_rfl) (fun _ _ => rfl))
  (Ss_cons GW (S1_if GW (SB_ite (SB_val (vE (i := 37) (by kernel_rfl) (by kernel_rfl)) (fun _ _ => rfl)) (SB_cmp2 (o1 := .lt) (o2 := .lt) (vL (i := 121) (by kernel_rfl) (by kernel_rfl)) (vL (i := 123) (by kernel_rfl) (by kernel_rfl)) (vL (i := 122) (by kernel_rfl) (by kernel_rfl)) rfl) (SB_cmp (op := .lt) (vL (i := 122) (by kernel_rfl) (by kernel_rfl)) (vL (i := 123) (by kernel_rfl) (by kernel_rfl)) rfl)) (Ss_cons GW (S1_app (i := 38) GW (SE_tup GW (SLs_cons (vE (i := 55) (by kernel_rfl) (by kernel_rfl)) (SLs_cons (vE (i := 69) (by kernel_rfl) (by kernel_rfl)) SLs_nil (fun _ => rfl)) (fun _ => rfl))) (by kernel_rfl) (by kernel_rfl) (nodebug (by kernel_rfl)) rfl (fun _ => rfl))
  Ss_nil) Ss_nil)
  Ss_nil)))
  Ss_nil)))
  (Ss_cons GW (S1_try GW (S1_ret (vE (i := 38) (by kernel_rfl) (by kernel_rfl))))
  Ss_nil)))
noncomputable def ps__law_links : List Nat := [36, 37]

noncomputable def den__law_book : DS :=
  (sThen (sNewD 70)
  (sThen (sFor (.one 71) (iAny (eVar 39)) (sThen (sSet 70 (eVar 71) (eBin .add (lE (eGet (lVar 70) (eVar 71) (eLit (.int 0)))) (lE (eLit (.int 1)))))
  sNil))
  (sThen (sTry (sRet (eVar 70)))
  sNil)))
set_option maxHeartbeats 4000000 in
theorem ss__law_book {W : Wd} (GW : Good W) (NM : Nms W) : Ss W 0 (fScope (stAt 27)) (den__law_book) (fBody (stAt 27)) :=
  (Ss_cons GW (S1_newD (i := 70) GW (by kernel_rfl) (by kernel_rfl))
  (Ss_cons GW (S1_for (p := (.one 71)) GW (SI_any GW (vE (i := 39) (by kernel_rfl) (by kernel_rfl)) (fun _ _ => rfl)) (fun _ _ => rfl) (.one ⟨⟨_, rfl⟩, Nat.blt_eq.mp (by kernel_rfl), (by kernel_rfl)⟩) (Ss_cons GW (S1_set (i := 70) GW (vE (i := 71) (by kernel_rfl) (by kernel_rfl)) (SE_bin (op := .add) GW (SE.toL (SE_get GW (vL (i := 70) (by kernel_rfl) (by kernel_rfl)) (vE (i := 71) (by kernel_rfl) (by kernel_rfl)) SE_int (fun _ => rfl) rfl (fun _ => rfl))) (SE.toL SE_int)) (by kernel_rfl) (by kernel_rfl) (nodebug (by kernel_rfl)) (fun _ => rfl))
  Ss_nil))
  (Ss_cons GW (S1_try GW (S1_ret (vE (i := 70) (by kernel_rfl) (by kernel_rfl))))
  Ss_nil)))
noncomputable def ps__law_book : List Nat := [39]

noncomputable def den_add_func_stats (Fadd_callers : List D → Option D) : DS :=
  (sThen (sAsg (.many [88, 52, 89, 90, 19]) (eVar 18))
  (sThen (sAsg (.many [91, 92, 93, 94, 95]) (eVar 17))
  (sThen (sRet (eTup (aCons (eBin .add (lVar 88) (lVar 91)) (aCons (eBin .add (lVar 52) (lVar 92)) (aCons (eBin .add (lVar 89) (lVar 93)) (aCons (eBin .add (lVar 90) (lVar 94)) (aCons (eApp Fadd_callers (aCons (eVar 95) (aCons (eVar 19) aNil))) aNil)))))))
  sNil)))
set_option maxHeartbeats 4000000 in
theorem ss_add_func_stats {W : Wd} (GW : Good W) (NM : Nms W) {Fadd_callers : List D → Option D} (hadd_callers : FnOk W 1 "add_callers" Fadd_callers) : Ss W 1 (fScope (stAt 3)) (den_add_func_stats Fadd_callers) (fBody (stAt 3)) :=
  (Ss_cons GW (S1_asgT GW (vE (i := 18) (by kernel_rfl) (by kernel_rfl)) (.many (l := [88, 52, 89, 90, 19]) (.cons ⟨⟨_, rfl⟩, Nat.blt_eq.mp (by kernel_rfl), (by kernel_rfl)⟩ (.cons ⟨⟨_, rfl⟩, Nat.blt_eq.mp (by kernel_rfl), (by kernel_rfl)⟩ (.cons ⟨⟨_, rfl⟩, Nat.blt_eq.mp (by kernel_rfl), (by kernel_rfl)⟩ (.cons ⟨⟨_, rfl⟩, Nat.blt_eq.mp (by kernel_rfl), (by kernel_rfl)⟩ (.cons ⟨⟨_, rfl⟩, Nat.blt_eq.mp (by kernel_rfl), (by kernel_rfl)⟩ .nil)))))) (fun _ => rfl) (fun _ => rfl))
  (Ss_cons GW (S1_asgT GW (vE (i := 17) (by kernel_rfl) (by kernel_rfl)) (.many (l := [91, 92, 93, 94, 95]) (.cons ⟨⟨_, rfl⟩, Nat.blt_eq.mp (by kernel_rfl), (by kernel_rfl)⟩ (.cons ⟨⟨_, rfl⟩, Nat.blt_eq.mp (by kernel_rfl), (by kernel_rfl)⟩ (.cons ⟨⟨_, rfl⟩, Nat.blt_eq.mp (by kernel_rfl), (by kernel_rfl)⟩ (.cons ⟨⟨_, rfl⟩, Nat.blt_eq.mp (by kernel_rfl), (by kernel_rfl)⟩ (.cons ⟨⟨_, rfl⟩, Nat.blt_eq.mp (by kernel_rfl), (by kernel_rfl)⟩ .nil)))))) (fun _ => rfl) (fun _ => rfl))
  (Ss_cons GW (S1_ret (SE_tup GW (SLs_cons (SE_bin (op := .add) GW (vL (i := 88) (by kernel_rfl) (by kernel_rfl)) (vL (i := 91) (by kernel_rfl) (by kernel_rfl))) (SLs_cons (SE_bin (op := .add) GW (vL (i := 52) (by kernel_rfl) (by kernel_rfl)) (vL (i := 92) (by kernel_rfl) (by kernel_rfl))) (SLs_cons (SE_bin (op := .add) GW (vL (i := 89) (by kernel_rfl) (by kernel_rfl)) (vL (i := 93) (by kernel_rfl) (by kernel_rfl))) (SLs_cons (SE_bin (op := .add) GW (vL (i := 90) (by kernel_rfl) (by kernel_rfl)) (vL (i := 94) (by kernel_rfl) (by kernel_rfl))) (SLs_cons (SE_call GW hadd_callers (by kernel_rfl) (by kernel_rfl) (by kernel_rfl) (SLs_cons (vE (i := 95) (by kernel_rfl) (by kernel_rfl)) (SLs_cons (vE (i := 19) (by kernel_rfl) (by kernel_rfl)) SLs_nil (fun _ => rfl)) (fun _ => rfl))) SLs_nil (fun _ => rfl)) (fun _ => rfl)) (fun _ => rfl)) (fun _ => rfl)) (fun _ => rfl))))
  Ss_nil)))
noncomputable def ps_add_func_stats : List Nat := [17, 18]

noncomputable def den_count_calls : DS :=
  (sThen (sAsg (.one 52) (eLit (.int 0)))
  (sThen (sFor (.one 53) (iVals (eVar 19)) (sThen (sAug 52 .add (eVar 53))
  sNil))
  (sThen (sRet (eVar 52))
  sNil)))
set_option maxHeartbeats 4000000 in
theorem ss_count_calls {W : Wd} (GW : Good W) (NM : Nms W) : Ss W 0 (fScope (stAt 5)) (den_count_calls) (fBody (stAt 5)) :=
  (Ss_cons GW (S1_asg (i := 52) GW SE_int (by kernel_rfl) (by kernel_rfl) (fun _ _ => rfl))
  (Ss_cons GW (S1_for (p := (.one 53)) GW (SI_vals GW (vE (i := 19) (by kernel_rfl) (by kernel_rfl)) (fun _ => rfl) rfl (fun _ _ => rfl)) (fun _ _ => rfl) (.one ⟨⟨_, rfl⟩, Nat.blt_eq.mp (by kernel_rfl), (by kernel_rfl)⟩) (Ss_cons GW (S1_aug (i := 52) (op := .add) GW (vE (i := 53) (by kernel_rfl) (by kernel_rfl)) (by kernel_rfl) (by kernel_rfl))
  Ss_nil))
  (Ss_cons GW (S1_ret (vE (i := 52) (by kernel_rfl) (by kernel_rfl)))
  Ss_nil)))
noncomputable def ps_count_calls : List Nat := [19]

noncomputable def den__substitution_cost : DS :=
  (sThen (sIf (bCmp .eq (lVar 23) (lVar 24)) (sThen (sRet (eLit (.int 0)))
  sNil) sNil)
  (sThen (sIf (bCmp .eq (lE (eMeth lowerD (eVar 23) aNil)) (lE (eMeth lowerD (eVar 24) aNil))) (sThen (sRet (eLit (.int 1)))
  sNil) sNil)
  (sThen (sRet (eLit (.int 2)))
  sNil)))
set_option maxHeartbeats 4000000 in
theorem ss__substitution_cost {W : Wd} (GW : Good W) (NM : Nms W) : Ss W 0 (fScope (stAt 16)) (den__substitution_cost) (fBody (stAt 16)) :=
  (Ss_cons GW (S1_if GW (SB_cmp (op := .eq) (vL (i := 23) (by kernel_rfl) (by kernel_rfl)) (vL (i := 24) (by kernel_rfl) (by kernel_rfl)) rfl) (Ss_cons GW (S1_ret SE_int)
  Ss_nil) Ss_nil)
  (Ss_cons GW (S1_if GW (SB_cmp (op := .eq) (SE.toL (SE_meth F.slot_str_lower F.type_str_lower lower_ok lower_str (vE (i := 23) (by kernel_rfl) (by kernel_rfl)) SLs_nil (fun _ => rfl) (fun _ => rfl) rfl)) (SE.toL (SE_meth F.slot_str_lower F.type_str_lower lower_ok lower_str (vE (i := 24) (by kernel_rfl) (by kernel_rfl)) SLs_nil (fun _ => rfl) (fun _ => rfl) rfl)) rfl) (Ss_cons GW (S1_ret (SE_glb2 GW (by kernel_rfl) (by kernel_rfl) NM.case))
  Ss_nil) Ss_nil)
  (Ss_cons GW (S1_ret (SE_glb2 GW (by kernel_rfl) (by kernel_rfl) NM.move))
  Ss_nil)))
noncomputable def ps__substitution_cost : List Nat := [23, 24]

noncomputable def den__law_events : DS :=
  (sThen (sNewL 57)
  (sThen (sAsg (.one 58) (eLst aNil))
  (sThen (sAsg (.one 59) (eLit (.int 0)))
  (sThen (sWhile 9 (bOr (bCmp .lt (lVar 59) (lE (eLit (.int 4)))) (bCmp .ne (lVar 58) (lE (eLst aNil)))) (sThen (sAsg (.many [25, 118]) (eApp divmodD (aCons (eVar 25) (aCons (eLit (.int 2)) aNil))))
  (sThen (sIf (bAnd (bCmp .lt (lVar 59) (lE (eLit (.int 4)))) (bOr (bCmp .eq (lVar 58) (lE (eLst aNil))) (bCmp .eq (lVar 118) (lE (eLit (.int 1)))))) (sThen (sApp 57 (eTup (aCons (eVar 59) (aCons (eLit (.bool true)) aNil))))
  (sThen (sAsg (.one 58) (eBin .add (lVar 58) (lE (eLst (aCons (eVar 59) aNil)))))
  (sThen (sAsg (.one 59) (eBin .add (lVar 59) (lE (eLit (.int 1)))))
  sNil))) (sThen (sAsg (.many [26, 127]) (eApp divmodD (aCons (eVar 26) (aCons (eApp lenD (aCons (eVar 58) aNil)) aNil))))
  (sThen (sApp 57 (eTup (aCons (eIdx (lVar 58) (lVar 127)) (aCons (eLit (.bool false)) aNil))))
  (sThen (sAsg (.one 58) (eBin .add (lE (eCut (lVar 58) none (some (eVar 127)))) (lE (eCut (lVar 58) (some (eBin .add (lVar 127) (lE (eLit (.int 1))))) none))))
  sNil))))
  sNil)))
  (sThen (sTry (sRet (eVar 57)))
  sNil)))))
set_option maxHeartbeats 4000000 in
theorem ss__law_events {W : Wd} (GW : Good W) (NM : Nms W) : Ss W 0 (fScope (stAt 18)) (den__law_events) (fBody (stAt 18)) :=
  (Ss_cons GW (S1_newL (i := 57) GW (by kernel_rfl) (by kernel_rfl))
  (Ss_cons GW (S1_asg (i := 58) GW (SE_lst GW SLs_nil) (by kernel_rfl) (by kernel_rfl) (fun _ _ => rfl))
  (Ss_cons GW (S1_asg (i := 59) GW SE_int (by kernel_rfl) (by kernel_rfl) (fun _ _ => rfl))
  (Ss_cons GW (S1_while (k := 9) GW (SB_or (SB_cmp (op := .lt) (vL (i := 59) (by kernel_rfl) (by kernel_rfl)) (SE.toL SE_int) rfl) (SB_cmp (op := .ne) (vL (i := 58) (by kernel_rfl) (by kernel_rfl)) (SE.toL (SE_lst GW SLs_nil)) rfl)) (Ss_cons GW (S1_asgT GW (SE_bi GW (divmod_ok GW) NM.divmod.1 NM.divmod.2 (by kernel_rfl) (by kernel_rfl) (SLs_cons (vE (i := 25) (by kernel_rfl) (by kernel_rfl)) (SLs_cons SE_int SLs_nil (fun _ => rfl)) (fun _ => rfl))) (.many (l := [25, 118]) (.cons ⟨⟨_, rfl⟩, Nat.blt_eq.mp (by kernel_rfl), (by kernel_rfl)⟩ (.cons ⟨⟨_, rfl⟩, Nat.blt_eq.mp (by kernel_rfl), (by kernel_rfl)⟩ .nil))) (fun _ => rfl) (fun _ => rfl))
  (Ss_cons GW (S1_if GW (SB_and (SB_cmp (op := .lt) (vL (i := 59) (by kernel_rfl) (by kernel_rfl)) (SE.toL SE_int) rfl) (SB_or (SB_cmp (op := .eq) (vL (i := 58) (by kernel_rfl) (by kernel_rfl)) (SE.toL (SE_lst GW SLs_nil)) rfl) (SB_cmp (op := .eq) (vL (i := 118) (by kernel_rfl) (by kernel_rfl)) (SE.toL SE_int) rfl))) (Ss_cons GW (S1_app (i := 57) GW (SE_tup GW (SLs_cons (vE (i := 59) (by kernel_rfl) (by kernel_rfl)) (SLs_cons SE_bool SLs_nil (fun _ => rfl)) (fun _ => rfl))) (by kernel_rfl) (by kernel_rfl) (nodebug (by kernel_rfl)) rfl (fun _ => rfl))
  (Ss_cons GW (S1_asg (i := 58) GW (SE_bin (op := .add) GW (vL (i := 58) (by kernel_rfl) (by kernel_rfl)) (SE.toL (SE_lst GW (SLs_cons (vE (i := 59) (by kernel_rfl) (by kernel_rfl)) SLs_nil (fun _ => rfl))))) (by kernel_rfl) (by kernel_rfl) (fun _ _ => rfl))
  (Ss_cons GW (S1_asg (i := 59) GW (SE_bin (op := .add) GW (vL (i := 59) (by kernel_rfl) (by kernel_rfl)) (SE.toL SE_int)) (by kernel_rfl) (by kernel_rfl) (fun _ _ => rfl))
  Ss_nil))) (Ss_cons GW (S1_asgT GW (SE_bi GW (divmod_ok GW) NM.divmod.1 NM.divmod.2 (by kernel_rfl) (by kernel_rfl) (SLs_cons (vE (i := 26) (by kernel_rfl) (by kernel_rfl)) (SLs_cons (SE_bi GW len_ok NM.len.1 NM.len.2 (by kernel_rfl) (by kernel_rfl) (SLs_cons (vE (i := 58) (by kernel_rfl) (by kernel_rfl)) SLs_nil (fun _ => rfl))) SLs_nil (fun _ => rfl)) (fun _ => rfl))) (.many (l := [26, 127]) (.cons ⟨⟨_, rfl⟩, Nat.blt_eq.mp (by kernel_rfl), (by kernel_rfl)⟩ (.cons ⟨⟨_, rfl⟩, Nat.blt_eq.mp (by kernel_rfl), (by kernel_rfl)⟩ .nil))) (fun _ => rfl) (fun _ => rfl))
  (Ss_cons GW (S1_app (i := 57) GW (SE_tup GW (SLs_cons (SE_idx (vL (i := 58) (by kernel_rfl) (by kernel_rfl)) (vL (i := 127) (by kernel_rfl) (by kernel_rfl)) (fun _ _ => rfl)) (SLs_cons SE_bool SLs_nil (fun _ => rfl)) (fun _ => rfl))) (by kernel_rfl) (by kernel_rfl) (nodebug (by kernel_rfl)) rfl (fun _ => rfl))
  (Ss_cons GW (S1_asg (i := 58) GW (SE_bin (op := .add) GW (SE.toL (SE_cut GW (lo := none) (hi := (some (eVar 127))) (vL (i := 58) (by kernel_rfl) (by kernel_rfl)) trivial (vE (i := 127) (by kernel_rfl) (by kernel_rfl)))) (SE.toL (SE_cut GW (lo := (some (eBin .add (lVar 127) (lE (eLit (.int 1)))))) (hi := none) (vL (i := 58) (by kernel_rfl) (by kernel_rfl)) (SE_bin (op := .add) GW (vL (i := 127) (by kernel_rfl) (by kernel_rfl)) (SE.toL SE_int)) trivial))) (by kernel_rfl) (by kernel_rfl) (fun _ _ => rfl))
  Ss_nil))))
  Ss_nil)))
  (Ss_cons GW (S1_try GW (S1_ret (vE (i := 57) (by kernel_rfl) (by kernel_rfl))))
  Ss_nil)))))
noncomputable def ps__law_events : List Nat := [25, 26]

noncomputable def den__law_name : DS :=
  (sThen (sAsg (.one 60) (eApp chrD (aCons (eBin .add (lE (eBin .add (lE (eLit (.int 97))) (lE (eBin .mul (lE (eLit (.int 5))) (lVar 28))))) (lE (eBin .mod (lVar 27) (lE (eLit (.int 5)))))) aNil)))
  (sThen (sIf (bCmp .ne (lVar 29) (lE (eCmp .eq (lE (eBin .mod (lE (eBin .fdiv (lVar 27) (lE (eLit (.int 5))))) (lE (eLit (.int 2))))) (lE (eLit (.int 0)))))) (sThen (sAsg (.one 60) (eMeth upperD (eVar 60) aNil))
  sNil) sNil)
  (sThen (sAsg (.one 61) (eIte (bVal (eVar 29)) (eBin .fdiv (lVar 27) (lE (eLit (.int 10)))) (eBin .fdiv (lVar 27) (lE (eLit (.int 250))))))
  (sThen (sRet (eBin .add (lE (eBin .add (lVar 60) (lE (eIdx (lE (eLit (.str "()\"\\x"))) (lE (eBin .mod (lVar 61) (lE (eLit (.int 5))))))))) (lE (eIdx (lE (eLit (.str "()\"\\x"))) (lE (eBin .mod (lE (eBin .fdiv (lVar 61) (lE (eLit (.int 5))))) (lE (eLit (.int 5)))))))))
  sNil))))
set_option maxHeartbeats 4000000 in
theorem ss__law_name {W : Wd} (GW : Good W) (NM : Nms W) : Ss W 0 (fScope (stAt 19)) (den__law_name) (fBody (stAt 19)) :=
  (Ss_cons GW (S1_asg (i := 60) GW (SE_bi GW chr_ok NM.chr.1 NM.chr.2 (by kernel_rfl) (by kernel_rfl) (SLs_cons (SE_bin (op := .add) GW (SE.toL (SE_bin (op := .add) GW (SE.toL SE_int) (SE.toL (SE_bin (op := .mul) GW (SE.toL SE_int) (vL (i := 28) (by kernel_rfl) (by kernel_rfl)))))) (SE.toL (SE_bin (op := .mod) GW (vL (i := 27) (by kernel_rfl) (by kernel_rfl)) (SE.toL SE_int)))) SLs_nil (fun _ => rfl))) (by kernel_rfl) (by kernel_rfl) (fun _ _ => rfl))
  (Ss_cons GW (S1_if GW (SB_cmp (op := .ne) (vL (i := 29) (by kernel_rfl) (by kernel_rfl)) (SE.toL (SE_cmp (op := .eq) (SE.toL (SE_bin (op := .mod) GW (SE.toL (SE_bin (op := .fdiv) GW (vL (i := 27) (by kernel_rfl) (by kernel_rfl)) (SE.toL SE_int))) (SE.toL SE_int))) (SE.toL SE_int) rfl)) rfl) (Ss_cons GW (S1_asg (i := 60) GW (SE_meth F.slot_str_upper F.type_str_upper upper_ok upper_str (vE (i := 60) (by kernel_rfl) (by kernel_rfl)) SLs_nil (fun _ => rfl) (fun _ => rfl) rfl) (by kernel_rfl) (by kernel_rfl) (fun _ _ => rfl))
  Ss_nil) Ss_nil)
  (Ss_cons GW (S1_asg (i := 61) GW (SE_ite (SB_val (vE (i := 29) (by kernel_rfl) (by kernel_rfl)) (fun _ _ => rfl)) (SE_bin (op := .fdiv) GW (vL (i := 27) (by kernel_rfl) (by kernel_rfl)) (SE.toL SE_int)) (SE_bin (op := .fdiv) GW (vL (i := 27) (by kernel_rfl) (by kernel_rfl)) (SE.toL SE_int))) (by kernel_rfl) (by kernel_rfl) (fun _ _ => rfl))
  (Ss_cons GW (S1_ret (SE_bin (op := .add) GW (SE.toL (SE_bin (op := .add) GW (vL (i := 60) (by kernel_rfl) (by kernel_rfl)) (SE.toL (SE_idx (SE.toL SE_str) (SE.toL (SE_bin (op := .mod) GW (vL (i := 61) (by kernel_rfl) (by kernel_rfl)) (SE.toL SE_int))) (fun _ _ => rfl))))) (SE.toL (SE_idx (SE.toL SE_str) (SE.toL (SE_bin (op := .mod) GW (SE.toL (SE_bin (op := .fdiv) GW (vL (i := 61) (by kernel_rfl) (by kernel_rfl)) (SE.toL SE_int))) (SE.toL SE_int))) (fun _ _ => rfl)))))
  Ss_nil))))
noncomputable def ps__law_name : List Nat := [27, 28, 29]

noncomputable def den__law_talk : DS :=
  (sThen (sNewL 62)
  (sThen (sFor (.one 63) (iRng1 (eLit (.int 8))) (sThen (sApp 62 (eTup (aCons (eBin .add (lE (eBin .add (lE (eLit (.str "257 \""))) (lE (eRepl "\"" "\"\"" (eIdx (lVar 30) (lVar 63)))))) (lE (eLit (.str "\" told")))) (aCons (eIdx (lVar 30) (lVar 63)) aNil))))
  (sThen (sIf (bCmp .eq (lE (eBin .mod (lE (eBin .fdiv (lVar 31) (lE (eBin .pow (lE (eLit (.int 2))) (lVar 63))))) (lE (eLit (.int 2))))) (lE (eLit (.int 1)))) (sThen (sApp 62 (eTup (aCons (eBin .add (lE (eBin .add (lE (eLit (.str "226 \"("))) (lE (eIdx (lVar 30) (lVar 63))))) (lE (eLit (.str "\" done")))) (aCons (eLit (.str "refused")) aNil))))
  sNil) sNil)
  sNil)))
  (sThen (sTry (sRet (eVar 62)))
  sNil)))
set_option maxHeartbeats 4000000 in
theorem ss__law_talk {W : Wd} (GW : Good W) (NM : Nms W) : Ss W 0 (fScope (stAt 20)) (den__law_talk) (fBody (stAt 20)) :=
  (Ss_cons GW (S1_newL (i := 62) GW (by kernel_rfl) (by kernel_rfl))
  (Ss_cons GW (S1_for (p := (.one 63)) GW (SI_rng1 GW NM.range.1 NM.range.2 (by kernel_rfl) (by kernel_rfl) (SLs_cons SE_int SLs_nil (fun _ => rfl)) (fun _ _ => rfl)) (fun _ _ => rfl) (.one ⟨⟨_, rfl⟩, Nat.blt_eq.mp (by kernel_rfl), (by kernel_rfl)⟩) (Ss_cons GW (S1_app (i := 62) GW (SE_tup GW (SLs_cons (SE_bin (op := .add) GW (SE.toL (SE_bin (op := .add) GW (SE.toL SE_str) (SE.toL (SE_repl (SE_idx (vL (i := 30) (by kernel_rfl) (by kernel_rfl)) (vL (i := 63) (by kernel_rfl) (by kernel_rfl)) (fun _ _ => rfl)) (fun _ => rfl) rfl)))) (SE.toL SE_str)) (SLs_cons (SE_idx (vL (i := 30) (by kernel_rfl) (by kernel_rfl)) (vL (i := 63) (by kernel_rfl) (by kernel_rfl)) (fun _ _ => rfl)) SLs_nil (fun _ => rfl)) (fun _ => rfl))) (by kernel_rfl) (by kernel_rfl) (nodebug (by kernel_rfl)) rfl (fun _ => rfl))
  (Ss_cons GW (S1_if GW (SB_cmp (op := .eq) (SE.toL (SE_bin (op := .mod) GW (SE.toL (SE_bin (op := .fdiv) GW (vL (i := 31) (by kernel_rfl) (by kernel_rfl)) (SE.toL (SE_bin (op := .pow) GW (SE.toL SE_int) (vL (i := 63) (by kernel_rfl) (by kernel_rfl)))))) (SE.toL SE_int))) (SE.toL SE_int) rfl) (Ss_cons GW (S1_app (i := 62) GW (SE_tup GW (SLs_cons (SE_bin (op := .add) GW (SE.toL (SE_bin (op := .add) GW (SE.toL SE_str) (SE.toL (SE_idx (vL (i := 30) (by kernel_rfl) (by kernel_rfl)) (vL (i := 63) (by kernel_rfl) (by kernel_rfl)) (fun _ _ => rfl))))) (SE.toL SE_str)) (SLs_cons SE_str SLs_nil (fun _ => rfl)) (fun _ => rfl))) (by kernel_rfl) (by kernel_rfl) (nodebug (by kernel_rfl)) rfl (fun _ => rfl))
  Ss_nil) Ss_nil)
  Ss_nil)))
  (Ss_cons GW (S1_try GW (S1_ret (vE (i := 62) (by kernel_rfl) (by kernel_rfl))))
  Ss_nil)))
noncomputable def ps__law_talk : List Nat := [30, 31]

noncomputable def den__law_table (Fadd_callers : List D → Option D) : DS :=
  (sThen (sAsg (.one 65) (eDct1 (eLit (.int 0)) (eLit (.int 1))))
  (sThen (sFor (.one 66) (iAny (eVar 34)) (sThen (sAsg (.one 104) (eLit (.dct [] [])))
  (sThen (sFor (.one 105) (iRng1 (eVar 66)) (sThen (sAsg (.one 104) (eApp Fadd_callers (aCons (eVar 104) (aCons (dcF (iAny (eVar 65)) (.one 113) bTrue (eBin .add (lVar 113) (lVar 105)) (eIdx (lVar 65) (lVar 113))) aNil))))
  sNil))
  (sThen (sAsg (.one 65) (eVar 104))
  sNil))))
  (sThen (sRet (eVar 65))
  sNil)))
set_option maxHeartbeats 4000000 in
theorem ss__law_table {W : Wd} (GW : Good W) (NM : Nms W) {Fadd_callers : List D → Option D} (hadd_callers : FnOk W 1 "add_callers" Fadd_callers) : Ss W 1 (fScope (stAt 23)) (den__law_table Fadd_callers) (fBody (stAt 23)) := by
  refine @Ss_cons _ _ _ GW _ _ _ _ ?_ ?_
  · refine @S1_asg _ _ _ GW 65 _ _ _ _ ?_ ?_ ?_ ?_
    · refine @SE_dct1 _ _ _ GW _ _ _ _ _ ?_ ?_
      · exact SE_int
      · exact SE_int
    · kernel_rfl
    · kernel_rfl
    · exact (fun _ _ => rfl)
  refine @Ss_cons _ _ _ GW _ _ _ _ ?_ ?_
  · refine @S1_for _ _ _ GW ((.one 66)) _ _ _ _ _ _ ?_ ?_ ?_ ?_
    · refine @SI_any _ _ _ GW _ _ _ ?_ ?_
      · refine @vE _ _ _ 34 _ ?_ ?_
        · kernel_rfl
        · kernel_rfl
      · exact (fun _ _ => rfl)
    · exact (fun _ _ => rfl)
    · exact (.one ⟨⟨_, rfl⟩, Nat.blt_eq.mp (by kernel_rfl), (by kernel_rfl)⟩)
    · refine @Ss_cons _ _ _ GW _ _ _ _ ?_ ?_
      · refine @S1_asg _ _ _ GW 104 _ _ _ _ ?_ ?_ ?_ ?_
        · exact @SE_dct0 _ _ _ GW _
        · kernel_rfl
        · kernel_rfl
        · exact (fun _ _ => rfl)
      refine @Ss_cons _ _ _ GW _ _ _ _ ?_ ?_
      · refine @S1_for _ _ _ GW ((.one 105)) _ _ _ _ _ _ ?_ ?_ ?_ ?_
        · refine @SI_rng1 _ _ _ GW _ _ _ _ _ _ NM.range.1 NM.range.2 ?_ ?_ ?_ ?_
          · kernel_rfl
          · kernel_rfl
          · refine @SLs_cons _ _ _ _ _ _ _ ?_ ?_ ?_
            · refine @vE _ _ _ 66 _ ?_ ?_
              · kernel_rfl
              · kernel_rfl
            · exact SLs_nil
            · exact (fun _ => rfl)
          · exact (fun _ _ => rfl)
        · exact (fun _ _ => rfl)
        · exact (.one ⟨⟨_, rfl⟩, Nat.blt_eq.mp (by kernel_rfl), (by kernel_rfl)⟩)
        · refine @Ss_cons _ _ _ GW _ _ _ _ ?_ ?_
          · refine @S1_asg _ _ _ GW 104 _ _ _ _ ?_ ?_ ?_ ?_
            · refine @SE_call _ _ _ GW _ _ _ _ _ _ _ hadd_callers ?_ ?_ ?_ ?_
              · kernel_rfl
              · kernel_rfl
              · kernel_rfl
              · refine @SLs_cons _ _ _ _ _ _ _ ?_ ?_ ?_
                · refine @vE _ _ _ 104 _ ?_ ?_
                  · kernel_rfl
                  · kernel_rfl
                · refine @SLs_cons _ _ _ _ _ _ _ ?_ ?_ ?_
                  · exact (SE_comp GW (CR_d1 (p := (.one 113)) GW (by kernel_rfl) (by kernel_rfl) (fun _ _ => rfl) (SI_any GW (vE (i := 65) (by kernel_rfl) (by kernel_rfl)) (fun _ _ => rfl)) (.one ⟨⟨_, rfl⟩, Nat.blt_eq.mp (by kernel_rfl), (by kernel_rfl)⟩) ifs_nil (SE_bin (op := .add) GW (vL (i := 113) (by kernel_rfl) (by kernel_rfl)) (vL (i := 105) (by kernel_rfl) (by kernel_rfl))) (SE_idx (vL (i := 65) (by kernel_rfl) (by kernel_rfl)) (vL (i := 113) (by kernel_rfl) (by kernel_rfl)) (fun _ _ => rfl))) (fun _ => rfl))
                  · exact SLs_nil
                  · exact (fun _ => rfl)
                · exact (fun _ => rfl)
            · kernel_rfl
            · kernel_rfl
            · exact (fun _ _ => rfl)
          exact Ss_nil
      refine @Ss_cons _ _ _ GW _ _ _ _ ?_ ?_
      · refine @S1_asg _ _ _ GW 65 _ _ _ _ ?_ ?_ ?_ ?_
        · refine @vE _ _ _ 104 _ ?_ ?_
          · kernel_rfl
          · kernel_rfl
        · kernel_rfl
        · kernel_rfl
        · exact (fun _ _ => rfl)
      exact Ss_nil
  refine @Ss_cons _ _ _ GW _ _ _ _ ?_ ?_
  · refine @S1_ret _ _ _ _ _ _ ?_
    refine @vE _ _ _ 65 _ ?_ ?_
    · kernel_rfl
    · kernel_rfl
  exact Ss_nil
noncomputable def ps__law_table : List Nat := [34]

noncomputable def den__law_ways : DS :=
  (sThen (sAsg (.one 67) (eLst (aCons (eTup (aCons (eLst aNil) (aCons (eLst aNil) aNil))) aNil)))
  (sThen (sFor (.one 68) (iRng1 (eLit (.int 8))) (sThen (sIf (bVal (eIdx (lVar 35) (lVar 68))) (sThen (sAsg (.one 67) (lcF (iLst (eVar 67)) (.many [128, 36]) bTrue (eTup (aCons (eBin .add (lVar 128) (lE (eLst (aCons (eVar 68) aNil)))) (aCons (eVar 36) aNil)))))
  sNil) (sThen (sAsg (.one 67) (lcF2 (iLst (eVar 67)) (.many [128, 36]) bTrue (iRng1 (eApp lenD (aCons (eVar 128) aNil))) (.one 127) bTrue (eTup (aCons (eBin .add (lE (eCut (lVar 128) none (some (eVar 127)))) (lE (eCut (lVar 128) (some (eBin .add (lVar 127) (lE (eLit (.int 1))))) none))) (aCons (eBin .add (lVar 36) (lE (eLst (aCons (eTup (aCons (eIdx (lVar 128) (lVar 127)) (aCons (eVar 68) aNil))) aNil)))) aNil)))))
  sNil))
  sNil))
  (sThen (sRet (lcF (iLst (eVar 67)) (.many [128, 36]) bTrue (eApp sortedD (aCons (eVar 36) aNil))))
  sNil)))
set_option maxHeartbeats 4000000 in
theorem ss__law_ways {W : Wd} (GW : Good W) (NM : Nms W) : Ss W 0 (fScope (stAt 24)) (den__law_ways) (fBody (stAt 24)) := by
  refine @Ss_cons _ _ _ GW _ _ _ _ ?_ ?_
  · refine @S1_asg _ _ _ GW 67 _ _ _ _ ?_ ?_ ?_ ?_
    · refine @SE_lst _ _ _ GW _ _ _ ?_
      refine @SLs_cons _ _ _ _ _ _ _ ?_ ?_ ?_
      · refine @SE_tup _ _ _ GW _ _ _ _ ?_
        refine @SLs_cons _ _ _ _ _ _ _ ?_ ?_ ?_
        · refine @SE_lst _ _ _ GW _ _ _ ?_
          exact SLs_nil
        · refine @SLs_cons _ _ _ _ _ _ _ ?_ ?_ ?_
          · refine @SE_lst _ _ _ GW _ _ _ ?_
            exact SLs_nil
          · exact SLs_nil
          · exact (fun _ => rfl)
        · exact (fun _ => rfl)
      · exact SLs_nil
      · exact (fun _ => rfl)
    · kernel_rfl
    · kernel_rfl
    · exact (fun _ _ => rfl)
  refine @Ss_cons _ _ _ GW _ _ _ _ ?_ ?_
  · refine @S1_for _ _ _ GW ((.one 68)) _ _ _ _ _ _ ?_ ?_ ?_ ?_
    · refine @SI_rng1 _ _ _ GW _ _ _ _ _ _ NM.range.1 NM.range.2 ?_ ?_ ?_ ?_
      · kernel_rfl
      · kernel_rfl
      · refine @SLs_cons _ _ _ _ _ _ _ ?_ ?_ ?_
        · exact SE_int
        · exact SLs_nil
        · exact (fun _ => rfl)
      · exact (fun _ _ => rfl)
    · exact (fun _ _ => rfl)
    · exact (.one ⟨⟨_, rfl⟩, Nat.blt_eq.mp (by kernel_rfl), (by kernel_rfl)⟩)
    · refine @Ss_cons _ _ _ GW _ _ _ _ ?_ ?_
      · refine @S1_if _ _ _ GW _ _ _ _ _ _ _ ?_ ?_ ?_
        · refine @SB_val _ _ _ _ _ ?_ ?_
          · refine @SE_idx _ _ _ _ _ _ _ _ ?_ ?_ ?_
            · refine @vL _ _ _ 35 _ ?_ ?_
              · kernel_rfl
              · kernel_rfl
            · refine @vL _ _ _ 68 _ ?_ ?_
              · kernel_rfl
              · kernel_rfl
            · exact (fun _ _ => rfl)
          · exact (fun _ _ => rfl)
        · refine @Ss_cons _ _ _ GW _ _ _ _ ?_ ?_
          · exact (S1_asgC (i := 67) GW (CR_l1 (p := (.many [128, 36])) GW (by kernel_rfl) (by kernel_rfl) (fun _ _ => rfl) (SI_lst GW (vE (i := 67) (by kernel_rfl) (by kernel_rfl))) (.many (l := [128, 36]) (.cons ⟨⟨_, rfl⟩, Nat.blt_eq.mp (by kernel_rfl), (by kernel_rfl)⟩ (.cons ⟨⟨_, rfl⟩, Nat.blt_eq.mp (by kernel_rfl), (by kernel_rfl)⟩ .nil))) ifs_nil (SE_tup GW (SLs_cons (SE_bin (op := .add) GW (vL (i := 128) (by kernel_rfl) (by kernel_rfl)) (SE.toL (SE_lst GW (SLs_cons (vE (i := 68) (by kernel_rfl) (by kernel_rfl)) SLs_nil (fun _ => rfl))))) (SLs_cons (vE (i := 36) (by kernel_rfl) (by kernel_rfl)) SLs_nil (fun _ => rfl)) (fun _ => rfl)))) (fun _ _ => rfl) (by kernel_rfl) (by kernel_rfl) (fun env h => by cases env; cases h; rfl))
          exact Ss_nil
        · refine @Ss_cons _ _ _ GW _ _ _ _ ?_ ?_
          · exact (S1_asgC (i := 67) GW (CR_l2 (p := (.many [128, 36])) (p2 := (.one 127)) GW (by kernel_rfl) (by kernel_rfl) (fun _ _ => rfl) (fun _ _ => rfl) (SI_lst GW (vE (i := 67) (by kernel_rfl) (by kernel_rfl))) (.many (l := [128, 36]) (.cons ⟨⟨_, rfl⟩, Nat.blt_eq.mp (by kernel_rfl), (by kernel_rfl)⟩ (.cons ⟨⟨_, rfl⟩, Nat.blt_eq.mp (by kernel_rfl), (by kernel_rfl)⟩ .nil))) ifs_nil (SI_rng1 GW NM.range.1 NM.range.2 (by kernel_rfl) (by kernel_rfl) (SLs_cons (SE_bi GW len_ok NM.len.1 NM.len.2 (by kernel_rfl) (by kernel_rfl) (SLs_cons (vE (i := 128) (by kernel_rfl) (by kernel_rfl)) SLs_nil (fun _ => rfl))) SLs_nil (fun _ => rfl)) (fun _ _ => rfl)) (.one ⟨⟨_, rfl⟩, Nat.blt_eq.mp (by kernel_rfl), (by kernel_rfl)⟩) ifs_nil (SE_tup GW (SLs_cons (SE_bin (op := .add) GW (SE.toL (SE_cut GW (lo := none) (hi := (some (eVar 127))) (vL (i := 128) (by kernel_rfl) (by kernel_rfl)) trivial (vE (i := 127) (by kernel_rfl) (by kernel_rfl)))) (SE.toL (SE_cut GW (lo := (some (eBin .add (lVar 127) (lE (eLit (.int 1)))))) (hi := none) (vL (i := 128) (by kernel_rfl) (by kernel_rfl)) (SE_bin (op := .add) GW (vL (i := 127) (by kernel_rfl) (by kernel_rfl)) (SE.toL SE_int)) trivial))) (SLs_cons (SE_bin (op := .add) GW (vL (i := 36) (by kernel_rfl) (by kernel_rfl)) (SE.toL (SE_lst GW (SLs_cons (SE_tup GW (SLs_cons (SE_idx (vL (i := 128) (by kernel_rfl) (by kernel_rfl)) (vL (i := 127) (by kernel_rfl) (by kernel_rfl)) (fun _ _ => rfl)) (SLs_cons (vE (i := 68) (by kernel_rfl) (by kernel_rfl)) SLs_nil (fun _ => rfl)) (fun _ => rfl))) SLs_nil (fun _ => rfl))))) SLs_nil (fun _ => rfl)) (fun _ => rfl)))) (fun _ _ => rfl) (by kernel_rfl) (by kernel_rfl) (fun env h => by cases env; cases h; rfl))
          exact Ss_nil
      exact Ss_nil
  refine @Ss_cons _ _ _ GW _ _ _ _ ?_ ?_
  · refine @S1_ret _ _ _ _ _ _ ?_
    exact (SE_comp GW (CR_l1 (p := (.many [128, 36])) GW (by kernel_rfl) (by kernel_rfl) (fun _ _ => rfl) (SI_lst GW (vE (i := 67) (by kernel_rfl) (by kernel_rfl))) (.many (l := [128, 36]) (.cons ⟨⟨_, rfl⟩, Nat.blt_eq.mp (by kernel_rfl), (by kernel_rfl)⟩ (.cons ⟨⟨_, rfl⟩, Nat.blt_eq.mp (by kernel_rfl), (by kernel_rfl)⟩ .nil))) ifs_nil (SE_bi GW (sorted_ok GW) NM.sorted.1 NM.sorted.2 (by kernel_rfl) (by kernel_rfl) (SLs_cons (vE (i := 36) (by kernel_rfl) (by kernel_rfl)) SLs_nil (fun _ => rfl)))) (fun _ => rfl))
  exact Ss_nil
noncomputable def ps__law_ways : List Nat := [35]

noncomputable def den__law_most : DS :=
  (sThen (sIf (bCmp .eq (lE (eApp lenD (aCons (eVar 38) aNil))) (lE (eLit (.int 6)))) (sThen (sRet (eLit (.int 4)))
  sNil) sNil)
  (sThen (sIf (bCmp .ne (lE (lcF2 (iLst (eVar 38)) (.many [55, 69]) bTrue (iRng2 (eBin .add (lVar 69) (lE (eLit (.int 1)))) (eLit (.int 4))) (.one 63) (bAnd (bCmp .inn (lE (eTup (aCons (eVar 55) (aCons (eVar 63) aNil)))) (lVar 38)) (bCmp .inn (lE (eTup (aCons (eVar 69) (aCons (eVar 63) aNil)))) (lVar 38))) (eLit (.int 1)))) (lE (eLst aNil))) (sThen (sRet (eLit (.int 3)))
  sNil) sNil)
  (sThen (sRet (eIte (bCmp .ne (lVar 38) (lE (eLst aNil))) (eLit (.int 2)) (eLit (.int 1))))
  sNil)))
set_option maxHeartbeats 4000000 in
theorem ss__law_most {W : Wd} (GW : Good W) (NM : Nms W) : Ss W 0 (fScope (stAt 26)) (den__law_most) (fBody (stAt 26)) :=
  (Ss_cons GW (S1_if GW (SB_cmp (op := .eq) (SE.toL (SE_bi GW len_ok NM.len.1 NM.len.2 (by kernel_rfl) (by kernel_rfl) (SLs_cons (vE (i := 38) (by kernel_rfl) (by kernel_rfl)) SLs_nil (fun _ => rfl)))) (SE.toL SE_int) rfl) (Ss_cons GW (S1_ret SE_int)
  Ss_nil) Ss_nil)
  (Ss_cons GW (S1_if GW (SB_cmp (op := .ne) (SE.toL (SE_comp GW (CR_l2 (p := (.many [55, 69])) (p2 := (.one 63)) GW (by kernel_rfl) (by kernel_rfl) (fun _ _ => rfl) (fun _ _ => rfl) (SI_lst GW (vE (i := 38) (by kernel_rfl) (by kernel_rfl))) (.many (l := [55, 69]) (.cons ⟨⟨_, rfl⟩, Nat.blt_eq.mp (by kernel_rfl), (by kernel_rfl)⟩ (.cons ⟨⟨_, rfl⟩, Nat.blt_eq.mp (by kernel_rfl), (by kernel_rfl)⟩ .nil))) ifs_nil (SI_rng2 GW NM.range.1 NM.range.2 (by kernel_rfl) (by kernel_rfl) (SLs_cons (SE_bin (op := .add) GW (vL (i := 69) (by kernel_rfl) (by kernel_rfl)) (SE.toL SE_int)) (SLs_cons SE_int SLs_nil (fun _ => rfl)) (fun _ => rfl)) (fun _ _ => rfl)) (.one ⟨⟨_, rfl⟩, Nat.blt_eq.mp (by kernel_rfl), (by kernel_rfl)⟩) (ifs_one (SB_and (SB_cmp (op := .inn) (SE.toL (SE_tup GW (SLs_cons (vE (i := 55) (by kernel_rfl) (by kernel_rfl)) (SLs_cons (vE (i := 63) (by kernel_rfl) (by kernel_rfl)) SLs_nil (fun _ => rfl)) (fun _ => rfl)))) (vL (i := 38) (by kernel_rfl) (by kernel_rfl)) rfl) (SB_cmp (op := .inn) (SE.toL (SE_tup GW (SLs_cons (vE (i := 69) (by kernel_rfl) (by kernel_rfl)) (SLs_cons (vE (i := 63) (by kernel_rfl) (by kernel_rfl)) SLs_nil (fun _ => rfl)) (fun _ => rfl)))) (vL (i := 38) (by kernel_rfl) (by kernel_rfl)) rfl))) SE_int) (fun _ => rfl))) (SE.toL (SE_lst GW SLs_nil)) rfl) (Ss_cons GW (S1_ret SE_int)
  Ss_nil) Ss_nil)
  (Ss_cons GW (S1_ret (SE_ite (SB_cmp (op := .ne) (vL (i := 38) (by kernel_rfl) (by kernel_rfl)) (SE.toL (SE_lst GW SLs_nil)) rfl) SE_int SE_int))
  Ss_nil)))
noncomputable def ps__law_most : List Nat := [38]

end Mine
namespace Mine
open PySem PySem.W PySem.Calls PyProof.Rows

/-- places that are no longer looked at -/
noncomputable def sDrop (ids : List Nat) (f : DS) : DS := fun σ => f (dropL ids σ)
theorem S1_drop {W : Wd} {n : Nat} {sc : Scope} {ids : List Nat} {f : DS} {st : Stmt} (h : S1 W n sc f st) : S1 W n sc (sDrop ids f) st := by
  intro A env σ m K s r E hs hf ok R rm
  have hb : ∀ a, Bs env s.heap m (dropL ids σ) a → Bs env s.heap m σ a := by
    rintro a (h | h | ⟨i, d, hi, e, hv⟩)
    · exact .inl h
    · exact .inr (.inl h)
    · exact .inr (.inr ⟨i, d, hi, dropL_sub ids σ i _ e, hv⟩)
  refine wpAny_mono (h A env (dropL ids σ) m K s r E hs hf ok (R.sub (dropL_sub ids σ)) rm) (fun flow s' ⟨K', m', x, R', hb', hf'⟩ => ?_) fun _ _ h => h
  exact ⟨K', m', x.mono ok fun a ha => .inl (hb a ha), R', fun a ha => (hb' a ha).imp (hb a) id, hf'⟩

noncomputable def den_law (F_law_events : List D → Option D) (F_law_name : List D → Option D) (F_law_talk : List D → Option D) (F_law_read : List D → Option D) (F_law_piece : List D → Option D) (F_paren_depth : List D → Option D) (F_substitution_cost : List D → Option D) (F_law_table : List D → Option D) (F_law_ways : List D → Option D) (F_law_links : List D → Option D) (F_law_most : List D → Option D) (Fadd_func_stats : List D → Option D) (F_law_book : List D → Option D) (Fadd_callers : List D → Option D) (Fcount_calls : List D → Option D) : DS :=
  (sThen (sAsg (.one 72) (eLst (aCons (eLit (.int 352)) (aCons (eLit (.int 4289)) (aCons (eLit (.int 60)) (aCons (eLit (.int 2376)) (aCons (eLit (.int 4635)) (aCons (eLit (.int 2)) aNil))))))))
  (sThen (sAsg (.one 73) (eBin .add (lE (lcF (iAny (eCut (lVar 40) none (some (eLit (.int 6))))) (.one 129) bTrue (eBin .mod (lVar 129) (lE (eLit (.int 1000000)))))) (lE (eCut (lVar 72) (some (eApp lenD (aCons (eCut (lVar 40) none (some (eLit (.int 6)))) aNil))) none))))
  (sThen (sAsg (.one 57) (eApp F_law_events (aCons (eIdx (lVar 73) (lE (eLit (.int 4)))) (aCons (eIdx (lVar 73) (lE (eLit (.int 5)))) aNil))))
  (sThen (sAsg (.one 30) (lcF (iLst (eVar 57)) (.many [28, 29]) bTrue (eApp F_law_name (aCons (eIdx (lVar 73) (lVar 28)) (aCons (eVar 28) (aCons (eVar 29) aNil))))))
  (sThen (sAsg (.one 62) (eApp F_law_talk (aCons (eVar 30) (aCons (eBin .fdiv (lE (eIdx (lVar 73) (lE (eLit (.int 4))))) (lE (eLit (.int 256)))) aNil))))
  (sThen (sIf (bCmp .ne (lE (lcF (iLst (eVar 62)) (.many [32, 124]) bTrue (eApp F_law_read (aCons (eVar 32) aNil)))) (lE (lcF (iLst (eVar 62)) (.many [32, 124]) bTrue (eVar 124)))) (sThen (sRet (eLit (.bool false)))
  sNil) sNil)
  (sThen (sAsg (.one 22) (eLit (.int 0)))
  (sThen (sNewL 35)
  (sThen (sNewL 34)
  (sThen (sFor (.one 63) (iRng1 (eLit (.int 8))) (sThen (sAsg (.one 106) (eApp F_paren_depth (aCons (eApp F_law_piece (aCons (eIdx (lVar 30) (lVar 63)) (aCons (eIdx (lE (eIdx (lVar 57) (lVar 63))) (lE (eLit (.int 1)))) aNil))) (aCons (eVar 22) aNil))))
  (sThen (sApp 35 (eCmp .eq (lVar 106) (lE (eBin .add (lVar 22) (lE (eLit (.int 1)))))))
  (sThen (sIf (bNot (bVal (eIdx (lVar 35) (lE (eNeg (eLit (.int 1))))))) (sThen (sApp 34 (eVar 22))
  sNil) sNil)
  (sThen (sAsg (.one 22) (eVar 106))
  sNil)))))
  (sThen (sIf (bOr (bCmp .ne (lVar 22) (lE (eLit (.int 0)))) (bCmp .ne (lVar 35) (lE (lcF (iLst (eVar 57)) (.many [28, 29]) bTrue (eVar 29))))) (sThen (sRet (eLit (.bool false)))
  sNil) sNil)
  (sThen (sTry (sAsg (.one 74) (lcF2 (iRng1 (eLit (.int 8))) (.one 55) bTrue (iRng1 (eLit (.int 8))) (.one 69) (bAnd (bVal (eIdx (lVar 35) (lVar 55))) (bNot (bVal (eIdx (lVar 35) (lVar 69))))) (eTup (aCons (eVar 55) (aCons (eVar 69) aNil))))))
  (sThen (sAsg (.one 75) (lcF (iLst (eVar 74)) (.many [55, 69]) bTrue (eApp F_substitution_cost (aCons (eIdx (lE (eIdx (lVar 30) (lVar 55))) (lE (eLit (.int 0)))) (aCons (eIdx (lE (eIdx (lVar 30) (lVar 69))) (lE (eLit (.int 0)))) aNil)))))
  (sThen (sIf (bCmp .ne (lVar 75) (lE (lcF (iLst (eVar 74)) (.many [55, 69]) bTrue (eIte (bCmp .eq (lE (eIdx (lE (eIdx (lVar 57) (lVar 55))) (lE (eLit (.int 0))))) (lE (eIdx (lE (eIdx (lVar 57) (lVar 69))) (lE (eLit (.int 0)))))) (eLit (.int 1)) (eLit (.int 2)))))) (sThen (sRet (eLit (.bool false)))
  sNil) sNil)
  (sThen (sAsg (.one 76) (lcF (iZip (eVar 74) (eVar 75)) (.many [107, 130]) (bCmp .eq (lVar 130) (lE (eLit (.int 1)))) (eVar 107)))
  (sThen (sAsg (.one 77) (eBin .sub (lE (eLit (.int 1))) (lE (eBin .mul (lE (eLit (.int 2))) (lE (eBin .mod (lE (eIdx (lVar 73) (lE (eLit (.int 5))))) (lE (eLit (.int 2)))))))))
  (sThen (sDrop [40, 72, 73, 57, 30, 62, 22, 63, 106, 74, 75] (sAsg (.one 78) (eMkc (eTup (aCons (eTup (aCons (eLit (.int 0)) (aCons (eLit (.int 1)) aNil))) aNil)))))
  (sThen (sAsg (.one 79) (eMkc (eTup (aCons (eTup (aCons (eLit (.int 1)) (aCons (eVar 77) aNil))) aNil))))
  (sThen (sAsg (.one 80) (eApp sumD (aCons (lcF2 (iAny (eVar 76)) (.one 132) bTrue (iAny (eVar 76)) (.one 133) bTrue (eBin .mul (lE (eCmpr (eVar 78) (eVar 132) (eVar 133))) (lE (eCmpr (eVar 79) (eVar 132) (eVar 133))))) aNil)))
  (sThen (sAsg (.one 65) (eApp F_law_table (aCons (eVar 34) aNil)))
  (sThen (sNewL 81)
  (sThen (sNewL 82)
  (sThen (sAsg (.one 83) (eNeg (eLit (.int 1))))
  (sThen (sAsg (.one 84) (eTup (aCons (eLit (.int 0)) (aCons (eLit (.int 0)) (aCons (eLit (.int 0)) (aCons (eLit (.int 0)) (aCons (eLit (.dct [] [])) aNil)))))))
  (sThen (sFor (.one 36) (iAny (eApp F_law_ways (aCons (eVar 35) aNil))) (sThen (sAsg (.one 110) (eApp F_law_links (aCons (eVar 36) (aCons (eLit (.bool true)) aNil))))
  (sThen (sAsg (.one 111) (eApp F_law_links (aCons (eVar 36) (aCons (eLit (.bool false)) aNil))))
  (sThen (sApp 81 (eApp lenD (aCons (eVar 110) aNil)))
  (sThen (sApp 82 (eApp lenD (aCons (eVar 111) aNil)))
  (sThen (sAsg (.one 112) (eBin .add (lE (eBin .mul (lE (eLit (.int 8))) (lE (eApp F_law_most (aCons (eVar 110) aNil))))) (lE (eApp F_law_most (aCons (eVar 111) aNil)))))
  (sThen (sAsg (.one 84) (eApp Fadd_func_stats (aCons (eVar 84) (aCons (eTup (aCons (eLit (.int 1)) (aCons (eIdx (lVar 81) (lE (eNeg (eLit (.int 1))))) (aCons (eIdx (lVar 82) (lE (eNeg (eLit (.int 1))))) (aCons (eBin .mul (lE (eIdx (lVar 81) (lE (eNeg (eLit (.int 1)))))) (lE (eIdx (lVar 82) (lE (eNeg (eLit (.int 1))))))) (aCons (eDct1 (eVar 112) (eLit (.int 1))) aNil)))))) aNil))))
  (sThen (sIf (bCmp .eq (lVar 36) (lVar 76)) (sThen (sAsg (.one 83) (eIdx (lVar 82) (lE (eNeg (eLit (.int 1))))))
  sNil) sNil)
  sNil))))))))
  (sThen (sIf (bCmp .ne (lVar 80) (lE (eBin .mul (lVar 77) (lE (eBin .sub (lE (eLit (.int 12))) (lE (eBin .mul (lE (eLit (.int 4))) (lVar 83)))))))) (sThen (sRet (eLit (.bool false)))
  sNil) sNil)
  (sThen (sTry (sIf (bCmp .ne (lE (lcF (iZip (eVar 81) (eVar 82)) (.many [121, 122]) bTrue (eBin .add (lVar 121) (lVar 122)))) (lE (lcF (iAny (eVar 81)) (.one 121) bTrue (eBin .sub (lE (eApp sumD (aCons (eVar 34) aNil))) (lE (eLit (.int 4))))))) (sThen (sRet (eLit (.bool false)))
  sNil) sNil))
  (sThen (sAsg (.one 85) (eApp F_law_book (aCons (eVar 81) aNil)))
  (sThen (sAsg (.one 86) (eApp F_law_book (aCons (eVar 82) aNil)))
  (sThen (sAsg (.one 43) (dcF (iAny (eVar 85)) (.one 113) bTrue (eVar 113) (eTup (aCons (eIdx (lVar 85) (lVar 113)) (aCons (eLit (.int 0)) aNil)))))
  (sThen (sAsg (.one 44) (dcF (iAny (eVar 86)) (.one 113) bTrue (eVar 113) (eTup (aCons (eLit (.int 0)) (aCons (eIdx (lVar 86) (lVar 113)) aNil)))))
  (sThen (sAsg (.one 87) (eApp Fadd_callers (aCons (eVar 43) (aCons (eVar 44) aNil))))
  (sThen (sIf (bOr (bCmp .ne (lVar 87) (lE (dcF (iAny (eVar 65)) (.one 113) bTrue (eVar 113) (eTup (aCons (eIdx (lVar 65) (lVar 113)) (aCons (eIdx (lVar 65) (lVar 113)) aNil)))))) (bCmp .ne (lE (eApp Fadd_callers (aCons (eVar 44) (aCons (eVar 43) aNil)))) (lVar 87))) (sThen (sRet (eLit (.bool false)))
  sNil) sNil)
  (sThen (sIf (bCmp .ne (lE (eApp Fcount_calls (aCons (eVar 65) aNil))) (lE (eBin .mul (lE (eBin .mul (lE (eBin .mul (lE (eIdx (lVar 34) (lE (eLit (.int 0))))) (lE (eIdx (lVar 34) (lE (eLit (.int 1))))))) (lE (eIdx (lVar 34) (lE (eLit (.int 2))))))) (lE (eIdx (lVar 34) (lE (eLit (.int 3)))))))) (sThen (sRet (eLit (.bool false)))
  sNil) sNil)
  (sThen (sIf (bCmp .ne (lE (eCut (lVar 84) none (some (eLit (.int 4))))) (lE (eTup (aCons (eApp Fcount_calls (aCons (eIdx (lVar 84) (lE (eLit (.int 4)))) aNil)) (aCons (eApp sumD (aCons (eVar 82) aNil)) (aCons (eApp sumD (aCons (eVar 81) aNil)) (aCons (eApp sumD (aCons (lcF (iZip (eVar 81) (eVar 82)) (.many [121, 122]) bTrue (eBin .mul (lVar 121) (lVar 122))) aNil)) aNil))))))) (sThen (sRet (eLit (.bool false)))
  sNil) sNil)
  (sThen (sRet (eCmp .eq (lE (eIdx (lVar 84) (lE (eLit (.int 4))))) (lE (dcF (iAny (eIdx (lVar 84) (lE (eLit (.int 4))))) (.one 113) bTrue (eBin .add (lE (eBin .mul (lE (eBin .mod (lVar 113) (lE (eLit (.int 8))))) (lE (eLit (.int 8))))) (lE (eBin .fdiv (lVar 113) (lE (eLit (.int 8)))))) (eIdx (lE (eIdx (lVar 84) (lE (eLit (.int 4))))) (lVar 113))))))
  sNil))))))))))))))))))))))))))))))))))))
set_option maxHeartbeats 4000000 in
theorem ss_law {W : Wd} (GW : Good W) (NM : Nms W) {F_law_events : List D → Option D} (h_law_events : FnOk W 1 "_law_events" F_law_events) {F_law_name : List D → Option D} (h_law_name : FnOk W 1 "_law_name" F_law_name) {F_law_talk : List D → Option D} (h_law_talk : FnOk W 1 "_law_talk" F_law_talk) {F_law_read : List D → Option D} (h_law_read : FnOk W 8 "_law_read" F_law_read) {F_law_piece : List D → Option D} (h_law_piece : FnOk W 1 "_law_piece" F_law_piece) {F_paren_depth : List D → Option D} (h_paren_depth : FnOk W 1 "_paren_depth" F_paren_depth) {F_substitution_cost : List D → Option D} (h_substitution_cost : FnOk W 1 "_substitution_cost" F_substitution_cost) {F_law_table : List D → Option D} (h_law_table : FnOk W 2 "_law_table" F_law_table) {F_law_ways : List D → Option D} (h_law_ways : FnOk W 1 "_law_ways" F_law_ways) {F_law_links : List D → Option D} (h_law_links : FnOk W 1 "_law_links" F_law_links) {F_law_most : List D → Option D} (h_law_most : FnOk W 1 "_law_most" F_law_most) {Fadd_func_stats : List D → Option D} (hadd_func_stats : FnOk W 2 "add_func_stats" Fadd_func_stats) {F_law_book : List D → Option D} (h_law_book : FnOk W 1 "_law_book" F_law_book) {Fadd_callers : List D → Option D} (hadd_callers : FnOk W 1 "add_callers" Fadd_callers) {Fcount_calls : List D → Option D} (hcount_calls : FnOk W 1 "count_calls" Fcount_calls) (hmkc : MkcOk W 8) (hcmpr : CmprOk W 8) : Ss W 8 (fScope (stAt 28)) (den_law F_law_events F_law_name F_law_talk F_law_read F_law_piece F_paren_depth F_substitution_cost F_law_table F_law_ways F_law_links F_law_most Fadd_func_stats F_law_book Fadd_callers Fcount_calls) (fBody (stAt 28)) := by
  refine @Ss_cons _ _ _ GW _ _ _ _ ?_ ?_
  · refine @S1_asg _ _ _ GW 72 _ _ _ _ ?_ ?_ ?_ ?_
    · refine @SE_lst _ _ _ GW _ _ _ ?_
      refine @SLs_cons _ _ _ _ _ _ _ ?_ ?_ ?_
      · exact SE_int
      · refine @SLs_cons _ _ _ _ _ _ _ ?_ ?_ ?_
        · exact SE_int
        · refine @SLs_cons _ _ _ _ _ _ _ ?_ ?_ ?_
          · exact SE_int
          · refine @SLs_cons _ _ _ _ _ _ _ ?_ ?_ ?_
            · exact SE_int
            · refine @SLs_cons _ _ _ _ _ _ _ ?_ ?_ ?_
              · exact SE_int
              · refine @SLs_cons _ _ _ _ _ _ _ ?_ ?_ ?_
                · exact SE_int
                · exact SLs_nil
                · exact (fun _ => rfl)
              · exact (fun _ => rfl)
            · exact (fun _ => rfl)
          · exact (fun _ => rfl)
        · exact (fun _ => rfl)
      · exact (fun _ => rfl)
    · kernel_rfl
    · kernel_rfl
    · exact (fun _ _ => rfl)
  refine @Ss_cons _ _ _ GW _ _ _ _ ?_ ?_
  · refine @S1_asg _ _ _ GW 73 _ _ _ _ ?_ ?_ ?_ ?_
    · refine @SE_bin _ _ _ GW .add _ _ _ _ _ ?_ ?_
      · refine @SE.toL _ _ _ _ _ ?_
        exact (SE_comp GW (CR_l1 (p := (.one 129)) GW (by kernel_rfl) (by kernel_rfl) (fun _ _ => rfl) (SI_any GW (SE_cut GW (lo := none) (hi := (some (eLit (.int 6)))) (vL (i := 40) (by kernel_rfl) (by kernel_rfl)) trivial SE_int) (fun _ _ => rfl)) (.one ⟨⟨_, rfl⟩, Nat.blt_eq.mp (by kernel_rfl), (by kernel_rfl)⟩) ifs_nil (SE_bin (op := .mod) GW (vL (i := 129) (by kernel_rfl) (by kernel_rfl)) (SE.toL SE_int))) (fun _ => rfl))
      · refine @SE.toL _ _ _ _ _ ?_
        refine @SE_cut _ _ _ GW _ ((some (eApp lenD (aCons (eCut (lVar 40) none (some (eLit (.int 6)))) aNil)))) none _ _ _ _ _ ?_ ?_ ?_
        · refine @vL _ _ _ 72 _ ?_ ?_
          · kernel_rfl
          · kernel_rfl
        · refine @SE_bi _ _ _ GW _ _ _ _ _ _ _ len_ok NM.len.1 NM.len.2 ?_ ?_ ?_
          · kernel_rfl
          · kernel_rfl
          · refine @SLs_cons _ _ _ _ _ _ _ ?_ ?_ ?_
            · refine @SE_cut _ _ _ GW _ none ((some (eLit (.int 6)))) _ _ _ _ _ ?_ ?_ ?_
              · refine @vL _ _ _ 40 _ ?_ ?_
                · kernel_rfl
                · kernel_rfl
              · exact trivial
              · exact SE_int
            · exact SLs_nil
            · exact (fun _ => rfl)
        · exact trivial
    · kernel_rfl
    · kernel_rfl
    · exact (fun _ _ => rfl)
  refine @Ss_cons _ _ _ GW _ _ _ _ ?_ ?_
  · refine @S1_asg _ _ _ GW 57 _ _ _ _ ?_ ?_ ?_ ?_
    · refine @SE_call _ _ _ GW _ _ _ _ _ _ _ h_law_events ?_ ?_ ?_ ?_
      · kernel_rfl
      · kernel_rfl
      · kernel_rfl
      · refine @SLs_cons _ _ _ _ _ _ _ ?_ ?_ ?_
        · refine @SE_idx _ _ _ _ _ _ _ _ ?_ ?_ ?_
          · refine @vL _ _ _ 73 _ ?_ ?_
            · kernel_rfl
            · kernel_rfl
          · refine @SE.toL _ _ _ _ _ ?_
            exact SE_int
          · exact (fun _ _ => rfl)
        · refine @SLs_cons _ _ _ _ _ _ _ ?_ ?_ ?_
          · refine @SE_idx _ _ _ _ _ _ _ _ ?_ ?_ ?_
            · refine @vL _ _ _ 73 _ ?_ ?_
              · kernel_rfl
              · kernel_rfl
            · refine @SE.toL _ _ _ _ _ ?_
              exact SE_int
            · exact (fun _ _ => rfl)
          · exact SLs_nil
          · exact (fun _ => rfl)
        · exact (fun _ => rfl)
    · kernel_rfl
    · kernel_rfl
    · exact (fun _ _ => rfl)
  refine @Ss_cons _ _ _ GW _ _ _ _ ?_ ?_
  · refine @S1_asg _ _ _ GW 30 _ _ _ _ ?_ ?_ ?_ ?_
    · exact (SE_comp GW (CR_l1 (p := (.many [28, 29])) GW (by kernel_rfl) (by kernel_rfl) (fun _ _ => rfl) (SI_lst GW (vE (i := 57) (by kernel_rfl) (by kernel_rfl))) (.many (l := [28, 29]) (.cons ⟨⟨_, rfl⟩, Nat.blt_eq.mp (by kernel_rfl), (by kernel_rfl)⟩ (.cons ⟨⟨_, rfl⟩, Nat.blt_eq.mp (by kernel_rfl), (by kernel_rfl)⟩ .nil))) ifs_nil (SE_call GW h_law_name (by kernel_rfl) (by kernel_rfl) (by kernel_rfl) (SLs_cons (SE_idx (vL (i := 73) (by kernel_rfl) (by kernel_rfl)) (vL (i := 28) (by kernel_rfl) (by kernel_rfl)) (fun _ _ => rfl)) (SLs_cons (vE (i := 28) (by kernel_rfl) (by kernel_rfl)) (SLs_cons (vE (i := 29) (by kernel_rfl) (by kernel_rfl)) SLs_nil (fun _ => rfl)) (fun _ => rfl)) (fun _ => rfl)))) (fun _ => rfl))
    · kernel_rfl
    · kernel_rfl
    · exact (fun env h => by cases env; cases h; rfl)
  refine @Ss_cons _ _ _ GW _ _ _ _ ?_ ?_
  · refine @S1_asg _ _ _ GW 62 _ _ _ _ ?_ ?_ ?_ ?_
    · refine @SE_call _ _ _ GW _ _ _ _ _ _ _ h_law_talk ?_ ?_ ?_ ?_
      · kernel_rfl
      · kernel_rfl
      · kernel_rfl
      · refine @SLs_cons _ _ _ _ _ _ _ ?_ ?_ ?_
        · refine @vE _ _ _ 30 _ ?_ ?_
          · kernel_rfl
          · kernel_rfl
        · refine @SLs_cons _ _ _ _ _ _ _ ?_ ?_ ?_
          · refine @SE_bin _ _ _ GW .fdiv _ _ _ _ _ ?_ ?_
            · refine @SE.toL _ _ _ _ _ ?_
              refine @SE_idx _ _ _ _ _ _ _ _ ?_ ?_ ?_
              · refine @vL _ _ _ 73 _ ?_ ?_
                · kernel_rfl
                · kernel_rfl
              · refine @SE.toL _ _ _ _ _ ?_
                exact SE_int
              · exact (fun _ _ => rfl)
            · refine @SE.toL _ _ _ _ _ ?_
              exact SE_int
          · exact SLs_nil
          · exact (fun _ => rfl)
        · exact (fun _ => rfl)
    · kernel_rfl
    · kernel_rfl
    · exact (fun _ _ => rfl)
  refine @Ss_cons _ _ _ GW _ _ _ _ ?_ ?_
  · refine @S1_if _ _ _ GW _ _ _ _ _ _ _ ?_ ?_ ?_
    · refine @SB_cmp _ _ _ .ne _ _ _ _ _ ?_ ?_ ?_
      · refine @SE.toL _ _ _ _ _ ?_
        exact (SE_comp GW (CR_l1 (p := (.many [32, 124])) GW (by kernel_rfl) (by kernel_rfl) (fun _ _ => rfl) (SI_lst GW (vE (i := 62) (by kernel_rfl) (by kernel_rfl))) (.many (l := [32, 124]) (.cons ⟨⟨_, rfl⟩, Nat.blt_eq.mp (by kernel_rfl), (by kernel_rfl)⟩ (.cons ⟨⟨_, rfl⟩, Nat.blt_eq.mp (by kernel_rfl), (by kernel_rfl)⟩ .nil))) ifs_nil (SE_call GW h_law_read (by kernel_rfl) (by kernel_rfl) (by kernel_rfl) (SLs_cons (vE (i := 32) (by kernel_rfl) (by kernel_rfl)) SLs_nil (fun _ => rfl)))) (fun _ => rfl))
      · refine @SE.toL _ _ _ _ _ ?_
        exact (SE_comp GW (CR_l1 (p := (.many [32, 124])) GW (by kernel_rfl) (by kernel_rfl) (fun _ _ => rfl) (SI_lst GW (vE (i := 62) (by kernel_rfl) (by kernel_rfl))) (.many (l := [32, 124]) (.cons ⟨⟨_, rfl⟩, Nat.blt_eq.mp (by kernel_rfl), (by kernel_rfl)⟩ (.cons ⟨⟨_, rfl⟩, Nat.blt_eq.mp (by kernel_rfl), (by kernel_rfl)⟩ .nil))) ifs_nil (vE (i := 124) (by kernel_rfl) (by kernel_rfl))) (fun _ => rfl))
      · exact rfl
    · refine @Ss_cons _ _ _ GW _ _ _ _ ?_ ?_
      · refine @S1_ret _ _ _ _ _ _ ?_
        exact SE_bool
      exact Ss_nil
    · exact Ss_nil
  refine @Ss_cons _ _ _ GW _ _ _ _ ?_ ?_
  · refine @S1_asg _ _ _ GW 22 _ _ _ _ ?_ ?_ ?_ ?_
    · exact SE_int
    · kernel_rfl
    · kernel_rfl
    · exact (fun _ _ => rfl)
  refine @Ss_cons _ _ _ GW _ _ _ _ ?_ ?_
  · refine @S1_newL _ _ _ GW 35 _ _ _ ?_ ?_
    · kernel_rfl
    · kernel_rfl
  refine @Ss_cons _ _ _ GW _ _ _ _ ?_ ?_
  · refine @S1_newL _ _ _ GW 34 _ _ _ ?_ ?_
    · kernel_rfl
    · kernel_rfl
  refine @Ss_cons _ _ _ GW _ _ _ _ ?_ ?_
  · refine @S1_for _ _ _ GW ((.one 63)) _ _ _ _ _ _ ?_ ?_ ?_ ?_
    · refine @SI_rng1 _ _ _ GW _ _ _ _ _ _ NM.range.1 NM.range.2 ?_ ?_ ?_ ?_
      · kernel_rfl
      · kernel_rfl
      · refine @SLs_cons _ _ _ _ _ _ _ ?_ ?_ ?_
        · exact SE_int
        · exact SLs_nil
        · exact (fun _ => rfl)
      · exact (fun _ _ => rfl)
    · exact (fun _ _ => rfl)
    · exact (.one ⟨⟨_, rfl⟩, Nat.blt_eq.mp (by kernel_rfl), (by kernel_rfl)⟩)
    · refine @Ss_cons _ _ _ GW _ _ _ _ ?_ ?_
      · refine @S1_asg _ _ _ GW 106 _ _ _ _ ?_ ?_ ?_ ?_
        · refine @SE_call _ _ _ GW _ _ _ _ _ _ _ h_paren_depth ?_ ?_ ?_ ?_
          · kernel_rfl
          · kernel_rfl
          · kernel_rfl
          · refine @SLs_cons _ _ _ _ _ _ _ ?_ ?_ ?_
            · refine @SE_call _ _ _ GW _ _ _ _ _ _ _ h_law_piece ?_ ?_ ?_ ?_
              · kernel_rfl
              · kernel_rfl
              · kernel_rfl
              · refine @SLs_cons _ _ _ _ _ _ _ ?_ ?_ ?_
                · refine @SE_idx _ _ _ _ _ _ _ _ ?_ ?_ ?_
                  · refine @vL _ _ _ 30 _ ?_ ?_
                    · kernel_rfl
                    · kernel_rfl
                  · refine @vL _ _ _ 63 _ ?_ ?_
                    · kernel_rfl
                    · kernel_rfl
                  · exact (fun _ _ => rfl)
                · refine @SLs_cons _ _ _ _ _ _ _ ?_ ?_ ?_
                  · refine @SE_idx _ _ _ _ _ _ _ _ ?_ ?_ ?_
                    · refine @SE.toL _ _ _ _ _ ?_
                      refine @SE_idx _ _ _ _ _ _ _ _ ?_ ?_ ?_
                      · refine @vL _ _ _ 57 _ ?_ ?_
                        · kernel_rfl
                        · kernel_rfl
                      · refine @vL _ _ _ 63 _ ?_ ?_
                        · kernel_rfl
                        · kernel_rfl
                      · exact (fun _ _ => rfl)
                    · refine @SE.toL _ _ _ _ _ ?_
                      exact SE_int
                    · exact (fun _ _ => rfl)
                  · exact SLs_nil
                  · exact (fun _ => rfl)
                · exact (fun _ => rfl)
            · refine @SLs_cons _ _ _ _ _ _ _ ?_ ?_ ?_
              · refine @vE _ _ _ 22 _ ?_ ?_
                · kernel_rfl
                · kernel_rfl
              · exact SLs_nil
              · exact (fun _ => rfl)
            · exact (fun _ => rfl)
        · kernel_rfl
        · kernel_rfl
        · exact (fun _ _ => rfl)
      refine @Ss_cons _ _ _ GW _ _ _ _ ?_ ?_
      · refine @S1_app _ _ _ GW 35 _ _ _ _ _ _ ?_ ?_ ?_ ?_ ?_ ?_
        · refine @SE_cmp _ _ _ .eq _ _ _ _ _ ?_ ?_ ?_
          · refine @vL _ _ _ 106 _ ?_ ?_
            · kernel_rfl
            · kernel_rfl
          · refine @SE.toL _ _ _ _ _ ?_
            refine @SE_bin _ _ _ GW .add _ _ _ _ _ ?_ ?_
            · refine @vL _ _ _ 22 _ ?_ ?_
              · kernel_rfl
              · kernel_rfl
            · refine @SE.toL _ _ _ _ _ ?_
              exact SE_int
          · exact rfl
        · kernel_rfl
        · kernel_rfl
        · exact (nodebug (by kernel_rfl))
        · exact rfl
        · exact (fun _ => rfl)
      refine @Ss_cons _ _ _ GW _ _ _ _ ?_ ?_
      · refine @S1_if _ _ _ GW _ _ _ _ _ _ _ ?_ ?_ ?_
        · refine @SB_not _ _ _ _ _ _ ?_
          refine @SB_val _ _ _ _ _ ?_ ?_
          · refine @SE_idx _ _ _ _ _ _ _ _ ?_ ?_ ?_
            · refine @vL _ _ _ 35 _ ?_ ?_
              · kernel_rfl
              · kernel_rfl
            · refine @SE.toL _ _ _ _ _ ?_
              refine @SE_neg _ _ _ _ _ _ ?_
              exact SE_int
            · exact (fun _ _ => rfl)
          · exact (fun _ _ => rfl)
        · refine @Ss_cons _ _ _ GW _ _ _ _ ?_ ?_
          · refine @S1_app _ _ _ GW 34 _ _ _ _ _ _ ?_ ?_ ?_ ?_ ?_ ?_
            · refine @vE _ _ _ 22 _ ?_ ?_
              · kernel_rfl
              · kernel_rfl
            · kernel_rfl
            · kernel_rfl
            · exact (nodebug (by kernel_rfl))
            · exact rfl
            · exact (fun _ => rfl)
          exact Ss_nil
        · exact Ss_nil
      refine @Ss_cons _ _ _ GW _ _ _ _ ?_ ?_
      · refine @S1_asg _ _ _ GW 22 _ _ _ _ ?_ ?_ ?_ ?_
        · refine @vE _ _ _ 106 _ ?_ ?_
          · kernel_rfl
          · kernel_rfl
        · kernel_rfl
        · kernel_rfl
        · exact (fun _ _ => rfl)
      exact Ss_nil
  refine @Ss_cons _ _ _ GW _ _ _ _ ?_ ?_
  · refine @S1_if _ _ _ GW _ _ _ _ _ _ _ ?_ ?_ ?_
    · refine @SB_or _ _ _ _ _ _ _ _ ?_ ?_
      · refine @SB_cmp _ _ _ .ne _ _ _ _ _ ?_ ?_ ?_
        · refine @vL _ _ _ 22 _ ?_ ?_
          · kernel_rfl
          · kernel_rfl
        · refine @SE.toL _ _ _ _ _ ?_
          exact SE_int
        · exact rfl
      · refine @SB_cmp _ _ _ .ne _ _ _ _ _ ?_ ?_ ?_
        · refine @vL _ _ _ 35 _ ?_ ?_
          · kernel_rfl
          · kernel_rfl
        · refine @SE.toL _ _ _ _ _ ?_
          exact (SE_comp GW (CR_l1 (p := (.many [28, 29])) GW (by kernel_rfl) (by kernel_rfl) (fun _ _ => rfl) (SI_lst GW (vE (i := 57) (by kernel_rfl) (by kernel_rfl))) (.many (l := [28, 29]) (.cons ⟨⟨_, rfl⟩, Nat.blt_eq.mp (by kernel_rfl), (by kernel_rfl)⟩ (.cons ⟨⟨_, rfl⟩, Nat.blt_eq.mp (by kernel_rfl), (by kernel_rfl)⟩ .nil))) ifs_nil (vE (i := 29) (by kernel_rfl) (by kernel_rfl))) (fun _ => rfl))
        · exact rfl
    · refine @Ss_cons _ _ _ GW _ _ _ _ ?_ ?_
      · refine @S1_ret _ _ _ _ _ _ ?_
        exact SE_bool
      exact Ss_nil
    · exact Ss_nil
  refine @Ss_cons _ _ _ GW _ _ _ _ ?_ ?_
  · refine @S1_try _ _ _ GW _ _ ?_
    exact (S1_asgC (i := 74) GW (CR_l2 (p := (.one 55)) (p2 := (.one 69)) GW (by kernel_rfl) (by kernel_rfl) (fun _ _ => rfl) (fun _ _ => rfl) (SI_rng1 GW NM.range.1 NM.range.2 (by kernel_rfl) (by kernel_rfl) (SLs_cons SE_int SLs_nil (fun _ => rfl)) (fun _ _ => rfl)) (.one ⟨⟨_, rfl⟩, Nat.blt_eq.mp (by kernel_rfl), (by kernel_rfl)⟩) ifs_nil (SI_rng1 GW NM.range.1 NM.range.2 (by kernel_rfl) (by kernel_rfl) (SLs_cons SE_int SLs_nil (fun _ => rfl)) (fun _ _ => rfl)) (.one ⟨⟨_, rfl⟩, Nat.blt_eq.mp (by kernel_rfl), (by kernel_rfl)⟩) (ifs_one (SB_and (SB_val (SE_idx (vL (i := 35) (by kernel_rfl) (by kernel_rfl)) (vL (i := 55) (by kernel_rfl) (by kernel_rfl)) (fun _ _ => rfl)) (fun _ _ => rfl)) (SB_not (SB_val (SE_idx (vL (i := 35) (by kernel_rfl) (by kernel_rfl)) (vL (i := 69) (by kernel_rfl) (by kernel_rfl)) (fun _ _ => rfl)) (fun _ _ => rfl))))) (SE_tup GW (SLs_cons (vE (i := 55) (by kernel_rfl) (by kernel_rfl)) (SLs_cons (vE (i := 69) (by kernel_rfl) (by kernel_rfl)) SLs_nil (fun _ => rfl)) (fun _ => rfl)))) (fun _ _ => rfl) (by kernel_rfl) (by kernel_rfl) (fun env h => by cases env; cases h; rfl))
  refine @Ss_cons _ _ _ GW _ _ _ _ ?_ ?_
  · exact (S1_asgC (i := 75) GW (CR_l1 (p := (.many [55, 69])) GW (by kernel_rfl) (by kernel_rfl) (fun _ _ => rfl) (SI_lst GW (vE (i := 74) (by kernel_rfl) (by kernel_rfl))) (.many (l := [55, 69]) (.cons ⟨⟨_, rfl⟩, Nat.blt_eq.mp (by kernel_rfl), (by kernel_rfl)⟩ (.cons ⟨⟨_, rfl⟩, Nat.blt_eq.mp (by kernel_rfl), (by kernel_rfl)⟩ .nil))) ifs_nil (SE_call GW h_substitution_cost (by kernel_rfl) (by kernel_rfl) (by kernel_rfl) (SLs_cons (SE_idx (SE.toL (SE_idx (vL (i := 30) (by kernel_rfl) (by kernel_rfl)) (vL (i := 55) (by kernel_rfl) (by kernel_rfl)) (fun _ _ => rfl))) (SE.toL SE_int) (fun _ _ => rfl)) (SLs_cons (SE_idx (SE.toL (SE_idx (vL (i := 30) (by kernel_rfl) (by kernel_rfl)) (vL (i := 69) (by kernel_rfl) (by kernel_rfl)) (fun _ _ => rfl))) (SE.toL SE_int) (fun _ _ => rfl)) SLs_nil (fun _ => rfl)) (fun _ => rfl)))) (fun _ _ => rfl) (by kernel_rfl) (by kernel_rfl) (fun env h => by cases env; cases h; rfl))
  refine @Ss_cons _ _ _ GW _ _ _ _ ?_ ?_
  · refine @S1_if _ _ _ GW _ _ _ _ _ _ _ ?_ ?_ ?_
    · refine @SB_cmp _ _ _ .ne _ _ _ _ _ ?_ ?_ ?_
      · refine @vL _ _ _ 75 _ ?_ ?_
        · kernel_rfl
        · kernel_rfl
      · refine @SE.toL _ _ _ _ _ ?_
        exact (SE_comp GW (CR_l1 (p := (.many [55, 69])) GW (by kernel_rfl) (by kernel_rfl) (fun _ _ => rfl) (SI_lst GW (vE (i := 74) (by kernel_rfl) (by kernel_rfl))) (.many (l := [55, 69]) (.cons ⟨⟨_, rfl⟩, Nat.blt_eq.mp (by kernel_rfl), (by kernel_rfl)⟩ (.cons ⟨⟨_, rfl⟩, Nat.blt_eq.mp (by kernel_rfl), (by kernel_rfl)⟩ .nil))) ifs_nil (SE_ite (SB_cmp (op := .eq) (SE.toL (SE_idx (SE.toL (SE_idx (vL (i := 57) (by kernel_rfl) (by kernel_rfl)) (vL (i := 55) (by kernel_rfl) (by kernel_rfl)) (fun _ _ => rfl))) (SE.toL SE_int) (fun _ _ => rfl))) (SE.toL (SE_idx (SE.toL (SE_idx (vL (i := 57) (by kernel_rfl) (by kernel_rfl)) (vL (i := 69) (by kernel_rfl) (by kernel_rfl)) (fun _ _ => rfl))) (SE.toL SE_int) (fun _ _ => rfl))) rfl) SE_int SE_int)) (fun _ => rfl))
      · exact rfl
    · refine @Ss_cons _ _ _ GW _ _ _ _ ?_ ?_
      · refine @S1_ret _ _ _ _ _ _ ?_
        exact SE_bool
      exact Ss_nil
    · exact Ss_nil
  refine @Ss_cons _ _ _ GW _ _ _ _ ?_ ?_
  · refine @S1_asg _ _ _ GW 76 _ _ _ _ ?_ ?_ ?_ ?_
    · exact (SE_comp GW (CR_l1 (p := (.many [107, 130])) GW (by kernel_rfl) (by kernel_rfl) (fun _ _ => rfl) (SI_zip GW NM.zip.1 NM.zip.2 (by kernel_rfl) (by kernel_rfl) (SLs_cons (vE (i := 74) (by kernel_rfl) (by kernel_rfl)) (SLs_cons (vE (i := 75) (by kernel_rfl) (by kernel_rfl)) SLs_nil (fun _ => rfl)) (fun _ => rfl))) (.many (l := [107, 130]) (.cons ⟨⟨_, rfl⟩, Nat.blt_eq.mp (by kernel_rfl), (by kernel_rfl)⟩ (.cons ⟨⟨_, rfl⟩, Nat.blt_eq.mp (by kernel_rfl), (by kernel_rfl)⟩ .nil))) (ifs_one (SB_cmp (op := .eq) (vL (i := 130) (by kernel_rfl) (by kernel_rfl)) (SE.toL SE_int) rfl)) (vE (i := 107) (by kernel_rfl) (by kernel_rfl))) (fun _ => rfl))
    · kernel_rfl
    · kernel_rfl
    · exact (fun env h => by cases env; cases h; rfl)
  refine @Ss_cons _ _ _ GW _ _ _ _ ?_ ?_
  · refine @S1_asg _ _ _ GW 77 _ _ _ _ ?_ ?_ ?_ ?_
    · refine @SE_bin _ _ _ GW .sub _ _ _ _ _ ?_ ?_
      · refine @SE.toL _ _ _ _ _ ?_
        exact SE_int
      · refine @SE.toL _ _ _ _ _ ?_
        refine @SE_bin _ _ _ GW .mul _ _ _ _ _ ?_ ?_
        · refine @SE.toL _ _ _ _ _ ?_
          exact SE_int
        · refine @SE.toL _ _ _ _ _ ?_
          refine @SE_bin _ _ _ GW .mod _ _ _ _ _ ?_ ?_
          · refine @SE.toL _ _ _ _ _ ?_
            refine @SE_idx _ _ _ _ _ _ _ _ ?_ ?_ ?_
            · refine @vL _ _ _ 73 _ ?_ ?_
              · kernel_rfl
              · kernel_rfl
            · refine @SE.toL _ _ _ _ _ ?_
              exact SE_int
            · exact (fun _ _ => rfl)
          · refine @SE.toL _ _ _ _ _ ?_
            exact SE_int
    · kernel_rfl
    · kernel_rfl
    · exact (fun _ _ => rfl)
  refine @Ss_cons _ _ _ GW _ _ _ _ ?_ ?_
  · exact (S1_drop (S1_asg (i := 78) GW (hmkc (by kernel_rfl) (SE_tup GW (SLs_cons (SE_tup GW (SLs_cons SE_int (SLs_cons SE_int SLs_nil (fun _ => rfl)) (fun _ => rfl))) SLs_nil (fun _ => rfl))) (fun _ => rfl)) (by kernel_rfl) (by kernel_rfl) (fun _ _ => rfl)))
  refine @Ss_cons _ _ _ GW _ _ _ _ ?_ ?_
  · refine @S1_asg _ _ _ GW 79 _ _ _ _ ?_ ?_ ?_ ?_
    · exact (hmkc (by kernel_rfl) (SE_tup GW (SLs_cons (SE_tup GW (SLs_cons SE_int (SLs_cons (vE (i := 77) (by kernel_rfl) (by kernel_rfl)) SLs_nil (fun _ => rfl)) (fun _ => rfl))) SLs_nil (fun _ => rfl))) (fun _ => rfl))
    · kernel_rfl
    · kernel_rfl
    · exact (fun _ _ => rfl)
  refine @Ss_cons _ _ _ GW _ _ _ _ ?_ ?_
  · refine @S1_asg _ _ _ GW 80 _ _ _ _ ?_ ?_ ?_ ?_
    · refine @SE_bi _ _ _ GW _ _ _ _ _ _ _ ?_ NM.sum.1 NM.sum.2 ?_ ?_ ?_
      · exact (sum_ok GW)
      · kernel_rfl
      · kernel_rfl
      · refine @SLs_cons _ _ _ _ _ _ _ ?_ ?_ ?_
        · exact (SE_comp GW (CR_l2 (p := (.one 132)) (p2 := (.one 133)) GW (by kernel_rfl) (by kernel_rfl) (fun _ _ => rfl) (fun _ _ => rfl) (SI_any GW (vE (i := 76) (by kernel_rfl) (by kernel_rfl)) (fun _ _ => rfl)) (.one ⟨⟨_, rfl⟩, Nat.blt_eq.mp (by kernel_rfl), (by kernel_rfl)⟩) ifs_nil (SI_any GW (vE (i := 76) (by kernel_rfl) (by kernel_rfl)) (fun _ _ => rfl)) (.one ⟨⟨_, rfl⟩, Nat.blt_eq.mp (by kernel_rfl), (by kernel_rfl)⟩) ifs_nil (SE_bin (op := .mul) GW (SE.toL (hcmpr (vE (i := 78) (by kernel_rfl) (by kernel_rfl)) (vE (i := 132) (by kernel_rfl) (by kernel_rfl)) (vE (i := 133) (by kernel_rfl) (by kernel_rfl)) (fun _ => ⟨_, rfl⟩) (fun _ => rfl))) (SE.toL (hcmpr (vE (i := 79) (by kernel_rfl) (by kernel_rfl)) (vE (i := 132) (by kernel_rfl) (by kernel_rfl)) (vE (i := 133) (by kernel_rfl) (by kernel_rfl)) (fun _ => ⟨_, rfl⟩) (fun _ => rfl))))) (fun _ => rfl))
        · exact SLs_nil
        · exact (fun _ => rfl)
    · kernel_rfl
    · kernel_rfl
    · exact (fun _ _ => rfl)
  refine @Ss_cons _ _ _ GW _ _ _ _ ?_ ?_
  · refine @S1_asg _ _ _ GW 65 _ _ _ _ ?_ ?_ ?_ ?_
    · refine @SE_call _ _ _ GW _ _ _ _ _ _ _ h_law_table ?_ ?_ ?_ ?_
      · kernel_rfl
      · kernel_rfl
      · kernel_rfl
      · refine @SLs_cons _ _ _ _ _ _ _ ?_ ?_ ?_
        · refine @vE _ _ _ 34 _ ?_ ?_
          · kernel_rfl
          · kernel_rfl
        · exact SLs_nil
        · exact (fun _ => rfl)
    · kernel_rfl
    · kernel_rfl
    · exact (fun _ _ => rfl)
  refine @Ss_cons _ _ _ GW _ _ _ _ ?_ ?_
  · refine @S1_newL _ _ _ GW 81 _ _ _ ?_ ?_
    · kernel_rfl
    · kernel_rfl
  refine @Ss_cons _ _ _ GW _ _ _ _ ?_ ?_
  · refine @S1_newL _ _ _ GW 82 _ _ _ ?_ ?_
    · kernel_rfl
    · kernel_rfl
  refine @Ss_cons _ _ _ GW _ _ _ _ ?_ ?_
  · refine @S1_asg _ _ _ GW 83 _ _ _ _ ?_ ?_ ?_ ?_
    · refine @SE_neg _ _ _ _ _ _ ?_
      exact SE_int
    · kernel_rfl
    · kernel_rfl
    · exact (fun _ _ => rfl)
  refine @Ss_cons _ _ _ GW _ _ _ _ ?_ ?_
  · refine @S1_asg _ _ _ GW 84 _ _ _ _ ?_ ?_ ?_ ?_
    · refine @SE_tup _ _ _ GW _ _ _ _ ?_
      refine @SLs_cons _ _ _ _ _ _ _ ?_ ?_ ?_
      · exact SE_int
      · refine @SLs_cons _ _ _ _ _ _ _ ?_ ?_ ?_
        · exact SE_int
        · refine @SLs_cons _ _ _ _ _ _ _ ?_ ?_ ?_
          · exact SE_int
          · refine @SLs_cons _ _ _ _ _ _ _ ?_ ?_ ?_
            · exact SE_int
            · refine @SLs_cons _ _ _ _ _ _ _ ?_ ?_ ?_
              · exact @SE_dct0 _ _ _ GW _
              · exact SLs_nil
              · exact (fun _ => rfl)
            · exact (fun _ => rfl)
          · exact (fun _ => rfl)
        · exact (fun _ => rfl)
      · exact (fun _ => rfl)
    · kernel_rfl
    · kernel_rfl
    · exact (fun _ _ => rfl)
  refine @Ss_cons _ _ _ GW _ _ _ _ ?_ ?_
  · refine @S1_for _ _ _ GW ((.one 36)) _ _ _ _ _ _ ?_ ?_ ?_ ?_
    · refine @SI_any _ _ _ GW _ _ _ ?_ ?_
      · refine @SE_call _ _ _ GW _ _ _ _ _ _ _ h_law_ways ?_ ?_ ?_ ?_
        · kernel_rfl
        · kernel_rfl
        · kernel_rfl
        · refine @SLs_cons _ _ _ _ _ _ _ ?_ ?_ ?_
          · refine @vE _ _ _ 35 _ ?_ ?_
            · kernel_rfl
            · kernel_rfl
          · exact SLs_nil
          · exact (fun _ => rfl)
      · exact (fun _ _ => rfl)
    · exact (fun _ _ => rfl)
    · exact (.one ⟨⟨_, rfl⟩, Nat.blt_eq.mp (by kernel_rfl), (by kernel_rfl)⟩)
    · refine @Ss_cons _ _ _ GW _ _ _ _ ?_ ?_
      · refine @S1_asg _ _ _ GW 110 _ _ _ _ ?_ ?_ ?_ ?_
        · refine @SE_call _ _ _ GW _ _ _ _ _ _ _ h_law_links ?_ ?_ ?_ ?_
          · kernel_rfl
          · kernel_rfl
          · kernel_rfl
          · refine @SLs_cons _ _ _ _ _ _ _ ?_ ?_ ?_
            · refine @vE _ _ _ 36 _ ?_ ?_
              · kernel_rfl
              · kernel_rfl
            · refine @SLs_cons _ _ _ _ _ _ _ ?_ ?_ ?_
              · exact SE_bool
              · exact SLs_nil
              · exact (fun _ => rfl)
            · exact (fun _ => rfl)
        · kernel_rfl
        · kernel_rfl
        · exact (fun _ _ => rfl)
      refine @Ss_cons _ _ _ GW _ _ _ _ ?_ ?_
      · refine @S1_asg _ _ _ GW 111 _ _ _ _ ?_ ?_ ?_ ?_
        · refine @SE_call _ _ _ GW _ _ _ _ _ _ _ h_law_links ?_ ?_ ?_ ?_
          · kernel_rfl
          · kernel_rfl
          · kernel_rfl
          · refine @SLs_cons _ _ _ _ _ _ _ ?_ ?_ ?_
            · refine @vE _ _ _ 36 _ ?_ ?_
              · kernel_rfl
              · kernel_rfl
            · refine @SLs_cons _ _ _ _ _ _ _ ?_ ?_ ?_
              · exact SE_bool
              · exact SLs_nil
              · exact (fun _ => rfl)
            · exact (fun _ => rfl)
        · kernel_rfl
        · kernel_rfl
        · exact (fun _ _ => rfl)
      refine @Ss_cons _ _ _ GW _ _ _ _ ?_ ?_
      · refine @S1_app _ _ _ GW 81 _ _ _ _ _ _ ?_ ?_ ?_ ?_ ?_ ?_
        · refine @SE_bi _ _ _ GW _ _ _ _ _ _ _ len_ok NM.len.1 NM.len.2 ?_ ?_ ?_
          · kernel_rfl
          · kernel_rfl
          · refine @SLs_cons _ _ _ _ _ _ _ ?_ ?_ ?_
            · refine @vE _ _ _ 110 _ ?_ ?_
              · kernel_rfl
              · kernel_rfl
            · exact SLs_nil
            · exact (fun _ => rfl)
        · kernel_rfl
        · kernel_rfl
        · exact (nodebug (by kernel_rfl))
        · exact rfl
        · exact (fun _ => rfl)
      refine @Ss_cons _ _ _ GW _ _ _ _ ?_ ?_
      · refine @S1_app _ _ _ GW 82 _ _ _ _ _ _ ?_ ?_ ?_ ?_ ?_ ?_
        · refine @SE_bi _ _ _ GW _ _ _ _ _ _ _ len_ok NM.len.1 NM.len.2 ?_ ?_ ?_
          · kernel_rfl
          · kernel_rfl
          · refine @SLs_cons _ _ _ _ _ _ _ ?_ ?_ ?_
            · refine @vE _ _ _ 111 _ ?_ ?_
              · kernel_rfl
              · kernel_rfl
            · exact SLs_nil
            · exact (fun _ => rfl)
        · kernel_rfl
        · kernel_rfl
        · exact (nodebug (by kernel_rfl))
        · exact rfl
        · exact (fun _ => rfl)
      refine @Ss_cons _ _ _ GW _ _ _ _ ?_ ?_
      · refine @S1_asg _ _ _ GW 112 _ _ _ _ ?_ ?_ ?_ ?_
        · refine @SE_bin _ _ _ GW .add _ _ _ _ _ ?_ ?_
          · refine @SE.toL _ _ _ _ _ ?_
            refine @SE_bin _ _ _ GW .mul _ _ _ _ _ ?_ ?_
            · refine @SE.toL _ _ _ _ _ ?_
              exact SE_int
            · refine @SE.toL _ _ _ _ _ ?_
              refine @SE_call _ _ _ GW _ _ _ _ _ _ _ h_law_most ?_ ?_ ?_ ?_
              · kernel_rfl
              · kernel_rfl
              · kernel_rfl
              · refine @SLs_cons _ _ _ _ _ _ _ ?_ ?_ ?_
                · refine @vE _ _ _ 110 _ ?_ ?_
                  · kernel_rfl
                  · kernel_rfl
                · exact SLs_nil
                · exact (fun _ => rfl)
          · refine @SE.toL _ _ _ _ _ ?_
            refine @SE_call _ _ _ GW _ _ _ _ _ _ _ h_law_most ?_ ?_ ?_ ?_
            · kernel_rfl
            · kernel_rfl
            · kernel_rfl
            · refine @SLs_cons _ _ _ _ _ _ _ ?_ ?_ ?_
              · refine @vE _ _ _ 111 _ ?_ ?_
                · kernel_rfl
                · kernel_rfl
              · exact SLs_nil
              · exact (fun _ => rfl)
        · kernel_rfl
        · kernel_rfl
        · exact (fun _ _ => rfl)
      refine @Ss_cons _ _ _ GW _ _ _ _ ?_ ?_
      · refine @S1_asg _ _ _ GW 84 _ _ _ _ ?_ ?_ ?_ ?_
        · refine @SE_call _ _ _ GW _ _ _ _ _ _ _ hadd_func_stats ?_ ?_ ?_ ?_
          · kernel_rfl
          · kernel_rfl
          · kernel_rfl
          · refine @SLs_cons _ _ _ _ _ _ _ ?_ ?_ ?_
            · refine @vE _ _ _ 84 _ ?_ ?_
              · kernel_rfl
              · kernel_rfl
            · refine @SLs_cons _ _ _ _ _ _ _ ?_ ?_ ?_
              · refine @SE_tup _ _ _ GW _ _ _ _ ?_
                refine @SLs_cons _ _ _ _ _ _ _ ?_ ?_ ?_
                · exact SE_int
                · refine @SLs_cons _ _ _ _ _ _ _ ?_ ?_ ?_
                  · refine @SE_idx _ _ _ _ _ _ _ _ ?_ ?_ ?_
                    · refine @vL _ _ _ 81 _ ?_ ?_
                      · kernel_rfl
                      · kernel_rfl
                    · refine @SE.toL _ _ _ _ _ ?_
                      refine @SE_neg _ _ _ _ _ _ ?_
                      exact SE_int
                    · exact (fun _ _ => rfl)
                  · refine @SLs_cons _ _ _ _ _ _ _ ?_ ?_ ?_
                    · refine @SE_idx _ _ _ _ _ _ _ _ ?_ ?_ ?_
                      · refine @vL _ _ _ 82 _ ?_ ?_
                        · kernel_rfl
                        · kernel_rfl
                      · refine @SE.toL _ _ _ _ _ ?_
                        refine @SE_neg _ _ _ _ _ _ ?_
                        exact SE_int
                      · exact (fun _ _ => rfl)
                    · refine @SLs_cons _ _ _ _ _ _ _ ?_ ?_ ?_
                      · refine @SE_bin _ _ _ GW .mul _ _ _ _ _ ?_ ?_
                        · refine @SE.toL _ _ _ _ _ ?_
                          refine @SE_idx _ _ _ _ _ _ _ _ ?_ ?_ ?_
                          · refine @vL _ _ _ 81 _ ?_ ?_
                            · kernel_rfl
                            · kernel_rfl
                          · refine @SE.toL _ _ _ _ _ ?_
                            refine @SE_neg _ _ _ _ _ _ ?_
                            exact SE_int
                          · exact (fun _ _ => rfl)
                        · refine @SE.toL _ _ _ _ _ ?_
                          refine @SE_idx _ _ _ _ _ _ _ _ ?_ ?_ ?_
                          · refine @vL _ _ _ 82 _ ?_ ?_
                            · kernel_rfl
                            · kernel_rfl
                          · refine @SE.toL _ _ _ _ _ ?_
                            refine @SE_neg _ _ _ _ _ _ ?_
                            exact SE_int
                          · exact (fun _ _ => rfl)
                      · refine @SLs_cons _ _ _ _ _ _ _ ?_ ?_ ?_
                        · refine @SE_dct1 _ _ _ GW _ _ _ _ _ ?_ ?_
                          · refine @vE _ _ _ 112 _ ?_ ?_
                            · kernel_rfl
                            · kernel_rfl
                          · exact SE_int
                        · exact SLs_nil
                        · exact (fun _ => rfl)
                      · exact (fun _ => rfl)
                    · exact (fun _ => rfl)
                  · exact (fun _ => rfl)
                · exact (fun _ => rfl)
              · exact SLs_nil
              · exact (fun _ => rfl)
            · exact (fun _ => rfl)
        · kernel_rfl
        · kernel_rfl
        · exact (fun _ _ => rfl)
      refine @Ss_cons _ _ _ GW _ _ _ _ ?_ ?_
      · refine @S1_if _ _ _ GW _ _ _ _ _ _ _ ?_ ?_ ?_
        · refine @SB_cmp _ _ _ .eq _ _ _ _ _ ?_ ?_ ?_
          · refine @vL _ _ _ 36 _ ?_ ?_
            · kernel_rfl
            · kernel_rfl
          · refine @vL _ _ _ 76 _ ?_ ?_
            · kernel_rfl
            · kernel_rfl
          · exact rfl
        · refine @Ss_cons _ _ _ GW _ _ _ _ ?_ ?_
          · refine @S1_asg _ _ _ GW 83 _ _ _ _ ?_ ?_ ?_ ?_
            · refine @SE_idx _ _ _ _ _ _ _ _ ?_ ?_ ?_
              · refine @vL _ _ _ 82 _ ?_ ?_
                · kernel_rfl
                · kernel_rfl
              · refine @SE.toL _ _ _ _ _ ?_
                refine @SE_neg _ _ _ _ _ _ ?_
                exact SE_int
              · exact (fun _ _ => rfl)
            · kernel_rfl
            · kernel_rfl
            · exact (fun _ _ => rfl)
          exact Ss_nil
        · exact Ss_nil
      exact Ss_nil
  refine @Ss_cons _ _ _ GW _ _ _ _ ?_ ?_
  · refine @S1_if _ _ _ GW _ _ _ _ _ _ _ ?_ ?_ ?_
    · refine @SB_cmp _ _ _ .ne _ _ _ _ _ ?_ ?_ ?_
      · refine @vL _ _ _ 80 _ ?_ ?_
        · kernel_rfl
        · kernel_rfl
      · refine @SE.toL _ _ _ _ _ ?_
        refine @SE_bin _ _ _ GW .mul _ _ _ _ _ ?_ ?_
        · refine @vL _ _ _ 77 _ ?_ ?_
          · kernel_rfl
          · kernel_rfl
        · refine @SE.toL _ _ _ _ _ ?_
          refine @SE_bin _ _ _ GW .sub _ _ _ _ _ ?_ ?_
          · refine @SE.toL _ _ _ _ _ ?_
            exact SE_int
          · refine @SE.toL _ _ _ _ _ ?_
            refine @SE_bin _ _ _ GW .mul _ _ _ _ _ ?_ ?_
            · refine @SE.toL _ _ _ _ _ ?_
              exact SE_int
            · refine @vL _ _ _ 83 _ ?_ ?_
              · kernel_rfl
              · kernel_rfl
      · exact rfl
    · refine @Ss_cons _ _ _ GW _ _ _ _ ?_ ?_
      · refine @S1_ret _ _ _ _ _ _ ?_
        exact SE_bool
      exact Ss_nil
    · exact Ss_nil
  refine @Ss_cons _ _ _ GW _ _ _ _ ?_ ?_
  · refine @S1_try _ _ _ GW _ _ ?_
    refine @S1_if _ _ _ GW _ _ _ _ _ _ _ ?_ ?_ ?_
    · refine @SB_cmp _ _ _ .ne _ _ _ _ _ ?_ ?_ ?_
      · refine @SE.toL _ _ _ _ _ ?_
        exact (SE_comp GW (CR_l1 (p := (.many [121, 122])) GW (by kernel_rfl) (by kernel_rfl) (fun _ _ => rfl) (SI_zip GW NM.zip.1 NM.zip.2 (by kernel_rfl) (by kernel_rfl) (SLs_cons (vE (i := 81) (by kernel_rfl) (by kernel_rfl)) (SLs_cons (vE (i := 82) (by kernel_rfl) (by kernel_rfl)) SLs_nil (fun _ => rfl)) (fun _ => rfl))) (.many (l := [121, 122]) (.cons ⟨⟨_, rfl⟩, Nat.blt_eq.mp (by kernel_rfl), (by kernel_rfl)⟩ (.cons ⟨⟨_, rfl⟩, Nat.blt_eq.mp (by kernel_rfl), (by kernel_rfl)⟩ .nil))) ifs_nil (SE_bin (op := .add) GW (vL (i := 121) (by kernel_rfl) (by kernel_rfl)) (vL (i := 122) (by kernel_rfl) (by kernel_rfl)))) (fun _ => rfl))
      · refine @SE.toL _ _ _ _ _ ?_
        exact (SE_comp GW (CR_l1 (p := (.one 121)) GW (by kernel_rfl) (by kernel_rfl) (fun _ _ => rfl) (SI_any GW (vE (i := 81) (by kernel_rfl) (by kernel_rfl)) (fun _ _ => rfl)) (.one ⟨⟨_, rfl⟩, Nat.blt_eq.mp (by kernel_rfl), (by kernel_rfl)⟩) ifs_nil (SE_bin (op := .sub) GW (SE.toL (SE_bi GW (sum_ok GW) NM.sum.1 NM.sum.2 (by kernel_rfl) (by kernel_rfl) (SLs_cons (vE (i := 34) (by kernel_rfl) (by kernel_rfl)) SLs_nil (fun _ => rfl)))) (SE.toL SE_int))) (fun _ => rfl))
      · exact rfl
    · refine @Ss_cons _ _ _ GW _ _ _ _ ?_ ?_
      · refine @S1_ret _ _ _ _ _ _ ?_
        exact SE_bool
      exact Ss_nil
    · exact Ss_nil
  refine @Ss_cons _ _ _ GW _ _ _ _ ?_ ?_
  · refine @S1_asg _ _ _ GW 85 _ _ _ _ ?_ ?_ ?_ ?_
    · refine @SE_call _ _ _ GW _ _ _ _ _ _ _ h_law_book ?_ ?_ ?_ ?_
      · kernel_rfl
      · kernel_rfl
      · kernel_rfl
      · refine @SLs_cons _ _ _ _ _ _ _ ?_ ?_ ?_
        · refine @vE _ _ _ 81 _ ?_ ?_
          · kernel_rfl
          · kernel_rfl
        · exact SLs_nil
        · exact (fun _ => rfl)
    · kernel_rfl
    · kernel_rfl
    · exact (fun _ _ => rfl)
  refine @Ss_cons _ _ _ GW _ _ _ _ ?_ ?_
  · refine @S1_asg _ _ _ GW 86 _ _ _ _ ?_ ?_ ?_ ?_
    · refine @SE_call _ _ _ GW _ _ _ _ _ _ _ h_law_book ?_ ?_ ?_ ?_
      · kernel_rfl
      · kernel_rfl
      · kernel_rfl
      · refine @SLs_cons _ _ _ _ _ _ _ ?_ ?_ ?_
        · refine @vE _ _ _ 82 _ ?_ ?_
          · kernel_rfl
          · kernel_rfl
        · exact SLs_nil
        · exact (fun _ => rfl)
    · kernel_rfl
    · kernel_rfl
    · exact (fun _ _ => rfl)
  refine @Ss_cons _ _ _ GW _ _ _ _ ?_ ?_
  · exact (S1_asgC (i := 43) GW (CR_d1 (p := (.one 113)) GW (by kernel_rfl) (by kernel_rfl) (fun _ _ => rfl) (SI_any GW (vE (i := 85) (by kernel_rfl) (by kernel_rfl)) (fun _ _ => rfl)) (.one ⟨⟨_, rfl⟩, Nat.blt_eq.mp (by kernel_rfl), (by kernel_rfl)⟩) ifs_nil (vE (i := 113) (by kernel_rfl) (by kernel_rfl)) (SE_tup GW (SLs_cons (SE_idx (vL (i := 85) (by kernel_rfl) (by kernel_rfl)) (vL (i := 113) (by kernel_rfl) (by kernel_rfl)) (fun _ _ => rfl)) (SLs_cons SE_int SLs_nil (fun _ => rfl)) (fun _ => rfl)))) (fun _ _ => rfl) (by kernel_rfl) (by kernel_rfl) (fun env h => by cases env; cases h; rfl))
  refine @Ss_cons _ _ _ GW _ _ _ _ ?_ ?_
  · exact (S1_asgC (i := 44) GW (CR_d1 (p := (.one 113)) GW (by kernel_rfl) (by kernel_rfl) (fun _ _ => rfl) (SI_any GW (vE (i := 86) (by kernel_rfl) (by kernel_rfl)) (fun _ _ => rfl)) (.one ⟨⟨_, rfl⟩, Nat.blt_eq.mp (by kernel_rfl), (by kernel_rfl)⟩) ifs_nil (vE (i := 113) (by kernel_rfl) (by kernel_rfl)) (SE_tup GW (SLs_cons SE_int (SLs_cons (SE_idx (vL (i := 86) (by kernel_rfl) (by kernel_rfl)) (vL (i := 113) (by kernel_rfl) (by kernel_rfl)) (fun _ _ => rfl)) SLs_nil (fun _ => rfl)) (fun _ => rfl)))) (fun _ _ => rfl) (by kernel_rfl) (by kernel_rfl) (fun env h => by cases env; cases h; rfl))
  refine @Ss_cons _ _ _ GW _ _ _ _ ?_ ?_
  · refine @S1_asg _ _ _ GW 87 _ _ _ _ ?_ ?_ ?_ ?_
    · refine @SE_call _ _ _ GW _ _ _ _ _ _ _ hadd_callers ?_ ?_ ?_ ?_
      · kernel_rfl
      · kernel_rfl
      · kernel_rfl
      · refine @SLs_cons _ _ _ _ _ _ _ ?_ ?_ ?_
        · refine @vE _ _ _ 43 _ ?_ ?_
          · kernel_rfl
          · kernel_rfl
        · refine @SLs_cons _ _ _ _ _ _ _ ?_ ?_ ?_
          · refine @vE _ _ _ 44 _ ?_ ?_
            · kernel_rfl
            · kernel_rfl
          · exact SLs_nil
          · exact (fun _ => rfl)
        · exact (fun _ => rfl)
    · kernel_rfl
    · kernel_rfl
    · exact (fun _ _ => rfl)
  refine @Ss_cons _ _ _ GW _ _ _ _ ?_ ?_
  · refine @S1_if _ _ _ GW _ _ _ _ _ _ _ ?_ ?_ ?_
    · refine @SB_or _ _ _ _ _ _ _ _ ?_ ?_
      · refine @SB_cmp _ _ _ .ne _ _ _ _ _ ?_ ?_ ?_
        · refine @vL _ _ _ 87 _ ?_ ?_
          · kernel_rfl
          · kernel_rfl
        · refine @SE.toL _ _ _ _ _ ?_
          exact (SE_comp GW (CR_d1 (p := (.one 113)) GW (by kernel_rfl) (by kernel_rfl) (fun _ _ => rfl) (SI_any GW (vE (i := 65) (by kernel_rfl) (by kernel_rfl)) (fun _ _ => rfl)) (.one ⟨⟨_, rfl⟩, Nat.blt_eq.mp (by kernel_rfl), (by kernel_rfl)⟩) ifs_nil (vE (i := 113) (by kernel_rfl) (by kernel_rfl)) (SE_tup GW (SLs_cons (SE_idx (vL (i := 65) (by kernel_rfl) (by kernel_rfl)) (vL (i := 113) (by kernel_rfl) (by kernel_rfl)) (fun _ _ => rfl)) (SLs_cons (SE_idx (vL (i := 65) (by kernel_rfl) (by kernel_rfl)) (vL (i := 113) (by kernel_rfl) (by kernel_rfl)) (fun _ _ => rfl)) SLs_nil (fun _ => rfl)) (fun _ => rfl)))) (fun _ => rfl))
        · exact rfl
      · refine @SB_cmp _ _ _ .ne _ _ _ _ _ ?_ ?_ ?_
        · refine @SE.toL _ _ _ _ _ ?_
          refine @SE_call _ _ _ GW _ _ _ _ _ _ _ hadd_callers ?_ ?_ ?_ ?_
          · kernel_rfl
          · kernel_rfl
          · kernel_rfl
          · refine @SLs_cons _ _ _ _ _ _ _ ?_ ?_ ?_
            · refine @vE _ _ _ 44 _ ?_ ?_
              · kernel_rfl
              · kernel_rfl
            · refine @SLs_cons _ _ _ _ _ _ _ ?_ ?_ ?_
              · refine @vE _ _ _ 43 _ ?_ ?_
                · kernel_rfl
                · kernel_rfl
              · exact SLs_nil
              · exact (fun _ => rfl)
            · exact (fun _ => rfl)
        · refine @vL _ _ _ 87 _ ?_ ?_
          · kernel_rfl
          · kernel_rfl
        · exact rfl
    · refine @Ss_cons _ _ _ GW _ _ _ _ ?_ ?_
      · refine @S1_ret _ _ _ _ _ _ ?_
        exact SE_bool
      exact Ss_nil
    · exact Ss_nil
  refine @Ss_cons _ _ _ GW _ _ _ _ ?_ ?_
  · refine @S1_if _ _ _ GW _ _ _ _ _ _ _ ?_ ?_ ?_
    · refine @SB_cmp _ _ _ .ne _ _ _ _ _ ?_ ?_ ?_
      · refine @SE.toL _ _ _ _ _ ?_
        refine @SE_call _ _ _ GW _ _ _ _ _ _ _ hcount_calls ?_ ?_ ?_ ?_
        · kernel_rfl
        · kernel_rfl
        · kernel_rfl
        · refine @SLs_cons _ _ _ _ _ _ _ ?_ ?_ ?_
          · refine @vE _ _ _ 65 _ ?_ ?_
            · kernel_rfl
            · kernel_rfl
          · exact SLs_nil
          · exact (fun _ => rfl)
      · refine @SE.toL _ _ _ _ _ ?_
        refine @SE_bin _ _ _ GW .mul _ _ _ _ _ ?_ ?_
        · refine @SE.toL _ _ _ _ _ ?_
          refine @SE_bin _ _ _ GW .mul _ _ _ _ _ ?_ ?_
          · refine @SE.toL _ _ _ _ _ ?_
            refine @SE_bin _ _ _ GW .mul _ _ _ _ _ ?_ ?_
            · refine @SE.toL _ _ _ _ _ ?_
              refine @SE_idx _ _ _ _ _ _ _ _ ?_ ?_ ?_
              · refine @vL _ _ _ 34 _ ?_ ?_
                · kernel_rfl
                · kernel_rfl
              · refine @SE.toL _ _ _ _ _ ?_
                exact SE_int
              · exact (fun _ _ => rfl)
            · refine @SE.toL _ _ _ _ _ ?_
              refine @SE_idx _ _ _ _ _ _ _ _ ?_ ?_ ?_
              · refine @vL _ _ _ 34 _ ?_ ?_
                · kernel_rfl
                · kernel_rfl
              · refine @SE.toL _ _ _ _ _ ?_
                exact SE_int
              · exact (fun _ _ => rfl)
          · refine @SE.toL _ _ _ _ _ ?_
            refine @SE_idx _ _ _ _ _ _ _ _ ?_ ?_ ?_
            · refine @vL _ _ _ 34 _ ?_ ?_
              · kernel_rfl
              · kernel_rfl
            · refine @SE.toL _ _ _ _ _ ?_
              exact SE_int
            · exact (fun _ _ => rfl)
        · refine @SE.toL _ _ _ _ _ ?_
          refine @SE_idx _ _ _ _ _ _ _ _ ?_ ?_ ?_
          · refine @vL _ _ _ 34 _ ?_ ?_
            · kernel_rfl
            · kernel_rfl
          · refine @SE.toL _ _ _ _ _ ?_
            exact SE_int
          · exact (fun _ _ => rfl)
      · exact rfl
    · refine @Ss_cons _ _ _ GW _ _ _ _ ?_ ?_
      · refine @S1_ret _ _ _ _ _ _ ?_
        exact SE_bool
      exact Ss_nil
    · exact Ss_nil
  refine @Ss_cons _ _ _ GW _ _ _ _ ?_ ?_
  · refine @S1_if _ _ _ GW _ _ _ _ _ _ _ ?_ ?_ ?_
    · refine @SB_cmp _ _ _ .ne _ _ _ _ _ ?_ ?_ ?_
      · refine @SE.toL _ _ _ _ _ ?_
        refine @SE_cut _ _ _ GW _ none ((some (eLit (.int 4)))) _ _ _ _ _ ?_ ?_ ?_
        · refine @vL _ _ _ 84 _ ?_ ?_
          · kernel_rfl
          · kernel_rfl
        · exact trivial
        · exact SE_int
      · refine @SE.toL _ _ _ _ _ ?_
        refine @SE_tup _ _ _ GW _ _ _ _ ?_
        refine @SLs_cons _ _ _ _ _ _ _ ?_ ?_ ?_
        · refine @SE_call _ _ _ GW _ _ _ _ _ _ _ hcount_calls ?_ ?_ ?_ ?_
          · kernel_rfl
          · kernel_rfl
          · kernel_rfl
          · refine @SLs_cons _ _ _ _ _ _ _ ?_ ?_ ?_
            · refine @SE_idx _ _ _ _ _ _ _ _ ?_ ?_ ?_
              · refine @vL _ _ _ 84 _ ?_ ?_
                · kernel_rfl
                · kernel_rfl
              · refine @SE.toL _ _ _ _ _ ?_
                exact SE_int
              · exact (fun _ _ => rfl)
            · exact SLs_nil
            · exact (fun _ => rfl)
        · refine @SLs_cons _ _ _ _ _ _ _ ?_ ?_ ?_
          · refine @SE_bi _ _ _ GW _ _ _ _ _ _ _ ?_ NM.sum.1 NM.sum.2 ?_ ?_ ?_
            · exact (sum_ok GW)
            · kernel_rfl
            · kernel_rfl
            · refine @SLs_cons _ _ _ _ _ _ _ ?_ ?_ ?_
              · refine @vE _ _ _ 82 _ ?_ ?_
                · kernel_rfl
                · kernel_rfl
              · exact SLs_nil
              · exact (fun _ => rfl)
          · refine @SLs_cons _ _ _ _ _ _ _ ?_ ?_ ?_
            · refine @SE_bi _ _ _ GW _ _ _ _ _ _ _ ?_ NM.sum.1 NM.sum.2 ?_ ?_ ?_
              · exact (sum_ok GW)
              · kernel_rfl
              · kernel_rfl
              · refine @SLs_cons _ _ _ _ _ _ _ ?_ ?_ ?_
                · refine @vE _ _ _ 81 _ ?_ ?_
                  · kernel_rfl
                  · kernel_rfl
                · exact SLs_nil
                · exact (fun _ => rfl)
            · refine @SLs_cons _ _ _ _ _ _ _ ?_ ?_ ?_
              · refine @SE_bi _ _ _ GW _ _ _ _ _ _ _ ?_ NM.sum.1 NM.sum.2 ?_ ?_ ?_
                · exact (sum_ok GW)
                · kernel_rfl
                · kernel_rfl
                · refine @SLs_cons _ _ _ _ _ _ _ ?_ ?_ ?_
                  · exact (SE_comp GW (CR_l1 (p := (.many [121, 122])) GW (by kernel_rfl) (by kernel_rfl) (fun _ _ => rfl) (SI_zip GW NM.zip.1 NM.zip.2 (by kernel_rfl) (by kernel_rfl) (SLs_cons (vE (i := 81) (by kernel_rfl) (by kernel_rfl)) (SLs_cons (vE (i := 82) (by kernel_rfl) (by kernel_rfl)) SLs_nil (fun _ => rfl)) (fun _ => rfl))) (.many (l := [121, 122]) (.cons ⟨⟨_, rfl⟩, Nat.blt_eq.mp (by kernel_rfl), (by kernel_rfl)⟩ (.cons ⟨⟨_, rfl⟩, Nat.blt_eq.mp (by kernel_rfl), (by kernel_rfl)⟩ .nil))) ifs_nil (SE_bin (op := .mul) GW (vL (i := 121) (by kernel_rfl) (by kernel_rfl)) (vL (i := 122) (by kernel_rfl) (by kernel_rfl)))) (fun _ => rfl))
                  · exact SLs_nil
                  · exact (fun _ => rfl)
              · exact SLs_nil
              · exact (fun _ => rfl)
            · exact (fun _ => rfl)
          · exact (fun _ => rfl)
        · exact (fun _ => rfl)
      · exact rfl
    · refine @Ss_cons _ _ _ GW _ _ _ _ ?_ ?_
      · refine @S1_ret _ _ _ _ _ _ ?_
        exact SE_bool
      exact Ss_nil
    · exact Ss_nil
  refine @Ss_cons _ _ _ GW _ _ _ _ ?_ ?_
  · refine @S1_ret _ _ _ _ _ _ ?_
    refine @SE_cmp _ _ _ .eq _ _ _ _ _ ?_ ?_ ?_
    · refine @SE.toL _ _ _ _ _ ?_
      refine @SE_idx _ _ _ _ _ _ _ _ ?_ ?_ ?_
      · refine @vL _ _ _ 84 _ ?_ ?_
        · kernel_rfl
        · kernel_rfl
      · refine @SE.toL _ _ _ _ _ ?_
        exact SE_int
      · exact (fun _ _ => rfl)
    · refine @SE.toL _ _ _ _ _ ?_
      exact (SE_comp GW (CR_d1 (p := (.one 113)) GW (by kernel_rfl) (by kernel_rfl) (fun _ _ => rfl) (SI_any GW (SE_idx (vL (i := 84) (by kernel_rfl) (by kernel_rfl)) (SE.toL SE_int) (fun _ _ => rfl)) (fun _ _ => rfl)) (.one ⟨⟨_, rfl⟩, Nat.blt_eq.mp (by kernel_rfl), (by kernel_rfl)⟩) ifs_nil (SE_bin (op := .add) GW (SE.toL (SE_bin (op := .mul) GW (SE.toL (SE_bin (op := .mod) GW (vL (i := 113) (by kernel_rfl) (by kernel_rfl)) (SE.toL SE_int))) (SE.toL SE_int))) (SE.toL (SE_bin (op := .fdiv) GW (vL (i := 113) (by kernel_rfl) (by kernel_rfl)) (SE.toL SE_int)))) (SE_idx (SE.toL (SE_idx (vL (i := 84) (by kernel_rfl) (by kernel_rfl)) (SE.toL SE_int) (fun _ _ => rfl))) (vL (i := 113) (by kernel_rfl) (by kernel_rfl)) (fun _ _ => rfl))) (fun _ => rfl))
    · exact rfl
  exact Ss_nil
noncomputable def ps_law : List Nat := [40]

end Mine
namespace Mine
open PySem PySem.W PySem.Calls PyProof.Rows

noncomputable def iDef : Stmt := match stAt 2 with
  | .ClassDef _ _ _ (a :: _) _ _ _ _ _ _ _ => a
  | _ => default
noncomputable def cDef : Stmt := match stAt 2 with
  | .ClassDef _ _ _ (_ :: a :: _) _ _ _ _ _ _ _ => a
  | _ => default

/-- the class and its two functions, as the heap's part KF shows them -/
structure Cls (W : Wd) (KF : Frag) (fI fC : Addr) : Prop where
  inB : KF.In W.hB
  noT : ∀ a o, KF.lookup a = some o → a ≠ W.PT
  name : W.mg "TupleComp" = some (.ref W.CT)
  keep : keepIn KF (.ref W.CT) = true
  makes : makesIn KF W.CT = true
  init : findIn KF (.ref W.CT) "__init__" = some (some (.ref fI))
  initT : typeIn KF (.ref fI) = some (.type "function")
  sattr : findIn KF (.ref W.CT) "__setattr__" = some (some (.builtin "object.__setattr__"))
  over : plainOver KF W.CT = true
  taker : takerIn KF W.CT selName = some none
  hasD : hasDictIn KF W.CT = true
  gattr : findIn KF (.ref W.CT) "__getattribute__" = some (some (.builtin "object.__getattribute__"))
  getA : ∃ attr, findIn KF (.ref W.CT) selName = some attr ∧ noGet KF attr = true
  noGA : findIn KF (.ref W.CT) "__getattr__" = some none
  cmp : findIn KF (.ref W.CT) "compare" = some (some (.ref fC))
  cmpT : typeIn KF (.ref fC) = some (.type "function")
  oI : ∃ o fd, KF.lookup fI = some o ∧ o.data = .func fd ∧ FdOk W fd (fScope iDef) (fBody iDef) [41, 42]
  oC : ∃ o fd, KF.lookup fC = some o ∧ o.data = .func fd ∧ FdOk W fd (fScope cDef) (fBody cDef) [41, 43, 44]

theorem i_body : ∃ p1 p2 p3 p4, fBody iDef = [.Assign [.Attribute (.Name "self" p1) selName p2] (.Name selName p3) p4] := ⟨_, _, _, _, rfl⟩

section
variable {W : Wd} {KF : Frag} {fI fC : Addr}
theorem Cls.at (C : Cls W KF fI fC) {K : KM} {s : Shared} (ok : Ok W K s) : KF.In s.heap := fun a o e => ok.base.keep a o ⟨C.noT a o e, fun q => by have := C.inB a o e; rw [q, ok.b0] at this; cases this⟩ (C.inB a o e)

theorem init_runs (C : Cls W KF fI fC) {A : Around} {s : Shared} {h₀ : Heap} {x dx : Addr} {v : Value} (hX : KF.In h₀) (hk : ∀ b o, h₀.get? b = some o → s.heap.get? b = some o) (hle : h₀.objs.size ≤ s.heap.objs.size) (hroom : A.depth < recursionLimit) (hlim : s.heap.NoLimit) (hcode : ∀ cd q, W.hB.CodeRec cd q → s.heap.CodeRec cd q) (hBk : ∀ b o, b ≠ W.PT → W.hB.get? b = some o → s.heap.get? b = some o)
    (hx : s.heap.get? x = some (instObj W.CT dx)) (hdx : s.heap.get? dx = some emptyDict) (hxn : h₀.get? x = none) (hdn : h₀.get? dx = none) (hne : x ≠ dx) {R : Result → Shared → Prop}
    (hR : ∀ h' tk hs t, (∀ b o, h₀.get? b = some o → h'.get? b = some o) → h'.get? x = some (instObj W.CT dx) → h'.get? dx = some (dictOf [⟨hs, .str selName t, v⟩] 1) → R (.ok (.ret .none)) { s with heap := h', toks := tk }) :
    codeAny (model W.prog W.w) A (.call (.ref fI) ⟨[.ref x, v], []⟩) R s := by
  refine hide fun GG kk => ?_
  obtain ⟨o, fd, ho, hd, hsc, hbd, hgl, hcl, hbi, hcd, hcd51, hbind⟩ := C.oI
  obtain ⟨p1, p2, p3, p4, hbody⟩ := i_body
  refine kk ?_
  clear kk GG
  rw [hbody] at hbd
  refine codeAny_call_function hroom (hk _ _ (hX _ _ ho)) hd (by rw [hsc]; rfl) (by rw [hsc]; rfl) hbd (hcode _ _ hcd) ?_
  refine hbind [.ref x, v] rfl s hBk _ _ _ _ ?_
  rw [hcl, hsc]
  refine (wpAny_newFunctionEnv (scope := fScope iDef) (binds := bindsOf [41, 42] [.ref x, v]) (by decide +kernel) (fun y hy => ?_) (fun h₁ hn hsb => ?_) rfl)
  · simp only [bindsOf, List.mem_cons, List.not_mem_nil, or_false] at hy
    rcases hy with rfl | rfl
    · show (fScope iDef).names.lookup (nm 41) = some NameKind.local
      decide +kernel
    · show (fScope iDef).names.lookup (nm 42) = some NameKind.local
      decide +kernel
  dsimp only at hn hsb ⊢
  have keep₁ : ∀ b o, s.heap.get? b = some o → h₁.get? b = some o := fun b o e => hsb.extBut b o (Nat.ne_of_lt (Heap.lt_size e)) (Heap.get?_push_of_some _ e)
  refine ⟨hlim.keeps keep₁, codeAny_func ?_⟩
  generalize henv : newEnv (fScope iDef) s.heap.objs.size fd.globals [] (fd.qualname ++ ".<locals>.") (some fI) fd.code none fd.builtins = env
  have es : env.scope = fScope iDef := by rw [← henv]; rfl
  have el : env.locals = s.heap.objs.size := by rw [← henv]; rfl
  rw [← el] at hn
  have kS : env.kindOf "self" = some .local := by rw [Env.kindOf, es]; decide +kernel
  have kC : env.kindOf selName = some .local := by rw [Env.kindOf, es]; decide +kernel
  have kf : env.scope.kind = .function := by rw [es]; rfl
  refine wpAny_execs_cons (wpAny_Assign_stores ?_ rfl rfl)
  refine wpAny_Name (wpAny_loadName_local (v := v) kf kC hn (by rfl) ?_) (by decide +kernel)
  show wpAny _ _ (do
    let ov ← holding [v] (eval (.Name "self" p1) env)
    standAt p2.atName
    holding [v, ov] (setAttr ov selName v)
    release [v, ov] []) _ _ _
  refine wpAny_bind (wpAny_holding (wpAny_Name (wpAny_loadName_local (v := .ref x) kf kS hn (by rfl) ?_) (by decide +kernel)))
  have F : Fr h₀ env.locals h₁ _ := ⟨hn, fun b o e => keep₁ b o (hk b o e), by rw [el]; exact hle⟩
  have N : News h₀ env.locals h₁ [(x, instObj W.CT dx), (dx, dictOf [] 0)] := by
    intro p hp
    simp only [List.mem_cons, List.not_mem_nil, or_false] at hp
    rcases hp with rfl | rfl
    · exact ⟨keep₁ _ _ hx, by rw [el]; exact Nat.ne_of_lt (Heap.lt_size hx), hxn⟩
    · exact ⟨keep₁ _ _ hdx, by rw [el]; exact Nat.ne_of_lt (Heap.lt_size hdx), hdn⟩
  refine wpAny_bind (wpAny_standAt (wpAny_bind (wpAny_holding ?_)))
  refine PySem.W.set_dict (K := KF) (C := W.CT) (dx := dx) (ox := instObj W.CT dx) (es := []) (n := 0) F hX N ⟨keep₁ _ _ hx, rfl, rfl, keep₁ _ _ hdx⟩ rfl C.sattr C.over C.taker C.hasD rfl rfl (.tail hne (.head (fun _ h => nomatch h))) (Nat.le_of_ble_eq_true rfl) fun h' F' N' => ?_
  refine wpAny_release' (wpAny_execs_nil ?_)
  exact hR h' _ _ _ F'.keep (N' _ (.head _)).1 (N' _ (.tail _ (.head _))).1
end
end Mine
namespace Mine
open PySem PySem.W PySem.Calls PyProof.Rows

section
variable {W : Wd} {KF : Frag} {fI fC : Addr}
theorem mkc_ok (G : Good W) (C : Cls W KF fI fC) {n : Nat} (hn1 : 1 ≤ n) : MkcOk W n := by
  intro sc f a p pos hkn ha hst A env σ m K s d E hs hf ok R rm
  unfold eMkc at hf
  split at hf
  case h_2 => cases hf
  rename_i d' q
  cases hf
  refine Call_Name rfl (wpAny_Name ?_ (by decide +kernel))
  rw [loadName_read R.kind (by rw [Env.kindOf, hs]; exact hkn)]
  refine loadGlobal_global (by rw [R.gl]; exact ok.g G) C.name ?_
  have hb : backTo pos (starEach [a] env) = [(false, eval a env)] := by rw [hst]; rfl
  rw [hb]
  refine callWith_of (P := fun h => KF.In h) rfl (keeps_K C.keep) (evalArgs_of rfl (spliced_cons (wpAny_mono (ha A env σ m K s d' E hs q ok R rm) (fun v s₁ ⟨K₁, x₁, i₁⟩ => wpAny_pure ⟨C.at x₁.ok, ?_⟩) fun _ _ h => h)))
  refine wpAny_with_toks (Nat.le_refl s₁.toks) (wpAny_call ?_)
  have X := C.at x₁.ok
  have ok₁ := x₁.ok
  obtain ⟨h, g, dr, t, os⟩ := s₁
  have hx : ((h.push emptyDict).push (instObj W.CT h.objs.size)).get? (h.objs.size + 1) = some (instObj W.CT h.objs.size) := by
    have := Heap.get?_push_size (h.push emptyDict) (o := instObj W.CT h.objs.size) rfl
    rwa [Heap.size_push] at this
  have hdx : ((h.push emptyDict).push (instObj W.CT h.objs.size)).get? h.objs.size = some emptyDict := Heap.get?_push_of_some _ (Heap.get?_push_size _ rfl)
  have keep : ∀ b o, h.get? b = some o → ((h.push emptyDict).push (instObj W.CT h.objs.size)).get? b = some o := fun b o e => Heap.get?_push_of_some _ (Heap.get?_push_of_some _ e)
  refine make_core (makes_of X C.makes) (looks_findIn X C.init) (fun self => bind_fn X self C.initT) (.inl rfl) ?_
  refine init_runs C (h₀ := h) (x := h.objs.size + 1) (dx := h.objs.size) X keep (by rw [Heap.size_push, Heap.size_push]; omega) (by show A.depth + 1 < _; have := rm.dep; omega) ((ok₁.nolim G).keeps keep) (fun cd q hc => (code_keep G ok₁ hc).keeps keep) (fun b o hb e => keep _ _ (ok₁.keepB G hb e)) hx hdx (Heap.get?_none_of_le (Nat.le_succ _)) (get_size_none _) (Nat.succ_ne_self _) fun h' tk hs' t' hk' hx' hdx' => ?_
  refine ⟨rfl, fun htk => ?_⟩
  have hxn : h.get? (h.objs.size + 1) = none := Heap.get?_none_of_le (Nat.le_succ _)
  have y : Ext W K₁ ⟨h, g, dr, t, os⟩ (putK K₁ h.objs.size (dictOf [⟨hs', .str selName t', v⟩] 1)) ⟨h', g, dr, tk, os⟩ := Ext.add (s := ⟨h, g, dr, t, os⟩) (n := tk) (h' := h') G ok₁ hk' htk (get_size_none _) hdx'
  have wx : Own W (putK K₁ h.objs.size (dictOf [⟨hs', .str selName t', v⟩] 1)) (h.objs.size + 1) := by
    have w := Own.fresh (s := ⟨h, g, dr, t, os⟩) G ok₁ hxn
    exact ⟨by unfold putK; rw [if_neg (Nat.succ_ne_self _)]; exact w.1, w.2⟩
  have z := (ExtB.freeze (B := fun _ => False) y.toB (.inr hxn) wx hx').toExt fun _ h => h.elim
  exact ⟨_, x₁.trans z, .cmpr (n := 1) (hs := hs') (t := t') (putK_self _ _ _) (putK_of wx.1 (putK_self _ _ _)) ((i₁.mono y.kk).mono fun b o e => putK_of wx.1 e)⟩
end
end Mine
namespace Mine
open PySem PySem.W PySem.Calls PyProof.Rows

section
variable {W : Wd} {A : Around} {E : Value → Shared → Prop} {s : Shared} {K : KM} {tgt : Expr} {n : Nat} {sc : Scope}
theorem go_tupleiter {M : Model} {I l : Addr} {i : Nat} {v : Value} {Q : Unit → Shared → Prop} (hit : s.heap.IsTupleIter I l i) (hQ : Q () s) : wpAny M A (letOwnedTupleGo tgt (.ref I) v) Q E s := by
  obtain ⟨o, ho, hc, hd⟩ := hit
  have key : ∀ (a : Addr), wpAny M A (do
      let o ← load I
      match o.cls, o.data with
      | .type n, .fields vs =>
        if ["enumerate", "zip", "dict_itemiterator", "dict_reverseitemiterator", "odict_iterator", "itertools.zip_longest", "itertools.pairwise"].contains n && vs[0]? == some (rawInt a) then
          rule "for.unpacks-the-owned-tuple"
          updateField I 0 .none
      | _, _ => pure ()) Q E s := by
    intro a
    refine wpAny_bind (wpAny_load ho ?_)
    rw [hc, hd]
    show wpAny _ A (if (["enumerate", "zip", "dict_itemiterator", "dict_reverseitemiterator", "odict_iterator", "itertools.zip_longest", "itertools.pairwise"].contains "tuple_iterator" &&
        (#[.ref l, .int i 0] : Array Value)[0]? == some (rawInt a)) = true then _ else _) Q E s
    rw [if_neg (by
      intro h
      rw [show (["enumerate", "zip", "dict_itemiterator", "dict_reverseitemiterator", "odict_iterator", "itertools.zip_longest", "itertools.pairwise"].contains "tuple_iterator") = false from by decide, Bool.false_and] at h
      cases h)]
    exact wpAny_pure hQ
  unfold letOwnedTupleGo
  split
  · cases v with
    | ref a => exact key a
    | _ => exact wpAny_pure hQ
  · cases v with
    | ref a => exact key a
    | _ => exact wpAny_pure hQ
  · exact wpAny_pure hQ
theorem frozen_tuple {v : Value} {ds : List D} (i : IsD W K v (.tup ds)) : ∃ a o vs n, v = .ref a ∧ K a = some o ∧ o.cls = .type "tuple" ∧ o.data = .seq vs n ∧ AllD W K vs.toList ds := i.tup_inv
theorem iter_tuple (G : Good W) (hh : A.handled = none) (ok : Ok W K s) {v : Value} {ds : List D} (i : IsD W K v (.tup ds)) : wpAny (model W.prog W.w) A (pyIter v) (RI W A tgt K s ds) E s := by
  refine hide fun GG kk => ?_
  obtain ⟨a, o, vs, n, rfl, hk, hc, hd, da⟩ := frozen_tuple i
  refine kk ?_
  clear kk GG
  have hl : s.heap.IsTuple a vs := ⟨o, ok.sub _ _ hk, hc, n, hd⟩
  have hsz : a ≠ s.heap.objs.size := Nat.ne_of_lt (Heap.lt_size (ok.sub _ _ hk))
  refine wpAny_pyIter_tuple hl ⟨K, [s.heap.objs.size], _, Ext.same (n := s.toks) ok (fun _ _ e => Heap.get?_push_of_some _ e) (Nat.le_refl _),
    Src.ofWalks (K₀ := K) (Walks.tuple hh s.heap.objs.size a hsz vs) (by rw [← da.length, Array.length_toList]) (fun i v d hd hv => ?_) (fun i h b st hb => ?_) (fun i s v Q E st hQ => go_tupleiter st.1 hQ), ⟨⟨⟨_, Heap.get?_push_size _ rfl, rfl, rfl⟩, ⟨o, Heap.get?_push_of_some _ (ok.sub _ _ hk), hc, n, hd⟩⟩, fun _ _ e => e, fun b hb nb => ?_, fun b hb => ?_⟩, ?_⟩
  · obtain ⟨v', h1, h2⟩ := da.get hd
    have hv' : vs.toList[i]? = some v := by simpa using hv
    rw [hv'] at h1; cases h1; exact h2
  · simp only [List.mem_singleton] at hb; subst hb
    obtain ⟨o, ho, _⟩ := st.1; exact ⟨o, ho⟩
  · simp only [List.mem_cons, List.not_mem_nil, or_false] at hb nb
    rcases hb with rfl | rfl
    · exact absurd rfl nb
    · exact ⟨o, hk, Heap.get?_push_of_some _ (ok.sub _ _ hk)⟩
  · simp only [List.mem_singleton] at hb; subst hb
    exact ⟨.fresh G ok (get_size_none _), _, Heap.get?_push_size _ rfl⟩
  · intro b hb
    simp only [List.mem_singleton] at hb; subst hb
    exact get_size_none _
theorem SI_tup (G : Good W) {f : DE} {e : Expr} (h : SE W n sc f e) : SI W n sc tgt (iTup f) e := by
  intro A env σ m K s ds E hs hf ok R rm
  unfold iTup at hf
  refine hide fun GG kk => ?_
  split at hf
  case h_2 => cases hf
  rename_i l q
  cases hf
  refine kk ?_
  clear kk GG
  refine wpAny_mono (h A env σ m K s _ E hs q ok R rm) (fun v s₁ ⟨K₁, x₁, i₁⟩ => ?_) fun _ _ h => h
  exact wpAny_mono (iter_tuple G rm.hh x₁.ok i₁) (fun it s₂ h => .trans ok G x₁ h) fun _ _ h => h

theorem handed {v : Value} {d : D} (i : IsD W K v d) : handedIn v = true := by
  cases i <;> rfl
theorem attr_ok {KF : Frag} {fI fC : Addr} (C : Cls W KF fI fC) {f : DE} {o : Expr} {pos : Pos} (ho : SE W n sc f o) (hbase : ∀ env, attributeBase o selName env (eval o env) = eval o env) (ht : ∀ v r, letTemporaryGo o v r = pure ()) : SE W n sc (eAttr f) (.Attribute o selName pos) := by
  intro A env σ m K s d E hs hf ok R rm
  unfold eAttr at hf
  refine hide fun GG kk => ?_
  split at hf
  case h_2 => cases hf
  rename_i d' q
  cases hf
  refine kk ?_
  clear kk GG
  show wpAny _ _ (do
    let ov ← attributeBase o selName env (eval o env)
    standAt pos.atName
    let r ← holding [ov] (getAttr ov selName true)
    letTemporaryGo o ov r
    pure r) _ _ _
  rw [hbase]
  refine wpAny_bind (wpAny_mono (ho A env σ m K s _ E hs q ok R rm) (fun ov s₁ ⟨K₁, x₁, i₁⟩ => wpAny_bind (wpAny_standAt (wpAny_bind (wpAny_holding ?_)))) fun _ _ h => h)
  cases i₁ with
  | cmpr h1 h2 iv =>
    obtain ⟨at_, ha, hn⟩ := C.getA
    refine get_value (C.at x₁.ok) ⟨x₁.ok.sub _ _ h1, rfl, rfl, x₁.ok.sub _ _ h2⟩ C.gattr (findObj_own C.hasD ha hn (by rfl)) (handed iv) ?_
    refine wpAny_bind (wpAny_of_eq (ht _ _) (wpAny_pure ?_))
    exact .trans x₁ (.here x₁.ok (Nat.le_succ _) iv)
end
set_option maxHeartbeats 4000000 in
theorem ss_compare {W : Wd} {KF : Frag} {fI fC : Addr} (GW : Good W) (CW : Cls W KF fI fC) : Ss W 0 (fScope cDef) (den_compare) (fBody cDef) :=
  (Ss_cons GW (S1_for (p := (.many [114, 115])) GW (SI_tup GW (attr_ok CW (vE (i := 41) (by kernel_rfl) (by kernel_rfl)) (fun _ => rfl) (fun _ _ => rfl))) (fun _ _ => rfl) (.many (l := [114, 115]) (.cons ⟨⟨_, rfl⟩, Nat.blt_eq.mp (by kernel_rfl), (by kernel_rfl)⟩ (.cons ⟨⟨_, rfl⟩, Nat.blt_eq.mp (by kernel_rfl), (by kernel_rfl)⟩ .nil))) (Ss_cons GW (S1_asg (i := 116) GW (SE_idx (vL (i := 43) (by kernel_rfl) (by kernel_rfl)) (vL (i := 114) (by kernel_rfl) (by kernel_rfl)) (fun _ _ => rfl)) (by kernel_rfl) (by kernel_rfl) (fun _ _ => rfl))
  (Ss_cons GW (S1_asg (i := 117) GW (SE_idx (vL (i := 44) (by kernel_rfl) (by kernel_rfl)) (vL (i := 114) (by kernel_rfl) (by kernel_rfl)) (fun _ _ => rfl)) (by kernel_rfl) (by kernel_rfl) (fun _ _ => rfl))
  (Ss_cons GW (S1_if GW (SB_cmp (op := .lt) (vL (i := 116) (by kernel_rfl) (by kernel_rfl)) (vL (i := 117) (by kernel_rfl) (by kernel_rfl)) rfl) (Ss_cons GW (S1_ret (SE_neg (vE (i := 115) (by kernel_rfl) (by kernel_rfl))))
  Ss_nil) Ss_nil)
  (Ss_cons GW (S1_if GW (SB_cmp (op := .gt) (vL (i := 116) (by kernel_rfl) (by kernel_rfl)) (vL (i := 117) (by kernel_rfl) (by kernel_rfl)) rfl) (Ss_cons GW (S1_ret (vE (i := 115) (by kernel_rfl) (by kernel_rfl)))
  Ss_nil) Ss_nil)
  Ss_nil)))))
  (Ss_cons GW (S1_ret SE_int)
  Ss_nil))
end Mine
namespace Mine
open PySem PySem.W PySem.Calls PyProof.Rows

section
variable {W : Wd} {KF : Frag} {fI fC : Addr}
theorem compare_call (G : Good W) (C : Cls W KF fI fC) : CallOk W 1 (.ref fC) (fnOf [41, 43, 44] den_compare) := by
  obtain ⟨o, fd, ho, hd, FD⟩ := C.oC
  exact call_ok G (by decide) rfl rfl rfl (C.inB _ _ ho) (C.noT _ _ ho) hd FD (by decide +kernel) (ss_compare G C)

theorem get_compare (C : Cls W KF fI fC) {A : Around} {E : Value → Shared → Prop} {s : Shared} {x dx : Addr} {hs : Int} {t : Tok} {v : Value} {n : Nat} {pl : Sem Bool} {Q : Value × List Value → Shared → Prop} (X : KF.In s.heap) (hx : s.heap.get? x = some (instObj W.CT dx)) (hdx : s.heap.get? dx = some (dictOf [⟨hs, .str selName t, v⟩] n))
    (h : Q (.ref fC, [.ref x]) s) : wpAny (model W.prog W.w) A (getMethod (.ref x) "compare" pl) Q E s := by
  have I : InstAt s.heap x (instObj W.CT dx) W.CT (some (dictOf [⟨hs, .str selName t, v⟩] n)) := ⟨hx, rfl, rfl, hdx⟩
  unfold getMethod specialOf
  refine wpAny_bind (wpAny_bind (I.type.here ((looks_findIn X C.gattr).here ?_)))
  dsimp only
  rw [if_neg (by decide +kernel)]
  refine wpAny_bind (wpAny_bind (I.type.here ((looks_findIn X C.noGA).here ?_)))
  rw [if_neg (by simp)]
  refine wpAny_bind (wpAny_bind (I.type.here ((looks_findIn X C.cmp).here ?_)))
  dsimp only
  refine wpAny_bind ((looks_typeIn X C.cmpT).here ?_)
  rw [if_neg (by decide)]
  refine wpAny_bind (wpAny_loadPart hx ?_)
  dsimp only
  have hl : nsLook "compare" (dictOf [⟨hs, .str selName t, v⟩] n) = pure none := nsLook_of (by rfl)
  refine wpAny_bind ?_
  unfold nsGet
  refine wpAny_bind (wpAny_loadPart hdx ?_)
  rw [hl]
  refine wpAny_pure ?_
  rw [if_neg (by simp)]
  exact wpAny_bind (wpAny_rule (wpAny_pure h))

theorem cmpr_ok (G : Good W) (C : Cls W KF fI fC) {n : Nat} (hn1 : 1 ≤ n) : CmprOk W n := by
  intro sc fo fa fb o a b apos pos ho ha hb he hst A env σ m K s d E hs hf ok R rm
  unfold eCmpr at hf
  refine hide fun GG kk => ?_
  split at hf
  case h_2 => cases hf
  rename_i od da db q1 q2 q3
  obtain ⟨pl, he⟩ := he env
  refine kk ?_
  clear kk GG
  rw [he]
  refine wpAny_bind (wpAny_mono (ho A env σ m K s _ E hs q1 ok R rm) (fun ov s₁ ⟨K₁, x₁, i₁⟩ => wpAny_bind (wpAny_standAt (wpAny_bind (wpAny_holding ?_)))) fun _ _ h => h)
  have i₁' := i₁
  cases i₁ with
  | cmpr h1 h2 iv =>
    refine get_compare C (C.at x₁.ok) (x₁.ok.sub _ _ h1) (x₁.ok.sub _ _ h2) ?_
    dsimp only
    have hbk : backTo pos (starEach [a, b] env) = [(false, eval a env), (false, eval b env)] := by rw [hst]; rfl
    rw [hbk]
    refine hide fun GG kk => ?_
    obtain ⟨oC, fd, hoC, hdC, FD⟩ := C.oC
    refine kk ?_
    clear kk GG
    refine callWith_function (o := oC) (fd := fd) (evalArgs_of rfl (spliced_cons (wpAny_mono (ha A env σ m K₁ s₁ _ E hs q2 x₁.ok (R.ext x₁) rm) (fun va s₂ ⟨K₂, x₂, i₂⟩ => ?_) fun _ _ h => h)))
    refine spliced_cons (wpAny_mono (hb A env σ m K₂ s₂ _ E hs q3 x₂.ok (R.ext (x₁.trans x₂)) rm) (fun vb s₃ ⟨K₃, x₃, i₃⟩ => wpAny_pure ?_) fun _ _ h => h)
    refine ⟨⟨C.at x₃.ok _ _ hoC, hdC⟩, ?_⟩
    exact wpAny_mono (compare_call G C A K₃ s₃ _ _ d E (rm.low hn1) x₃.ok (.cons ((i₁'.mono x₂.kk).mono x₃.kk) (.cons (i₂.mono x₃.kk) (.cons i₃ .nil))) hf) (fun v s' h => .trans ((x₁.trans x₂).trans x₃) h) fun _ _ h => h
end
end Mine
namespace Mine
open PySem PySem.W PySem.Calls PyProof.Rows

section
variable {W : Wd}
/-- the way into a function of the text -/
theorem enter_fn (G : Good W) {A : Around} {K : KM} {s : Shared} {vs : List Value} {ds : List D} {R : Result → Shared → Prop} {fd : FuncData} {body : List Stmt} {scope : Scope} {a : Addr} {o : Obj} {ps : List Nat} {σ : Sto} (hroom : A.depth < recursionLimit) (hk : scope.kind = .function) (hco : scope.isCoroutine = false) (hgen : scope.isGenerator = false)
    (ho : W.hB.get? a = some o) (hpt : a ≠ W.PT) (hdata : o.data = .func fd) (FD : FdOk W fd scope body ps)
    (hps : ps.all (fun i => Nat.blt i nN && isV (scope.names.lookup (nm i))) = true) (ok : Ok W K s) (ha : AllD W K vs ds) (hσ : bindLs ps ds [] = some σ)
    (k : ∀ env m h₁ tk, env.scope = scope → env.frame = some env.locals → env.locals = s.heap.objs.size → RdOk W K env h₁ m σ → Ext W K s K { s with heap := h₁, toks := tk } → (∀ b o, s.heap.get? b = some o → h₁.get? b = some o) → (∀ b, Bs env h₁ m σ b → s.heap.get? b = none) →
      wpAny (model W.prog W.w) (A.deeper env) (execs body env) (fun f s' => R (.ok (.ret (match f with | .ret v => v | _ => .none))) s')
        (fun e s' => wpAny (model W.prog W.w) (A.deeper env) (leaving env e) (fun _ s'' => R (.error e) s'') (fun e' s'' => R (.error e') s'') s') { s with heap := h₁, toks := tk }) :
    codeAny (model W.prog W.w) A (.call (.ref a) ⟨vs, []⟩) R s := by
  have hps1 : ∀ i ∈ ps, i < nN := fun i hi => by have := List.all_eq_true.mp hps i hi; simp only [Bool.and_eq_true, Nat.blt_eq] at this; exact this.1
  have hps2 : ∀ i ∈ ps, isV (scope.names.lookup (nm i)) = true := fun i hi => by have := List.all_eq_true.mp hps i hi; simp only [Bool.and_eq_true] at this; exact this.2
  have hlen : vs.length = ps.length := by
    have : ∀ {l : List Nat} {ds : List D} {σ σ' : Sto}, bindLs l ds σ = some σ' → l.length = ds.length := by
      intro l
      induction l with
      | nil => intro ds σ σ' e; cases ds with | nil => rfl | cons _ _ => cases e
      | cons i l ih => intro ds σ σ' e; cases ds with | nil => cases e | cons _ _ => simp [ih e]
    rw [this hσ, ha.length]
  obtain ⟨hsc, hbd, hgl, hcl, hbi, hcd, hcd51, hbind⟩ := FD
  subst hsc
  refine codeAny_call_function hroom (ok.keepB G hpt ho) hdata hco hgen hbd (code_keep G ok hcd) ?_
  refine hbind vs hlen s (fun b o hb e => ok.keepB G hb e) _ _ _ _ ?_
  rw [hcl]
  have hbk : ∀ {l : List Nat} {vs : List Value}, (∀ i ∈ l, isV (fd.scope.names.lookup (nm i)) = true) → ∀ x ∈ bindsOf l vs, fd.scope.names.lookup x.1 = some .local ∨ (fd.scope.names.lookup x.1 = some .cell ∧ ((cellsFrom (s.heap.objs.size + 1) fd.scope.names []).lookup x.1).isSome = true) := by
    intro l
    induction l with
    | nil => intro vs _ x hx; cases vs <;> cases hx
    | cons i l ih =>
      intro vs hl x hx
      cases vs with
      | nil => cases hx
      | cons v vs =>
        rcases List.mem_cons.mp hx with rfl | hx
        · have := hl i (.head _)
          unfold isV at this
          split at this
          · rename_i q; exact .inl q
          · rename_i q; exact .inr ⟨q, cellsFrom_some _ _ _ _ (.inl (mem_of_lookup q))⟩
          · cases this
        · exact ih (fun j hj => hl j (.tail _ hj)) x hx
  refine wpAny_with_toks (Nat.le_refl s.toks) (wpAny_newFunctionEnv_cells hk (hbk hps2) fun env he s₁ X htk => ?_)
  obtain ⟨h₁, tk, rfl, keep⟩ := X.done
  have x₁ : Ext W K s K { s with heap := h₁, toks := tk } := Ext.same ok keep htk
  refine ⟨(ok.nolim G).keeps keep, codeAny_func ?_⟩
  have hscope : env.scope = fd.scope := by rw [he]; rfl
  have hloc : env.locals = s.heap.objs.size := by rw [he]; rfl
  have hcells : env.cells = cellsFrom (s.heap.objs.size + 1) fd.scope.names [] := by rw [he]; rfl
  have kdf : ∀ x, env.kindOf x = fd.scope.names.lookup x := fun x => by rw [Env.kindOf, hscope]
  have fresh : ∀ b, s.heap.objs.size ≤ b → s.heap.get? b = none := fun b hb => Heap.get?_none_of_le hb
  have cab : ∀ n c, env.cells.lookup n = some c → s.heap.objs.size < c := fun n c e => by have := X.above n c (mem_of_lookup e); rwa [hloc] at this
  have bd := bind_ok (W := W) (K := K) (h := h₁) (kd := env.kindOf) (m := fun _ => none) (cm := fun _ => none) hps1 (fun i hi => by rw [kdf]; exact hps2 i hi) ha hσ (fun i l _ e => by cases e)
  have noown : ∀ i d, σ.get i ≠ some (.o d) := bindLs_own ps ds [] σ hσ fun i d => by simp [Sto.get]
  have R : RdOk W K env h₁ (bindL env.kindOf (bindsOf ps vs) fun _ => none) σ :=
    { kind := by rw [hscope]; exact hk
      gl := by rw [he]; exact hgl
      bi := by rw [he]; exact hbi
      ol := by rw [hloc]; exact (Own.fresh G ok (fresh _ (Nat.le_refl _))).toL
      oc := fun n c e => ⟨.fresh G ok (fresh c (Nat.le_of_lt (cab n c e))), _, X.cell n c e⟩
      inj := fun n n' c e e' => name_of_addr X.apart (mem_of_lookup e) (mem_of_lookup e')
      cd := fun h => by rw [kdf] at h; rw [he]; exact hcd51 h
      cx := fun x e => by
        rw [kdf] at e
        exact Option.isSome_iff_exists.mp (by rw [hcells]; exact cellsFrom_some _ _ _ _ (.inl (mem_of_lookup e)))
      ns := X.toInCall.ns
      rd := fun i l hi e hkv => by
        obtain ⟨v, d, rfl, iv, hv⟩ := bd i l hi e hkv
        refine ⟨v, ?_, .v iv⟩
        unfold valOf
        rcases hv with ⟨q, hv⟩ | ⟨q, hv⟩
        · rw [q]; exact hv
        · rw [q]
          obtain ⟨c, hc⟩ : ∃ c, env.cells.lookup (nm i) = some c := Option.isSome_iff_exists.mp (by rw [hcells]; exact cellsFrom_some _ _ _ _ (.inl (mem_of_lookup ((kdf _).symm.trans q))))
          obtain ⟨oc, hoc, hdc⟩ := X.cell _ c hc
          have hoc' : h₁.get? c = some oc := hoc
          simp only [hc, hoc', hdc]
          exact hv
      ap := fun i d a hi e => absurd e (noown i d)
      ap2 := fun i j d e a hi hj e1 => absurd e1 (noown i d) }
  refine k env _ h₁ tk hscope (by rw [hloc, he]; rfl) hloc R x₁ keep fun b h => ?_
  rcases h with h | ⟨n, h⟩ | ⟨i, d, _, h, _⟩
  · rw [h, hloc]; exact fresh _ (Nat.le_refl _)
  · exact fresh b (Nat.le_of_lt (cab n b h))
  · exact absurd h (noown i d)
end
end Mine
namespace Mine
open PySem PySem.W PySem.Calls PyProof.Rows

noncomputable def sFail : DS := fun _ => none
theorem S1_fail {W : Wd} {n : Nat} {sc : Scope} {st : Stmt} : S1 W n sc sFail st := by
  intro A env σ m K s r E hs hf
  cases hf
noncomputable def den_parse257 : DS :=
  (sThen (sIf (bCmp .ne (lE (eCut (lVar 20) none (some (eLit (.int 3))))) (lE (eLit (.str "257")))) (sThen sFail
  sNil) sNil)
  (sThen (sIf (bCmp .ne (lE (eCut (lVar 20) (some (eLit (.int 3))) (some (eLit (.int 5))))) (lE (eLit (.str " \"")))) (sThen (sRet (eLit (.str "")))
  sNil) sNil)
  (sThen (sAsg (.one 54) (eLit (.str "")))
  (sThen (sAsg (.one 55) (eLit (.int 5)))
  (sThen (sAsg (.one 56) (eApp lenD (aCons (eVar 20) aNil)))
  (sThen (sWhile 40 (bCmp .lt (lVar 55) (lVar 56)) (sThen (sAsg (.one 99) (eIdx (lVar 20) (lVar 55)))
  (sThen (sAsg (.one 55) (eBin .add (lVar 55) (lE (eLit (.int 1)))))
  (sThen (sIf (bCmp .eq (lVar 99) (lE (eLit (.str "\"")))) (sThen (sIf (bOr (bCmp .ge (lVar 55) (lVar 56)) (bCmp .ne (lE (eIdx (lVar 20) (lVar 55))) (lE (eLit (.str "\""))))) (sThen sBrk
  sNil) sNil)
  (sThen (sAsg (.one 55) (eBin .add (lVar 55) (lE (eLit (.int 1)))))
  sNil)) sNil)
  (sThen (sAsg (.one 54) (eBin .add (lVar 54) (lVar 99)))
  sNil)))))
  (sThen (sRet (eVar 54))
  sNil)))))))
set_option maxHeartbeats 4000000 in
theorem ss_parse257 {W : Wd} (GW : Good W) (NM : Nms W) : Ss W 0 (fScope (stAt 9)) (den_parse257) (fBody (stAt 9)) :=
  (Ss_cons GW (S1_if GW (SB_cmp (op := .ne) (SE.toL (SE_cut GW (lo := none) (hi := (some (eLit (.int 3)))) (vL (i := 20) (by kernel_rfl) (by kernel_rfl)) trivial SE_int)) (SE.toL SE_str) rfl) (Ss_cons GW S1_fail
  Ss_nil) Ss_nil)
  (Ss_cons GW (S1_if GW (SB_cmp (op := .ne) (SE.toL (SE_cut GW (lo := (some (eLit (.int 3)))) (hi := (some (eLit (.int 5)))) (vL (i := 20) (by kernel_rfl) (by kernel_rfl)) SE_int SE_int)) (SE.toL SE_str) rfl) (Ss_cons GW (S1_ret SE_str)
  Ss_nil) Ss_nil)
  (Ss_cons GW (S1_asg (i := 54) GW SE_str (by kernel_rfl) (by kernel_rfl) (fun _ _ => rfl))
  (Ss_cons GW (S1_asg (i := 55) GW SE_int (by kernel_rfl) (by kernel_rfl) (fun _ _ => rfl))
  (Ss_cons GW (S1_asg (i := 56) GW (SE_bi GW len_ok NM.len.1 NM.len.2 (by kernel_rfl) (by kernel_rfl) (SLs_cons (vE (i := 20) (by kernel_rfl) (by kernel_rfl)) SLs_nil (fun _ => rfl))) (by kernel_rfl) (by kernel_rfl) (fun _ _ => rfl))
  (Ss_cons GW (S1_while (k := 40) GW (SB_cmp (op := .lt) (vL (i := 55) (by kernel_rfl) (by kernel_rfl)) (vL (i := 56) (by kernel_rfl) (by kernel_rfl)) rfl) (Ss_cons GW (S1_asg (i := 99) GW (SE_idx (vL (i := 20) (by kernel_rfl) (by kernel_rfl)) (vL (i := 55) (by kernel_rfl) (by kernel_rfl)) (fun _ _ => rfl)) (by kernel_rfl) (by kernel_rfl) (fun _ _ => rfl))
  (Ss_cons GW (S1_asg (i := 55) GW (SE_bin (op := .add) GW (vL (i := 55) (by kernel_rfl) (by kernel_rfl)) (SE.toL SE_int)) (by kernel_rfl) (by kernel_rfl) (fun _ _ => rfl))
  (Ss_cons GW (S1_if GW (SB_cmp (op := .eq) (vL (i := 99) (by kernel_rfl) (by kernel_rfl)) (SE.toL SE_str) rfl) (Ss_cons GW (S1_if GW (SB_or (SB_cmp (op := .ge) (vL (i := 55) (by kernel_rfl) (by kernel_rfl)) (vL (i := 56) (by kernel_rfl) (by kernel_rfl)) rfl) (SB_cmp (op := .ne) (SE.toL (SE_idx (vL (i := 20) (by kernel_rfl) (by kernel_rfl)) (vL (i := 55) (by kernel_rfl) (by kernel_rfl)) (fun _ _ => rfl))) (SE.toL SE_str) rfl)) (Ss_cons GW S1_brk
  Ss_nil) Ss_nil)
  (Ss_cons GW (S1_asg (i := 55) GW (SE_bin (op := .add) GW (vL (i := 55) (by kernel_rfl) (by kernel_rfl)) (SE.toL SE_int)) (by kernel_rfl) (by kernel_rfl) (fun _ _ => rfl))
  Ss_nil)) Ss_nil)
  (Ss_cons GW (S1_asg (i := 54) GW (SE_bin (op := .add) GW (vL (i := 54) (by kernel_rfl) (by kernel_rfl)) (vL (i := 99) (by kernel_rfl) (by kernel_rfl))) (by kernel_rfl) (by kernel_rfl) (fun _ _ => rfl))
  Ss_nil)))))
  (Ss_cons GW (S1_ret (vE (i := 54) (by kernel_rfl) (by kernel_rfl)))
  Ss_nil)))))))
noncomputable def ps_parse257 : List Nat := [20]

end Mine
namespace Mine
open PySem PySem.W PySem.Calls PyProof.Rows

/-! a raise and its catch -/
noncomputable def FunOk (W : Wd) (k : Nat) (x : Str) (ps : List Nat) : Prop :=
  ∃ a o fd, W.mg x = some (.ref a) ∧ W.hB.get? a = some o ∧ a ≠ W.PT ∧ o.data = .func fd ∧ FdOk W fd (fScope (stAt k)) (fBody (stAt k)) ps

structure Exc (W : Wd) (KF : Frag) (CE : Addr) : Prop where
  inB : KF.In W.hB
  noT : ∀ a o, KF.lookup a = some o → a ≠ W.PT
  own : ∃ hX : Heap, (∀ b o, hX.get? b = some o → b ≠ W.PT ∧ W.hB.get? b = some o) ∧ OwnCls "error_reply" CE [.type "Exception", .type "BaseException", .type "object"] "Exception.__new__" W.mg hX
  self : ktsIn KF CE "BaseException" = true

noncomputable def c257 : DB := bCmp .ne (lE (eCut (lVar 20) none (some (eLit (.int 3))))) (lE (eLit (.str "257")))
noncomputable def t257 : Expr := match fBody (stAt 9) with
  | .If t _ _ _ :: _ => t
  | _ => default
theorem p_body : ∃ q1 q2 q3 q4 q5 rest, fBody (stAt 9) = .If t257 [.Raise (some (.Call (.Name "error_reply" q1) [.Name "resp" q2] [] q3)) none q4] [] q5 :: rest := ⟨_, _, _, _, _, _, rfl⟩
theorem r_body : ∃ q1 q2 q3 q4 q5 q6 q7 k q8 q9, fBody (stAt 21) = [.Try [.Return (some (.Call (.Name "parse257" q1) [.Name "reply" q2] [] q3)) q4] [.ExceptHandler (some (.Name "error_reply" q5)) none [.Return (some (.Constant (.str "refused") k q6)) q7] q8] [] [] q9] := ⟨_, _, _, _, _, _, _, _, _, _, rfl⟩
theorem sb_257 {W : Wd} (GW : Good W) : SB W 0 (fScope (stAt 9)) c257 t257 :=
  SB_cmp (op := .ne) (SE.toL (SE_cut GW (lo := none) (hi := (some (eLit (.int 3)))) (vL (i := 20) (by decide +kernel) (by decide +kernel)) trivial SE_int)) (SE.toL SE_str) rfl

section
variable {W : Wd}
/-- a frame's parts after a flight -/
theorem fly_ext {K K₁ : KM} {s s₁ : Shared} {L1 L2 : Addr} {h' : Heap} (x : Ext W K s K₁ s₁) (f1 : s.heap.get? L1 = none) (f2 : s.heap.get? L2 = none) (k1 : K₁ L1 = none) (k2 : K₁ L2 = none) (p1 : L1 ≠ W.PT) (p2 : L2 ≠ W.PT) (pl : W.PT ≠ W.LF)
    (b1 : W.hB.get? L1 = none) (b2 : W.hB.get? L2 = none) (st : (hideAll s₁.heap [L1, L2, W.LF]).StaysIn h') (up : s₁.heap.UpToSlots h') : Ext W K s K₁ { s₁ with heap := h' } := by
  have kp : ∀ b o, b ≠ L1 → b ≠ L2 → b ≠ W.LF → s₁.heap.get? b = some o → h'.get? b = some o := fun b o n1 n2 n3 e => st b o (hideAll_get _ e (by simp; exact ⟨n1, n2, n3⟩))
  have lf : ∀ o, s₁.heap.get? W.LF = some o → ∃ sl, h'.get? W.LF = some { o with slots := sl } := fun o e => by
    obtain ⟨o', e', hn⟩ := x.ok.live
    rw [e] at e'; cases e'
    exact up _ _ e hn
  have tb : ∀ ps : Array Value, s₁.heap.get? W.PT = some (X.tableObj ps) → h'.get? W.PT = some (X.tableObj ps) := fun ps e => kp _ _ (Ne.symm p1) (Ne.symm p2) pl e
  have nk : ∀ {h : Heap} {b : Addr} {o : Obj}, h.get? b = some o → (h.get? L1 = none) → (h.get? L2 = none) → b ≠ L1 ∧ b ≠ L2 := fun e n1 n2 => ⟨fun q => by (rw [q, n1] at e; cases e), fun q => by (rw [q, n2] at e; cases e)⟩
  exact
  { le := ⟨fun b o hb e => kp b o (nk e f1 f2).1 (nk e f1 f2).2 hb.2 (x.le.keep b o hb e), fun ps hp e => by
        obtain ⟨m, hm, e'⟩ := x.le.tab ps hp e
        exact ⟨m, hm, tb _ e'⟩, fun o e => by
        obtain ⟨sl, e'⟩ := x.le.lf o e
        obtain ⟨sl', e''⟩ := lf _ e'
        exact ⟨sl', e''⟩⟩
    kk := x.kk
    ok := ⟨⟨fun b o hb e => kp b o (nk e b1 b2).1 (nk e b1 b2).2 hb.2 (x.ok.base.keep b o hb e), fun ps hp e => by
        obtain ⟨m, hm, e'⟩ := x.ok.base.tab ps hp e
        exact ⟨m, hm, tb _ e'⟩, fun o e => by rw [x.ok.b0] at e; cases e⟩, fun a o e => kp a o (fun q => by rw [q, k1] at e; cases e) (fun q => by rw [q, k2] at e; cases e) (fun q => by rw [q, x.ok.lf] at e; cases e) (x.ok.sub a o e), x.ok.pt, x.ok.lf, by
        obtain ⟨o, e, hn⟩ := x.ok.live
        obtain ⟨sl, e'⟩ := lf o e
        exact ⟨_, e', hn⟩, x.ok.b0, x.ok.tk⟩
    fr := x.fr
    os := x.os
    gens := x.gens
    tk := x.tk }

theorem parse_raises (G : Good W) {KF : Frag} {CE : Addr} (X : Exc W KF CE) {A : Around} {K : KM} {s : Shared} {vs : List Value} {ds : List D} {σ : Sto} {a : Addr} {o : Obj} {fd : FuncData} {er e0 : Env} {Lr : Addr} {Q E : Value → Shared → Prop}
    (ho : W.hB.get? a = some o) (hpt : a ≠ W.PT) (hdata : o.data = .func fd) (FD : FdOk W fd (fScope (stAt 9)) (fBody (stAt 9)) [20]) (ok : Ok W K s) (ha : AllD W K vs ds) (hσ : bindLs [20] ds [] = some σ) (hc : c257 σ = some true) (rm : Room W A 7)
    (hfr : A.frames = some [er, e0]) (fr1 : er.frame = some Lr) (fr0 : e0.frame = some W.LF) (km1 : er.scope.kind ≠ .module) (km0 : e0.scope.kind ≠ .module) (pr : Lr ≠ W.PT) (liveR : ∃ o, s.heap.get? Lr = some o ∧ ∀ vs, o.data ≠ .fields vs)
    (hE : ∀ s₁ K₁ Lp e t h', Ext W K s K₁ s₁ → s.heap.get? Lp = none → K₁ Lp = none → Lp ≠ W.PT → W.hB.get? Lp = none → Heap.FlyingW (hideAll s₁.heap [Lp, Lr, W.LF]) [er, e0] e (.ref CE) (.ref t) h' → s₁.heap.UpToSlots h' → E (.ref e) { s₁ with heap := h' }) :
    wpAny (model W.prog W.w) A (call (.ref a) vs) Q E s := by
  have hroom : A.depth < recursionLimit := by have := rm.dep; omega
  refine wpAny_call (enter_fn G hroom rfl rfl rfl ho hpt hdata FD (by decide +kernel) ok ha hσ fun env m h₁ tk hsc hef hloc R x₁ keep hBs => ?_)
  refine hide fun GG kk => ?_
  obtain ⟨q1, q2, q3, q4, q5, rest, hbody⟩ := p_body
  refine kk ?_
  clear kk GG
  rw [hbody]
  have rm' : Room W (A.deeper env) 0 := ((rm.low (m := 1) (by decide)).deeper (by decide) env)
  refine wpAny_execs_cons (wpAny_If (wpAny_mono (sb_257 G (A.deeper env) env σ m K _ _ _ hsc hc x₁.ok R rm') (fun b s₂ ⟨hb, K₂, x₂⟩ => ?_) fun _ _ h => h))
  subst hb
  rw [if_pos rfl]
  have ok₂ := x₂.ok
  have R₂ := R.ext x₂
  refine hide fun GG kk => ?_
  obtain ⟨hX, hXB, O⟩ := X.own
  obtain ⟨tl, N, nmx, qx, bs, hdct, sn, sub, ab, col, dd, k0, k1, k2, k3, k5, mN, hC, hN, hni, T⟩ := O.obj
  have hxk : ∀ {K' : KM} {s' : Shared}, Ok W K' s' → ∀ b o, hX.get? b = some o → s'.heap.get? b = some o := fun ok' b o e => ok'.keepB G (hXB b o e).1 (hXB b o e).2
  have sls : SLs W 0 (fScope (stAt 9)) (aCons (eVar 20) aNil) [.Name "resp" q2] := SLs_cons (vE (i := 20) (by decide +kernel) (by decide +kernel)) SLs_nil (fun _ => rfl)
  obtain ⟨d, hd⟩ : ∃ d, aCons (eVar 20) aNil σ = some [d] := by
    match ds, hσ with
    | [d], hσ => cases hσ; exact ⟨d, rfl⟩
  refine kk ?_
  clear kk GG
  refine wpAny_execs_cons (wpAny_Raise_call_subT (C := CE) (nm := nmx) (q := qx) (N := N) (bs := bs) (bm := tl) (hdct := hdct) (sn := sn) (sub := sub) (ab := ab) (col := col) (dd := dd) (k0 := k0) (k1 := k1) (k2 := k2) (k3 := k3) (k5 := k5)
    F.excBase_Exception (mN := mN) (T.hasType F.excBase_Exception.hasBase) rm'.hh (sls.1 _ _) hni (wpAny_Name ?_ (by decide +kernel)))
  rw [loadName_read R₂.kind (by rw [Env.kindOf, hsc]; decide +kernel)]
  refine loadGlobal_global (by rw [R₂.gl]; exact ok₂.g G) O.bound ⟨rfl, ?_⟩
  refine evalArgs_of (sls.1 _ _) (wpAny_mono (sls.2.2 (A.deeper env) env σ m K₂ s₂ [d] _ q3 hsc hd ok₂ R₂ rm') (fun ws s₃ ⟨K₃, x₃, i₃⟩ => ?_) fun _ _ h => h)
  have ok₃ := x₃.ok
  have R₃ := R₂.ext x₃
  have kk := hxk ok₃
  refine ⟨rfl, ?_, kk _ _ hC, hN.keeps kk, T.keeps kk, fun h' e hm => ?_⟩
  · rw [i₃.length]; exact Nat.le_of_ble_eq_true rfl
  have x13 := (x₁.trans x₂).trans x₃
  have Lpn : s.heap.get? env.locals = none := by rw [hloc]; exact get_size_none _
  refine hide fun GG kk => ?_
  obtain ⟨oR, hoR, hnR⟩ := liveR
  obtain ⟨slR, hoR'⟩ := x13.le.up pr oR hoR
  obtain ⟨oL, hoL, hnL⟩ := ok₃.live
  obtain ⟨oP, esP, epP, hoP, hdP, _⟩ := R₃.ns
  refine kk ?_
  clear kk GG
  refine wpAny_leaves_madeW (s := { s₃ with heap := h' }) (base := hideAll s₃.heap [env.locals, Lr, W.LF]) (h := s₃.heap) (Around.frames_deeper hfr) hef (fun b o q => of_hideAll _ q) ?_ hm fun h'' t hfl _ _ hup => ?_
  · refine ⟨by rw [R₃.kind]; decide, ⟨_, oP, hef, hideAll_none _ (by simp), hoP, fun vs q => by rw [hdP] at q; cases q⟩, km1, ⟨_, _, fr1, hideAll_none _ (by simp), hoR', hnR⟩, km0, ⟨_, oL, fr0, hideAll_none _ (by simp), hoL, hnL⟩, trivial⟩
  · exact hE s₃ K₃ env.locals e t h'' x13 Lpn R₃.ol.1 R₃.ol.2.1 R₃.ol.2.2 hfl ((Heap.UpToSlots.of_keeps hm.keeps).trans hup)
end
end Mine
namespace Mine
open PySem PySem.W PySem.Calls PyProof.Rows

noncomputable def readF : List D → Option D := fun ds => match bindLs [20] ds [] with
  | some σ => match c257 σ with
    | some true => some (.str "refused")
    | some false => fnOf [20] den_parse257 ds
    | none => none
  | none => none

section
variable {W : Wd}
theorem parse_ok (G : Good W) (NM : Nms W) (hP : FunOk W 9 "parse257" [20]) : FnOk W 1 "parse257" (fnOf [20] den_parse257) := by
  obtain ⟨a, o, fd, hg, ho, hpt, hd, FD⟩ := hP
  exact ⟨a, o, fd, hg, ho, hpt, hd, call_ok G (by decide) rfl rfl rfl ho hpt hd FD (by decide +kernel) (ss_parse257 G NM)⟩

theorem read_ok (G : Good W) (NM : Nms W) {KF : Frag} {CE : Addr} (X : Exc W KF CE) (hAF : ∃ e0, W.AF = some [e0] ∧ e0.frame = some W.LF ∧ e0.scope.kind ≠ .module) (hP : FunOk W 9 "parse257" [20]) (hR : FunOk W 21 "_law_read" [32]) : FnOk W 8 "_law_read" readF := by
  have hPn := parse_ok G NM hP
  obtain ⟨aP, oP, fdP, hgP, hoP, hptP, hdP, FDP⟩ := hP
  obtain ⟨aR, oR, fdR, hgR, hoR, hptR, hdR, FDR⟩ := hR
  obtain ⟨e0, hAF, fr0, km0⟩ := hAF
  refine ⟨aR, oR, fdR, hgR, hoR, hptR, hdR, ?_⟩
  intro A K s vs ds r E rm ok ha e
  have hroom : A.depth < recursionLimit := by have := rm.dep; omega
  have hfr : A.frames = some [e0] := (rm.fr (Nat.le_refl _)).trans hAF
  refine hide fun GG kk => ?_
  unfold readF at e
  split at e
  case h_2 => cases e
  rename_i σp hσp
  obtain ⟨d, rfl⟩ : ∃ d, ds = [d] := by
    match ds, hσp with
    | [d], _ => exact ⟨d, rfl⟩
  have hσr : bindLs [32] [d] [] = some [(32, .v d)] := rfl
  obtain ⟨q1, q2, q3, q4, q5, q6, q7, k, q8, q9, hbody⟩ := r_body
  refine kk ?_
  clear kk
  refine wpAny_call (enter_fn G hroom rfl rfl rfl hoR hptR hdR FDR (by decide +kernel) ok ha hσr fun env m h₁ tk hsc hef hloc R x₁ keep hBs => ?_)
  have hfr₁ : (A.deeper env).frames = some [env, e0] := Around.frames_deeper hfr
  have rm₁ : Room W (A.deeper env) 7 := rm.deeper (by decide) env
  rw [hbody]
  have sls : SLs W 7 (fScope (stAt 21)) (aCons (eVar 32) aNil) [.Name "reply" q2] := SLs_cons (vE (i := 32) (by decide +kernel) (by decide +kernel)) SLs_nil (fun _ => rfl)
  refine wpAny_execs_cons (wpAny_Try_except (wpAny_execs_cons (wpAny_Return_some ?_)))
  split at e
  case h_3 => cases e
  · -- the reply is refused
    rename_i hc
    cases e
    refine Call_Name rfl (wpAny_Name ?_ (by decide +kernel))
    rw [loadName_read R.kind (by rw [Env.kindOf, hsc]; decide +kernel)]
    refine loadGlobal_global (by rw [R.gl]; exact x₁.ok.g G) hgP ?_
    refine callWith_function (o := oP) (fd := fdP) (evalArgs_of (sls.1 _ _) (wpAny_mono (sls.2.2 (A.deeper env) env _ m K _ [d] _ q3 hsc rfl x₁.ok R rm₁) (fun ws s₂ ⟨K₂, x₂, i₂⟩ => ?_) fun _ _ h => h))
    refine ⟨⟨x₂.ok.keepB G hptP hoP, hdP⟩, ?_⟩
    have R₂ := R.ext x₂
    refine hide fun GG kk => ?_
    obtain ⟨oL, esL, epL, hoL, hdL, _⟩ := R₂.ns
    refine kk ?_
    clear kk
    refine parse_raises G X hoP hptP hdP FDP x₂.ok i₂ hσp hc rm₁ hfr₁ hef fr0 (by rw [R.kind]; decide) km0 R.ol.2.1 ⟨oL, hoL, fun vs q => by rw [hdL] at q; cases q⟩ fun s₃ K₃ Lp e t h' x₃ fLp kLp pLp bLp hfl hup => ?_
    have fR : s.heap.get? env.locals = none := by rw [hloc]; exact get_size_none _
    have x23 := (x₁.trans x₂).trans x₃
    have fLp' : s.heap.get? Lp = none := get_none_of (x₁.trans x₂).le pLp fLp
    have kR : K₃ env.locals = none := ((R₂.ol).ext x₃ hoL).1
    have pl : W.PT ≠ W.LF := fun q => by have h1 := G.pt0; rw [q, G.lf0] at h1; cases h1
    have fin : ∀ h'', (hideAll s₃.heap [Lp, env.locals, W.LF]).StaysIn h'' → s₃.heap.UpToSlots h'' → Ext W K s K₃ { s₃ with heap := h'' } := fun h'' st up => fly_ext x23 fLp' fR kLp kR pLp R.ol.2.1 pl bLp R.ol.2.2 st up
    refine wpAny_looks_onW (s := { s₃ with heap := h' }) hfr₁ hef hfl fun h₄ hheld₄ hsm₄ => ?_
    refine wpAny_landsW (s := { s₃ with heap := h₄ }) hheld₄ fun h₅ hfl₅ hsm₅ => ?_
    have up₅ := (hup.trans hsm₄).trans hsm₅
    have x₅ := fin h₅ hfl₅.1 up₅
    have ok₅ := x₅.ok
    refine hide fun GG kk => ?_
    obtain ⟨ob, hob, hobc⟩ := hfl₅.there
    have XK : KF.In h₅ := fun b o e => ok₅.keepB G (X.noT b o e) (X.inB b o e)
    obtain ⟨nm', qn', N, bs, bm, hdct, sn, sub, ab, col, dd, k0, k1, k2, k3, k5, newId, hC, hbase, hbT⟩ := kts_cls XK X.self
    obtain ⟨hX, _, O⟩ := X.own
    refine kk ?_
    clear kk
    refine wpAny_handleBy_cons (codeAny_handlers_test (wpAny_Name ?_ (by decide +kernel))) (by intro q; cases q)
    rw [loadName_read R.kind (by rw [Env.kindOf, hsc]; decide +kernel)]
    refine loadGlobal_global (by rw [R.gl]; exact ok₅.g G) O.bound ?_
    refine wpAny_excMatches_sub_self hC hob hobc hbase (codeAny_handlers_suite ?_)
    refine lands_againW (s := { s₃ with heap := h₅ }) hfl₅ fun h₆ hfl₆ hsm₆ => ?_
    refine wpAny_execs_cons (wpAny_Return_some (wpAny_Constant_str ?_))
    have x₆ := fin h₆ hfl₆.1 (up₅.trans hsm₆)
    exact ⟨K₃, x₆.trans (.toks x₆.ok (Nat.le_succ _)), .str _ _⟩
  · rename_i hc
    have se : SE W 7 (fScope (stAt 21)) (eApp (fnOf [20] den_parse257) (aCons (eVar 32) aNil)) (.Call (.Name "parse257" q1) [.Name "reply" q2] [] q3) := SE_call G hPn (by decide) (by decide +kernel) (by decide +kernel) sls
    refine wpAny_mono (se (A.deeper env) env [(32, .v d)] m K _ r _ hsc (by show (match some [d] with | some l => _ | none => none) = _; exact e) x₁.ok R rm₁) (fun v s₂ ⟨K₂, x₂, i₂⟩ => ?_) fun _ _ h => h
    exact ⟨K₂, x₁.trans x₂, i₂⟩
end
end Mine
namespace Mine
open PySem PySem.W PySem.Calls PyProof.Rows
open PySem.Builtin

theorem enc_fold : ∀ (l : List Nat), (l.all (· < 128) = true) → ∀ acc : Array UInt8, l.foldl (fun acc y => acc ++ (Str.utf8Of y).toArray) acc = acc ++ (l.map (·.toUInt8)).toArray
  | [], _, acc => by simp
  | c :: l, h, acc => by
    simp only [List.all_cons, Bool.and_eq_true, decide_eq_true_eq] at h
    rw [List.foldl_cons, enc_fold l (by simpa using h.2)]
    have : Str.utf8Of c = [c.toUInt8] := by unfold Str.utf8Of; rw [if_pos h.1]
    rw [this]
    simp
theorem enc_nosur (x : Str) (h : x.cps.all (· < 128) = true) : Array.findIdx? Str.isSurrogate x.cps = none := by
  rw [Array.findIdx?_eq_none_iff]
  intro c hc
  have := Array.all_eq_true_iff_forall_mem.mp h c hc
  simp only [decide_eq_true_eq] at this
  unfold Str.isSurrogate
  simp
  omega
theorem enc_out (x : Str) (h : x.cps.all (· < 128) = true) : Array.foldl (fun acc y => acc ++ (Str.utf8Of y).toArray) #[] x.cps = x.cps.map (·.toUInt8) := by
  rw [← Array.foldl_toList, enc_fold _ (by simpa using h)]
  apply Array.ext'
  simp
theorem enc_sur (x : Str) (h : x.cps.all (· < 128) = true) : ∀ c ∈ x.cps, Str.isSurrogate c = false := fun c hc => by
  have := Array.all_eq_true_iff_forall_mem.mp h c hc
  simp only [decide_eq_true_eq] at this
  unfold Str.isSurrogate
  simp
  omega
theorem two_turns {σ : Type} (f : Nat → σ → Sem (ForInStep σ)) (s0 s1 : σ) (b1 : ∀ i, f i s1 = pure (.done s1)) : ∀ n, (n = 0 → s0 = s1) → (0 < n → ∀ i, f i s0 = pure (.yield s1)) → forIn [:n] s0 f = pure s1
  | 0, h, _ => by rw [h rfl, Std.Legacy.Range.forIn_eq_forIn_range']; rfl
  | 1, _, h => by
    rw [Std.Legacy.Range.forIn_eq_forIn_range']
    have hr : [:1].size = 1 := by simp [Std.Legacy.Range.size]
    rw [hr, List.range'_succ, List.forIn_cons, h (Nat.zero_lt_succ _), pure_bind]
    rfl
  | n + 2, _, h => by
    rw [Std.Legacy.Range.forIn_eq_forIn_range']
    have hr : [:n + 2].size = n + 2 := by simp [Std.Legacy.Range.size]
    rw [hr, List.range'_succ, List.forIn_cons, h (Nat.zero_lt_succ _), pure_bind]
    show forIn (List.range' 1 (n + 1) 1) s1 f = _
    rw [List.range'_succ, List.forIn_cons, b1, pure_bind]
theorem encodeNarrow_ascii (x : Str) (self : Value) (h : x.cps.all (· < 128) = true) (hn : x.length ≤ 60) : _codecs.encodeNarrow "str.encode" _codecs.utf8Codec none self x = pure (x.cps.map (·.toUInt8)) := by
  refine (congrArg (fun m => m >>= _) (two_turns _ ((0, #[], {}) : Nat × Array UInt8 × _codecs.Faults) (x.cps.size, x.cps.map (·.toUInt8), {}) (fun i => ?_) x.length (fun hz => ?_) (fun hp i => ?_))).trans (pure_bind _ _)
  · refine (if_neg ?_).trans ?_
    · have h60 : (60 : Nat) ≤ sizeLine := Nat.le_of_ble_eq_true rfl
      exact Nat.not_lt.mpr (Nat.le_trans (Nat.le_of_eq Array.size_map) (Nat.le_trans hn h60))
    · rw [show x.cps[x.cps.size]? = none from Array.getElem?_eq_none (Nat.le_refl _)]
  · have hz : x.cps.size = 0 := hz
    rw [Array.size_eq_zero_iff.mp hz, Array.map_empty]
    rfl
  · refine (if_neg (Nat.not_lt_zero _)).trans ?_
    rw [show x.cps[0]? = some _ from Array.getElem?_eq_getElem hp]
    refine (if_pos (congrArg not (enc_sur x h _ (Array.getElem_mem hp)))).trans ?_
    have h0 : x.cps.extract 0 = x.cps := Array.extract_size
    have e : (x.cps.findIdx? Str.isSurrogate).getD x.cps.size = x.cps.size := by rw [enc_nosur x h]; rfl
    refine congrArg (fun p => pure (ForInStep.yield p)) (?_ : ((_, _, _) : Nat × Array UInt8 × _codecs.Faults) = _)
    show ((0 + (Array.findIdx? Str.isSurrogate (x.cps.extract 0)).getD (x.cps.extract 0).size, Array.foldl (fun acc y => acc ++ (Str.utf8Of y).toArray) #[] ((x.cps.extract 0).extract 0 ((Array.findIdx? Str.isSurrogate (x.cps.extract 0)).getD (x.cps.extract 0).size)), {}) : Nat × Array UInt8 × _codecs.Faults) = _
    rw [h0, e, h0, enc_out x h, Nat.zero_add]
noncomputable def encodeD : List D → Option D
  | [.str x] => if x.cps.all (· < 128) = true ∧ x.length ≤ 60 then some (.byt (x.cps.map (·.toUInt8))) else none
  | _ => none
theorem gives_encode (x : Str) (t : Tok) (h : x.cps.all (· < 128) = true) (hn : x.length ≤ 60) : Gives («str.encode» ⟨[.str x t], []⟩) (.bytes (x.cps.map (·.toUInt8))) := by
  refine .of_eq ?_
  rw [encode_tree, encodeRoad_utf8, encodeNarrow_ascii x _ h hn]
  rfl
theorem encode_ok {W : Wd} : BiOk W "str.encode" encodeD := by
  intro A K s vs ds r E hh hu ok ha e
  unfold encodeD at e
  split at e
  · split at e
    · rename_i h
      cases e
      obtain ⟨v, rfl, i⟩ := ha.inv1
      obtain ⟨_, rfl⟩ := i.str_inv
      refine call_gives F.slot_str_encode (typeIs_str _ _ _) F.entry_str_encode (F.args_str_encode_1 _) (gives_encode _ _ h.1 h.2) ⟨?_, .here ok (Nat.le_succ _) (.byt _ _)⟩
      have := h.2
      have h60 : (60 : Nat) ≤ sizeLine := Nat.le_of_ble_eq_true rfl
      simp only [Array.size_map]
      exact Nat.le_trans this h60
    · cases e
  · cases e
theorem encode_str : ∀ d l, (encodeD (d :: l)).isSome = true → ∃ x, d = .str x := by
  intro d l h
  unfold encodeD at h
  split at h
  · rename_i x q; cases q; exact ⟨x, rfl⟩
  · cases h
end Mine
namespace Mine
open PySem PySem.W PySem.Calls PyProof.Rows

noncomputable def den__law_piece : DS :=
  (sThen (sAsg (.one 64) (eBin .add (lE (eBin .add (lE (eLit (.str "\""))) (lE (eMeth joinD (eLit (.str "")) (aCons (lcF (iAny (eVar 33)) (.one 134) bTrue (eIte (bCmp .inn (lVar 134) (lE (eLit (.str "\"\\")))) (eBin .add (lE (eLit (.str "\\"))) (lVar 134)) (eVar 134))) aNil))))) (lE (eLit (.str "\"")))))
  (sThen (sRet (eMeth encodeD (eBin .add (lE (eLit (.str "\"/\""))) (lE (eIte (bVal (eVar 29)) (eBin .add (lE (eLit (.str "("))) (lVar 64)) (eBin .add (lVar 64) (lE (eLit (.str ")"))))))) aNil))
  sNil))
set_option maxHeartbeats 4000000 in
theorem ss__law_piece {W : Wd} (GW : Good W) (NM : Nms W) : Ss W 0 (fScope (stAt 22)) (den__law_piece) (fBody (stAt 22)) := by
  refine @Ss_cons _ _ _ GW _ _ _ _ ?_ ?_
  · refine @S1_asg _ _ _ GW 64 _ _ _ _ ?_ ?_ ?_ ?_
    · refine @SE_bin _ _ _ GW .add _ _ _ _ _ ?_ ?_
      · refine @SE.toL _ _ _ _ _ ?_
        refine @SE_bin _ _ _ GW .add _ _ _ _ _ ?_ ?_
        · exact @SE.toL _ _ _ _ _ SE_str
        · refine @SE.toL _ _ _ _ _ ?_
          refine @SE_meth _ _ _ _ _ _ _ _ _ _ _ _ F.slot_str_join F.type_str_join join_ok join_str SE_str ?_ ?_ ?_ ?_
          · refine @SLs_cons _ _ _ _ _ _ _ ?_ ?_ ?_
            · exact (SE_comp GW (CR_l1 (p := (.one 134)) GW (by kernel_rfl) (by kernel_rfl) (fun _ _ => rfl) (SI_any GW (vE (i := 33) (by kernel_rfl) (by kernel_rfl)) (fun _ _ => rfl)) (.one ⟨⟨_, rfl⟩, Nat.blt_eq.mp (by kernel_rfl), (by kernel_rfl)⟩) ifs_nil (SE_ite (SB_cmp (op := .inn) (vL (i := 134) (by kernel_rfl) (by kernel_rfl)) (SE.toL SE_str) rfl) (SE_bin (op := .add) GW (SE.toL SE_str) (vL (i := 134) (by kernel_rfl) (by kernel_rfl))) (vE (i := 134) (by kernel_rfl) (by kernel_rfl)))) (fun _ => rfl))
            · exact SLs_nil
            · exact (fun _ => rfl)
          · exact (fun _ => rfl)
          · exact (fun _ => rfl)
          · exact rfl
      · exact @SE.toL _ _ _ _ _ SE_str
    · kernel_rfl
    · kernel_rfl
    · exact (fun _ _ => rfl)
  refine @Ss_cons _ _ _ GW _ _ _ _ ?_ ?_
  · refine @S1_ret _ _ _ _ _ _ ?_
    refine @SE_meth _ _ _ _ _ _ _ _ _ _ _ _ F.slot_str_encode F.type_str_encode encode_ok encode_str ?_ ?_ ?_ ?_ ?_
    · refine @SE_bin _ _ _ GW .add _ _ _ _ _ ?_ ?_
      · exact @SE.toL _ _ _ _ _ SE_str
      · refine @SE.toL _ _ _ _ _ ?_
        refine @SE_ite _ _ _ _ _ _ _ _ _ _ ?_ ?_ ?_
        · refine @SB_val _ _ _ _ _ ?_ ?_
          · refine @vE _ _ _ 29 _ ?_ ?_
            · kernel_rfl
            · kernel_rfl
          · exact (fun _ _ => rfl)
        · refine @SE_bin _ _ _ GW .add _ _ _ _ _ ?_ ?_
          · exact @SE.toL _ _ _ _ _ SE_str
          · refine @vL _ _ _ 64 _ ?_ ?_
            · kernel_rfl
            · kernel_rfl
        · refine @SE_bin _ _ _ GW .add _ _ _ _ _ ?_ ?_
          · refine @vL _ _ _ 64 _ ?_ ?_
            · kernel_rfl
            · kernel_rfl
          · exact @SE.toL _ _ _ _ _ SE_str
    · exact SLs_nil
    · exact (fun _ => rfl)
    · exact (fun _ => rfl)
    · exact rfl
  exact Ss_nil
noncomputable def ps__law_piece : List Nat := [33, 29]

end Mine
namespace Mine
open PySem PySem.W PySem.Calls PyProof.Rows

theorem plainAttrs_pat : PlainAttrs "re.Pattern" :=
  ⟨⟨"object.__getattribute__", by rw [typeLookup_type, builtinLookup_eq_fast]; kernel_rfl, by decide +kernel⟩, by rw [typeLookup_type, builtinLookup_eq_fast]; kernel_rfl⟩
theorem owner_pat : Manifest.owners.lookup (String.ofList ['n', 'r', 'e', 't', 't', 'a', 'P', '.', 'e', 'r'].reverse) = some Manifest.sig_re_Pattern := by kernel_rfl
theorem slot_pat_sub : Slot "re.Pattern" "sub" "re.Pattern.sub" :=
  .of (owner := "re.Pattern") (n := "sub") (by rw [typeLookup_type, builtinLookup_eq_fast]; kernel_rfl) (by decide +kernel) (by decide +kernel) (by decide +kernel)
    (by first | exact .inl (by decide +kernel) | exact .inr (by decide +kernel)) (by rw [isSubtype_type]; kernel_rfl)
theorem type_pat_sub : typeOf (.builtin "re.Pattern.sub") = pure (.type "method_descriptor") := by show builtinType _ = _; rw [builtinType_eq_fast]; kernel_rfl
theorem entry_pat_sub : entryFor table "re.Pattern.sub" = some Builtin.«re.Pattern.sub» := entryFor_of_tree (by kernel_rfl)
theorem args_pat_sub_3 (a b c : Value) : argsOk "re.Pattern.sub" ⟨[a, b, c], []⟩ := by
  unfold argsOk; rw [signature?_of (id := "re.Pattern.sub") (n := ['b', 'u', 's']) (o := ['n', 'r', 'e', 't', 't', 'a', 'P', '.', 'e', 'r']) (by kernel_rfl) owner_pat]; kernel_rfl
theorem entry_pat_subloop : entryFor table "re.Pattern.sub.loop" = some Builtin.«re.Pattern.sub.loop» := entryFor_of_tree (by kernel_rfl)
theorem plain_pat_subloop : plainId "re.Pattern.sub.loop" = true := by decide +kernel
theorem slot_bytes_count : Slot "bytes" "count" "bytes.count" :=
  .of (owner := "bytes") (n := "count") (by rw [typeLookup_type, builtinLookup_eq_fast]; kernel_rfl) (by decide +kernel) (by decide +kernel) (by decide +kernel)
    (by first | exact .inl (by decide +kernel) | exact .inr (by decide +kernel)) (by rw [isSubtype_type]; kernel_rfl)
theorem type_bytes_count : typeOf (.builtin "bytes.count") = pure (.type "method_descriptor") := by show builtinType _ = _; rw [builtinType_eq_fast]; kernel_rfl
theorem entry_bytes_count : entryFor table "bytes.count" = some Builtin.«bytes.count» := entryFor_of_tree (by kernel_rfl)
theorem args_bytes_count_2 (a b : Value) : argsOk "bytes.count" ⟨[a, b], []⟩ := by
  unfold argsOk; rw [signature?_of (id := "bytes.count") (n := ['t', 'n', 'u', 'o', 'c']) (o := ['s', 'e', 't', 'y', 'b']) (by kernel_rfl) FB.owner_bytes]; kernel_rfl
theorem slot_bytes_join : Slot "bytes" "join" "bytes.join" :=
  .of (owner := "bytes") (n := "join") (by rw [typeLookup_type, builtinLookup_eq_fast]; kernel_rfl) (by decide +kernel) (by decide +kernel) (by decide +kernel)
    (by first | exact .inl (by decide +kernel) | exact .inr (by decide +kernel)) (by rw [isSubtype_type]; kernel_rfl)
theorem entry_bytes_join : entryFor table "bytes.join" = some Builtin.«bytes.join» := entryFor_of_tree (by kernel_rfl)
theorem args_bytes_join_2 (a b : Value) : argsOk "bytes.join" ⟨[a, b], []⟩ := by
  unfold argsOk; rw [signature?_of (id := "bytes.join") (n := ['n', 'i', 'o', 'j']) (o := ['s', 'e', 't', 'y', 'b']) (by kernel_rfl) FB.owner_bytes]; kernel_rfl
end Mine
namespace Mine
open PySem PySem.W PySem.Calls PyProof.Rows
open PySem.Builtin PySem.Builtin.Bytes

theorem search_args (b c : Array UInt8) (t u : Tok) : searchArgs .bytes "count" ⟨[.bytes b t, .bytes c u], []⟩ = pure (b, c, if ((window b.size none none).2 - (window b.size none none).1 < (c.size : Int)) then none else some ((window b.size none none).1.toNat, (window b.size none none).2.toNat)) := by
  unfold searchArgs
  show (Bytes.buffer? _ (.bytes c u) >>= fun r => _) = _
  rw [KBy.buffer_eq]
  rfl
noncomputable def countB (b c : Array UInt8) : Int := if ((window b.size none none).2 - (window b.size none none).1 < (c.size : Int)) then 0 else ((occurrences b c (window b.size none none).1.toNat (window b.size none none).2.toNat).length : Nat)
theorem gives_count (b c : Array UInt8) (t u : Tok) (hc : c.isEmpty = false) : Gives («bytes.count» ⟨[.bytes b t, .bytes c u], []⟩) (.int (countB b c)) := by
  refine .of_eq ?_
  unfold «bytes.count» countM
  rw [search_args]
  unfold countB
  split
  · rfl
  · simp only [pure_bind, hc]
    rfl
noncomputable def countD : List D → Option D
  | [.byt b, .byt c] => if c.isEmpty = false then some (.int (countB b c)) else none
  | _ => none
theorem count_ok {W : Wd} : BiOk W "bytes.count" countD := by
  intro A K s vs ds r E hh hu ok ha e
  unfold countD at e
  split at e
  · split at e
    · rename_i h
      cases e
      obtain ⟨v1, v2, rfl, i1, i2⟩ := ha.inv2
      cases i1
      cases i2
      exact call_gives slot_bytes_count (typeIs_bytes _ _ _) entry_bytes_count (args_bytes_count_2 _ _) (gives_count _ _ _ _ h) (.here ok (Nat.le_succ _) (.int _ _))
    · cases e
  · cases e
theorem count_byt : ∀ d l, (countD (d :: l)).isSome = true → ∃ x, d = .byt x := by
  intro d l h
  unfold countD at h
  split at h
  · rename_i x q e; cases e; exact ⟨_, rfl⟩
  · cases h

section
variable {W : Wd} {n : Nat} {sc : Scope}
theorem SE_byt {x : List UInt8} {k : Nat} {pos : Pos} : SE W n sc (eLit (.byt x.toArray)) (.Constant (.bytes x) k pos) := by
  intro A env σ m K s d E hs e ok R r
  cases e
  exact Constant_bytes (.here ok (Nat.le_succ _) (.byt _ _))
theorem SE_methB {name : Str} {id : String} {f : List D → Option D} {fo : DE} {g : Sto → Option (List D)} {o : Expr} {es : List Expr} {apos pos : Pos} (slot : Slot "bytes" name id) (ty : typeOf (.builtin id) = pure (.type "method_descriptor")) (hf : BiOk W id f)
    (hst : ∀ d l, (f (d :: l)).isSome = true → ∃ x, d = .byt x) (ho : SE W n sc fo o) (ha : SLs W n sc g es) (hbase : ∀ env, attributeBase o name env (eval o env) = eval o env)
    (hfew : ∀ env, ((backTo pos (starEach es env)).all (fun x => !x.1) && (backToKw pos (keywordEach [] env)).all (fun x => x.1.isSome) && decide (es.length + ([] : List Keyword).length + (if ([] : List Keyword).isEmpty then 0 else 1) < 30)) = true)
    (hline : (apos.endLine == pos.line) = true) : SE W n sc (eMeth f fo g) (.Call (.Attribute o name apos) es [] pos) := by
  intro A env σ m K s d E hs e ok R rm
  unfold eMeth at e
  split at e
  · rename_i od l q1 q2
    obtain ⟨x, rfl⟩ := hst od l (by rw [e]; rfl)
    refine wpAny_Call_method_late (hbase env) (hfew env) hline rfl (wpAny_mono (ho A env σ m K s _ E hs q1 ok R rm) (fun ov s₁ ⟨K₁, x₁, i₁⟩ => ?_) fun _ _ h => h)
    cases i₁ with
    | byt _ t =>
      refine ⟨"bytes", id, FB.plainAttrs_bytes, slot, ty, typeIs_bytes _ _ _, fun _ h => (nomatch h), ?_⟩
      refine callWith_builtin (ha.1 _ _) (evalArgs_of (ha.1 _ _) (wpAny_mono (ha.2.2 A env σ m K₁ s₁ l E pos hs q2 x₁.ok (R.ext x₁) rm) (fun vs s₂ ⟨K₂, x₂, i₂⟩ => ?_) fun _ _ h => h))
      exact wpAny_mono (hf A K₂ s₂ _ _ d E rm.hh rm.u100 x₂.ok (.cons (.byt x t) i₂) e) (fun v s' h => .trans (x₁.trans x₂) h) fun _ _ h => h
  · cases e
end
end Mine
namespace Mine
open PySem PySem.W PySem.Calls PyProof.Rows
open PySem.Builtin PySem.Builtin.Bytes

/-! the pattern's machine -/
noncomputable def drv : Nat → Sre.M → Option Sre.M
  | 0, _ => none
  | k + 1, m => if (m.runFor Re.reTurnSteps).outcome.isSome then some (m.runFor Re.reTurnSteps) else drv k (m.runFor Re.reTurnSteps)
theorem wp_drive {M : Model} {A : Around} {E : Value → Shared → Prop} {s : Shared} {Q : Sre.M → Shared → Prop} : ∀ {k turns : Nat} {m m' : Sre.M}, drv k m = some m' → k ≤ turns → Q m' s → wpAny M A (Re.reDrive turns m) Q E s
  | 0, _, _, _, h, _, _ => by cases h
  | k + 1, 0, _, _, _, h, _ => absurd h (by omega)
  | k + 1, t + 1, m, m', h, hk, hq => by
    unfold Re.reDrive
    unfold drv at h
    split at h
    · rename_i q
      cases h
      rw [if_pos q]
      exact wpAny_pure hq
    · rename_i q
      rw [if_neg q]
      exact wpAny_bind (wpAny_rule (wp_drive h (by omega) hq))
theorem wp_units {M : Model} {A : Around} {E : Value → Shared → Prop} {s : Shared} {Q : PUnit → Shared → Prop} {f : Nat → PUnit → Sem (ForInStep PUnit)} (hf : ∀ i u (Q' : ForInStep PUnit → Shared → Prop), Q' (.yield ⟨⟩) s → wpAny M A (f i u) Q' E s) (hq : Q ⟨⟩ s) : ∀ (l : List Nat), wpAny M A (forIn l PUnit.unit f) Q E s
  | [] => wpAny_pure hq
  | i :: l => by
    rw [List.forIn_cons]
    exact wpAny_bind (hf i _ _ (wp_units hf hq l))
theorem wp_run {M : Model} {A : Around} {E : Value → Shared → Prop} {s : Shared} {Q : Option Sre.M → Shared → Prop} {k : Nat} {m m' : Sre.M} (h : drv k m = some m') (hk : k ≤ 1000) (hq : match m'.outcome with | some .matched => Q (some m') s | some .failed => Q none s | _ => False) : wpAny M A (Re.reRunToEnd m) Q E s := by
  unfold Re.reRunToEnd
  refine wpAny_bind (wp_drive h (Nat.le_trans hk (by decide +kernel)) ?_)
  refine wpAny_bind (wp_units (fun i u Q' q => ?_) ?_ _)
  · split
    · exact wpAny_bind (wpAny_rule (wpAny_pure q))
    · exact wpAny_pure q
  · split at hq
    · rename_i e; rw [e]; exact wpAny_pure hq
    · rename_i e; rw [e]; exact wpAny_pure hq
    · exact hq.elim

theorem text_of (b : Array UInt8) (t : Tok) : Re.reTextOf (.bytes b t) = pure (b.map (·.toNat), 1) := by
  unfold Re.reTextOf
  show (Bytes.bufferQuiet? "_sre" (.bytes b t) >>= fun r => _) = _
  rw [KBy.quiet_eq]
  rfl
theorem no_coll (b : Array UInt8) (t : Tok) : Re.reNoCollectionInside (.bytes b t) 1 = pure () := by
  unfold Re.reNoCollectionInside
  rw [KBy.isInstance_eq]
  rfl
theorem lit_ok (b : Array UInt8) (t : Tok) : Re.reLiteralCannotBeTurned (.bytes b t) = pure () := by
  unfold Re.reLiteralCannotBeTurned
  rw [KBy.isInstance_eq]
  rfl

structure PatH (h : Heap) (P T : Addr) (fs ws : Array Value) (n : Nat) : Prop where
  h1 : h.get? P = some { cls := .type "re.Pattern", data := .fields fs }
  h2 : fs.getD 5 .none = .ref T
  h3 : Re.reRawNat (fs.getD 2 .none) = 0
  h4 : Re.reRawNat (fs.getD 6 .none) = 1
  h5 : h.get? T = some { cls := .type "tuple", data := .seq ws n }
noncomputable def tgt (P : Addr) (ws : Array Value) (b : Array UInt8) (t : Tok) : Re.ReTarget :=
  { pattern := .ref P, string := .bytes b t, code := (ws.map Re.reRawOf).map (·.toNat), text := b.map (·.toNat), kind := 1, groups := 0, pos := 0, lim := (b.map (·.toNat)).size }
theorem whole_target {M : Model} {A : Around} {E : Value → Shared → Prop} {s : Shared} {Q : Re.ReTarget → Shared → Prop} {P T : Addr} {fs ws : Array Value} {n : Nat} {b : Array UInt8} {t : Tok} (h : PatH s.heap P T fs ws n) (hq : Q (tgt P ws b t) s) : wpAny M A (Re.reWholeTarget (.ref P) (.bytes b t)) Q E s := by
  unfold Re.reWholeTarget
  refine wpAny_bind ?_
  unfold fieldsOf
  refine wpAny_bind (wpAny_load h.h1 (wpAny_pure ?_))
  rw [text_of]
  refine wpAny_bind (wpAny_pure ?_)
  rw [h.h4]
  refine wpAny_bind (wpAny_pure ?_)
  unfold Re.reRawItems
  rw [h.h2, h.h3]
  refine wpAny_bind (wpAny_bind (wpAny_seqItems h.h5 rfl (wpAny_pure (wpAny_pure ?_))))
  exact hq

/-! the parts that stand between the finds -/
noncomputable def cut8 (b : Array UInt8) (i j : Nat) : Array UInt8 := ((b.map (·.toNat)).extract i j).map (·.toUInt8)
noncomputable def subGo (code : Array Nat) (b : Array UInt8) : Nat → Nat → Nat → Bool → List (Array UInt8) → Option (List (Array UInt8))
  | 0, _, _, _, _ => none
  | k + 1, start, done, must, acc => if acc.length > 20 then none else match drv 1000 (Sre.forSearch code (b.map (·.toNat)) 0 start (b.map (·.toNat)).size must) with
    | some m => match m.outcome with
      | some .matched => subGo code b k m.handed m.handed (m.handed == m.start) (acc ++ (if done < m.start then [cut8 b done m.start] else []) ++ [#[]])
      | some .failed => some (acc ++ if done < (b.map (·.toNat)).size then [cut8 b done (b.map (·.toNat)).size] else [])
      | _ => none
    | none => none

inductive AllB : List Value → List (Array UInt8) → Prop
  | nil : AllB [] []
  | cons {p : Array UInt8} {t : Tok} {vs : List Value} {ps : List (Array UInt8)} : AllB vs ps → AllB (.bytes p t :: vs) (p :: ps)
theorem AllB.length : ∀ {vs : List Value} {ps : List (Array UInt8)}, AllB vs ps → vs.length = ps.length
  | _, _, .nil => rfl
  | _, _, .cons h => by rw [List.length_cons, List.length_cons, h.length]
theorem AllB.app : ∀ {vs : List Value} {ps : List (Array UInt8)}, AllB vs ps → ∀ (p : Array UInt8) (t : Tok), AllB (vs ++ [.bytes p t]) (ps ++ [p])
  | _, _, .nil, p, t => .cons .nil
  | _, _, .cons h, p, t => .cons (h.app p t)
theorem cut8_size (b : Array UInt8) (i j : Nat) : (cut8 b i j).size ≤ b.size := by
  unfold cut8
  simp
  omega

section
variable {prog : Program} {w : World} {A : Around}
theorem next_found {M : Model} {A : Around} {E : Value → Shared → Prop} {s : Shared} {Q : Option Sre.M → Shared → Prop} {P : Addr} {ws : Array Value} {b : Array UInt8} {t : Tok} {start : Nat} {must : Bool} {m' : Sre.M}
    (h : drv 1000 (Sre.forSearch ((ws.map Re.reRawOf).map (·.toNat)) (b.map (·.toNat)) 0 start (b.map (·.toNat)).size must) = some m') (hq : match m'.outcome with | some .matched => Q (some m') s | some .failed => Q none s | _ => False) :
    wpAny M A (Re.reNextFound (tgt P ws b t) start must) Q E s := wp_run h (Nat.le_refl _) hq

/-- a list of the machine's own grows -/
theorem push_upd {M : Model} {A : Around} {E : Value → Shared → Prop} {s : Shared} {Q : Unit → Shared → Prop} {L : Addr} {vs : List Value} {c : Nat} {v : Value} (hL : s.heap.get? L = some (listOf vs.toArray c)) (hn : vs.length ≤ 100)
    (h : ∀ h' c', (∀ b, b ≠ L → h'.get? b = s.heap.get? b) → h'.get? L = some (listOf (vs ++ [v]).toArray c') → Q () { s with heap := h' }) : wpAny M A (updateSeq L fun x => x.push v) Q E s := by
  have h100 : (100 : Nat) ≤ sizeLine := Nat.le_of_ble_eq_true rfl
  refine wpAny_updateSeq (n := c) hL rfl (h _ (if (vs.toArray.push v).size == vs.toArray.size then c else c + 1) (fun b hb => Heap.get?_update_other _ _ (Ne.symm hb)) ?_) (by simp; omega) (by simp; omega)
  rw [Heap.get?_update_self _ hL rfl, show (vs ++ [v]).toArray = vs.toArray.push v by simp]
  rfl
theorem slice_b {M : Model} {A : Around} {E : Value → Shared → Prop} {s : Shared} {Q : Value → Shared → Prop} {P : Addr} {ws : Array Value} {b : Array UInt8} {t : Tok} {i j : Nat} (hb : b.size ≤ 1000) (h : Q (.bytes (cut8 b i j) s.toks) { s with toks := s.toks + 1 }) :
    wpAny M A (Re.reSlice (tgt P ws b t).text (tgt P ws b t).kind i j) Q E s := by
  have h1000 : (1000 : Nat) ≤ sizeLine := Nat.le_of_ble_eq_true rfl
  exact wpAny_mkBytes h (Nat.le_trans (cut8_size b i j) (Nat.le_trans hb h1000))

theorem sub_loop {R : Result → Shared → Prop} {P T L : Addr} {fs ws : Array Value} {n : Nat} {b : Array UInt8} {t u : Tok} {s₀ : Shared} (hb : b.size ≤ 1000) (hP : PatH s₀.heap P T fs ws n) (hLn : s₀.heap.get? L = none)
    (hjoin : ∀ (A : Around) (h : Heap) (tk : Nat) (p1 p2 p3 : Array UInt8) (t0 t1 t2 t3 : Tok) (c : Nat) (Q E : Value → Shared → Prop), h.get? L = some (listOf #[.bytes p1 t1, .bytes p2 t2, .bytes p3 t3] c) → p1.size ≤ 1000 → p2.size ≤ 1000 → p3.size ≤ 1000 → Q (.bytes (joined #[] [p1, p2, p3]) tk) { s₀ with heap := h, toks := tk + 1 } →
      wpAny (model prog w) A (call (.builtin "bytes.join") [.bytes #[] t0, .ref L]) Q E { s₀ with heap := h, toks := tk }) :
    ∀ (k : Nat) (start done : Nat) (must : Bool) (acc : List (Array UInt8)) (p1 p2 p3 : Array UInt8) (cnt : Int) (h : Heap) (tk : Nat) (vs : List Value) (c : Nat), 
    subGo ((ws.map Re.reRawOf).map (·.toNat)) b k start done must acc = some [p1, p2, p3] → (∀ b o, s₀.heap.get? b = some o → h.get? b = some o) → h.get? L = some (listOf vs.toArray c) → AllB vs acc → (∀ p ∈ acc, p.size ≤ 1000) → s₀.toks ≤ tk →
    (∀ h' tk' t', (∀ b o, s₀.heap.get? b = some o → h'.get? b = some o) → s₀.toks ≤ tk' → R (.ok (.ret (.bytes (joined #[] [p1, p2, p3]) t'))) { s₀ with heap := h', toks := tk' }) →
    codeAny (model prog w) A (.builtin "re.Pattern.sub.loop" ⟨[.ref P, .bytes b t, .bytes #[] u, rawInt 0, rawInt 0, rawInt cnt, rawInt done, rawInt start, .bool must, .ref L, .bool false], []⟩) R { s₀ with heap := h, toks := tk } := by
  intro k
  induction k with
  | zero => intro start done must acc p1 p2 p3 cnt h tk vs c hgo; cases hgo
  | succ k ih =>
    intro start done must acc p1 p2 p3 cnt h tk vs c hgo hk hL hv hac htk hR
    have hP' : PatH h P T fs ws n := ⟨hk _ _ hP.h1, hP.h2, hP.h3, hP.h4, hk _ _ hP.h5⟩
    have hlv := hv.length
    unfold subGo at hgo
    split at hgo
    · cases hgo
    rename_i hacl
    refine codeAny_builtin entry_pat_subloop ?_
    unfold «re.Pattern.sub.loop»
    refine wpAny_bind (whole_target (s := { s₀ with heap := h, toks := tk }) hP' ?_)
    rw [if_pos (show ((0 : Int) == 0) = true from rfl), lit_ok]
    refine wpAny_bind (wpAny_pure ?_)
    rw [if_neg (by simp)]
    split at hgo
    case h_2 => cases hgo
    rename_i m hm
    have hkeep : ∀ {h1 h2 : Heap}, (∀ b o, s₀.heap.get? b = some o → h1.get? b = some o) → (∀ b, b ≠ L → h2.get? b = h1.get? b) → ∀ b o, s₀.heap.get? b = some o → h2.get? b = some o := fun k1 k2 b o e => (k2 b (fun q => by rw [q, hLn] at e; cases e)).trans (k1 b o e)
    split at hgo
    case h_3 => cases hgo
    · rename_i hout
      refine wpAny_bind (next_found hm ?_)
      rw [hout]
      dsimp only
      have tail : ∀ (A' : Around) (h2 : Heap) (tk2 : Nat) (vs2 : List Value) (c2 : Nat) (acc2 : List (Array UInt8)), acc2.length ≤ 21 → subGo ((ws.map Re.reRawOf).map (·.toNat)) b k m.handed m.handed (m.handed == m.start) (acc2 ++ [#[]]) = some [p1, p2, p3] → (∀ b o, s₀.heap.get? b = some o → h2.get? b = some o) → h2.get? L = some (listOf vs2.toArray c2) → AllB vs2 acc2 → (∀ p ∈ acc2, p.size ≤ 1000) → s₀.toks ≤ tk2 →
          wpAny (model prog w) A' (updateSeq L fun x => x.push (.bytes #[] u)) (fun _ s' => codeAny (model prog w) A (.builtin "re.Pattern.sub.loop" ⟨[.ref P, .bytes b t, .bytes #[] u, rawInt 0, rawInt 0, rawInt (cnt + 1), rawInt m.handed, rawInt m.handed, .bool (m.handed == m.start), .ref L, .bool false], []⟩) R s') (fun _ _ => False) { s₀ with heap := h2, toks := tk2 } := by
        intro A' h2 tk2 vs2 c2 acc2 hl2 hgo2 hk2 hL2 hv2 hac2 htk2
        refine push_upd (s := { s₀ with heap := h2, toks := tk2 }) hL2 (by rw [hv2.length]; omega) fun h3 c3 k3 e3 => ?_
        refine ih _ _ _ _ p1 p2 p3 _ h3 tk2 _ c3 hgo2 (hkeep hk2 k3) e3 (hv2.app _ _) (fun p hp => ?_) htk2 hR
        rcases List.mem_append.mp hp with q | q
        · exact hac2 p q
        · simp at q; subst q; simp
      have q0 : ((0 : Int) == 0) = true := rfl
      have qn : (Value.bytes #[] u != Value.none) = true := rfl
      by_cases q : done < m.start
      · rw [if_pos q] at hgo
        rw [if_pos (show ((done : Int)).toNat < m.start by rwa [Int.toNat_natCast])]
        refine wpAny_bind (slice_b hb ?_)
        refine wpAny_bind (push_upd (s := { s₀ with heap := h, toks := tk + 1 }) hL (by omega) fun h2 c2 k2 e2 => ?_)
        rw [if_pos q0]
        refine wpAny_bind (wpAny_pure ?_)
        rw [if_pos qn]
        rw [Int.toNat_natCast] at e2
        refine wpAny_bind (wpAny_mono (tail _ h2 (tk + 1) _ c2 (acc ++ [cut8 b done m.start]) (by simp; omega) hgo (hkeep hk k2) e2 (hv.app _ _) (fun p hp => ?_) (Nat.le_succ_of_le htk)) (fun _ s' hc => wpAny_pure ⟨plainId_quiet plain_pat_subloop _, hc⟩) (fun _ _ x => x.elim))
        rcases List.mem_append.mp hp with q | q
        · exact hac p q
        · simp at q; subst q; exact Nat.le_trans (cut8_size _ _ _) hb
      · rw [if_neg q] at hgo
        rw [if_neg (show ¬ ((done : Int)).toNat < m.start by rwa [Int.toNat_natCast])]
        rw [if_pos q0]
        refine wpAny_bind (wpAny_pure ?_)
        rw [if_pos qn]
        exact wpAny_bind (wpAny_mono (tail _ h tk _ c acc (by omega) (by simpa using hgo) hk hL hv hac htk) (fun _ s' hc => wpAny_pure ⟨plainId_quiet plain_pat_subloop _, hc⟩) (fun _ _ x => x.elim))
    · rename_i hout
      refine wpAny_bind (next_found hm ?_)
      rw [hout]
      dsimp only
      have hc0 : cut8 b 0 0 = #[] := by simp [cut8]
      have three : ∀ {vs2 : List Value}, AllB vs2 [p1, p2, p3] → ∃ t1 t2 t3, vs2 = [.bytes p1 t1, .bytes p2 t2, .bytes p3 t3] := fun h => by
        cases h with
        | cons h => cases h with
          | cons h => cases h with
            | cons h => cases h; exact ⟨_, _, _, rfl⟩
      have hgo' := Option.some.inj hgo
      by_cases q : done < (b.map (·.toNat)).size
      · rw [if_pos q] at hgo'
        rw [if_pos (show ((done : Int)).toNat < (tgt P ws b t).lim by rwa [Int.toNat_natCast])]
        refine wpAny_bind (slice_b hb ?_)
        refine wpAny_bind (push_upd (s := { s₀ with heap := h, toks := tk + 1 }) hL (by omega) fun h2 c2 k2 e2 => ?_)
        rw [Int.toNat_natCast] at e2
        have hv2 := hv.app (cut8 b done (b.map (·.toNat)).size) tk
        rw [hgo'] at hv2
        have hsz : ∀ p ∈ [p1, p2, p3], p.size ≤ 1000 := by
          rw [← hgo']
          intro p hp
          rcases List.mem_append.mp hp with q | q
          · exact hac p q
          · simp at q; subst q; exact Nat.le_trans (cut8_size _ _ _) hb
        refine hide fun GG kk => ?_
        obtain ⟨t1, t2, t3, hvs⟩ := three hv2
        refine kk ?_
        clear kk GG
        have e2' : h2.get? L = some (listOf #[.bytes p1 t1, .bytes p2 t2, .bytes p3 t3] c2) := by
          have e3 := e2
          rw [show vs ++ [Value.bytes (cut8 b done (tgt P ws b t).lim) tk] = [.bytes p1 t1, .bytes p2 t2, .bytes p3 t3] from hvs] at e3
          exact e3
        refine wpAny_bind (slice_b (s := { s₀ with heap := h2, toks := tk + 1 }) hb ?_)
        refine wpAny_bind (wpAny_seqItems e2' rfl ?_)
        rw [if_neg (by simp)]
        refine wpAny_bind ?_
        rw [hc0]
        refine hjoin _ h2 _ p1 p2 p3 _ t1 t2 t3 c2 _ _ e2' (hsz _ (by simp)) (hsz _ (by simp)) (hsz _ (by simp)) ?_
        rw [if_neg Bool.false_ne_true]
        exact wpAny_pure (hR _ _ _ (hkeep hk k2) (Nat.le_trans htk (by show tk ≤ tk + 1 + 1 + 1; omega)))
      · rw [if_neg q, List.append_nil] at hgo'
        rw [if_neg (show ¬ ((done : Int)).toNat < (tgt P ws b t).lim by rwa [Int.toNat_natCast])]
        refine hide fun GG kk => ?_
        subst hgo'
        have hsz := hac
        obtain ⟨t1, t2, t3, rfl⟩ := three hv
        refine kk ?_
        clear kk GG
        refine wpAny_bind (slice_b (s := { s₀ with heap := h, toks := tk }) hb ?_)
        refine wpAny_bind (wpAny_seqItems hL rfl ?_)
        rw [if_neg (by simp)]
        refine wpAny_bind ?_
        rw [hc0]
        refine hjoin _ h _ p1 p2 p3 _ t1 t2 t3 c _ _ hL (hsz _ (by simp)) (hsz _ (by simp)) (hsz _ (by simp)) ?_
        rw [if_neg Bool.false_ne_true]
        exact wpAny_pure (hR _ _ _ hk (Nat.le_trans htk (by show tk ≤ tk + 1 + 1; omega)))
end
end Mine
namespace Mine
open PySem PySem.W PySem.Calls PyProof.Rows
open PySem.Builtin PySem.Builtin.Bytes

theorem take_eq {id : String} {b : Array UInt8} {t : Tok} : takeBufferQuiet? id (.bytes b t) 0 = pure (some (b, none)) := by
  unfold takeBufferQuiet? takeBuffer?
  rw [KBy.special_eq KBy.look_buffer, KBy.own_buffer]
  have e : (0 == fullReadOnly) = false := rfl
  rw [e, KBy.buffer_eq]
  rfl
theorem join_items {M : Model} {A : Around} {E : Value → Shared → Prop} {s : Shared} {Q : Value → Shared → Prop} {L : Addr} {xs : Array Value} {c : Nat} (hL : s.heap.get? L = some (listOf xs c)) (hq : Q (.ref L) s) : wpAny M A (joinItems (.ref L)) Q E s := by
  unfold joinItems
  exact wpAny_bind (wpAny_typeOf (T := "list") ⟨_, hL, rfl⟩ (wpAny_ite_true rfl (wpAny_pure hq)))
theorem join_walk {prog : Program} {w : World} {A : Around} {s : Shared} {Q E : Value → Shared → Prop} {L : Addr} {p1 p2 p3 : Array UInt8} {t0 t1 t2 t3 : Tok} {c : Nat} (hL : s.heap.get? L = some (listOf #[.bytes p1 t1, .bytes p2 t2, .bytes p3 t3] c)) (h1 : p1.size ≤ 1000) (h2 : p2.size ≤ 1000) (h3 : p3.size ≤ 1000)
    (hq : Q (.bytes (joined #[] [p1, p2, p3]) s.toks) { s with toks := s.toks + 1 }) : wpAny (model prog w) A (call (.builtin "bytes.join") [.bytes #[] t0, .ref L]) Q E s := by
  obtain ⟨xs, hxs⟩ : ∃ xs : Array Value, xs = #[.bytes p1 t1, .bytes p2 t2, .bytes p3 t3] := ⟨_, rfl⟩
  rw [← hxs] at hL
  have hsz : xs.size = 3 := by rw [hxs]; rfl
  refine wpAny_call (codeAny_call_builtin slot_bytes_join.plain entry_bytes_join (slot_bytes_join.check _ _ _ _ _ _ _ _ (typeIs_bytes _ _ _) (args_bytes_join_2 _ _) ?_))
  unfold «bytes.join» joinM
  refine wpAny_bind (wpAny_pure ?_)
  refine wpAny_bind (join_items hL ?_)
  refine wpAny_bind (wpAny_seqItems hL rfl ?_)
  dsimp only
  rw [Std.Legacy.Range.forIn_eq_forIn_range', if_pos (show (Kind.bytes == Kind.bytes) = true from rfl)]
  have hr : List.range' [:xs.size].start [:xs.size].size [:xs.size].step = [0, 1, 2] := by rw [hsz]; rfl
  rw [hr]
  generalize hf : (fun (i : Nat) (__s : Array (Array UInt8) × List (Value × Option Value)) => _ : Nat → Array (Array UInt8) × List (Value × Option Value) → Sem (ForInStep (Array (Array UInt8) × List (Value × Option Value)))) = f
  have step : ∀ (i : Nat) (p : Array UInt8) (t : Tok) (parts : Array (Array UInt8)) (taken : List (Value × Option Value)) (Q' : ForInStep (Array (Array UInt8) × List (Value × Option Value)) → Shared → Prop) (E' : Value → Shared → Prop), xs.getD i .none = .bytes p t → taken.any (fun x => x.1.onHeap) = false → Q' (.yield (parts.push p, taken ++ [(.bytes p t, none)])) s → wpAny (model prog w) A.in1 (f i (parts, taken)) Q' E' s := by
    intro i p t parts taken Q' E' hx ht hq'
    rw [← hf]
    dsimp only
    refine wpAny_bind (wpAny_seqItems hL rfl ?_)
    dsimp only
    rw [if_neg (by rw [ht]; decide)]
    rw [hx]
    refine wpAny_bind (wpAny_holding ?_)
    rw [take_eq]
    refine wpAny_pure ?_
    refine wpAny_bind (wpAny_seqItems hL rfl ?_)
    dsimp only
    rw [if_neg (by simp)]
    exact wpAny_pure hq'
  clear hf
  have key : ∀ (k : Array (Array UInt8) × List (Value × Option Value) → Sem PySem.Fin) (Q' : PySem.Fin → Shared → Prop) (E' : Value → Shared → Prop), wpAny (model prog w) A.in1 (k (#[p1, p2, p3], [(.bytes p1 t1, none), (.bytes p2 t2, none), (.bytes p3 t3, none)])) Q' E' s → wpAny (model prog w) A.in1 (forIn [0, 1, 2] (#[], []) f >>= k) Q' E' s := by
    intro k Q' E' h
    rw [List.forIn_cons]
    refine wpAny_bind (wpAny_bind (step 0 p1 t1 _ _ _ _ (by rw [hxs]; rfl) rfl ?_))
    dsimp only
    rw [List.forIn_cons]
    refine wpAny_bind (step 1 p2 t2 _ _ _ _ (by rw [hxs]; rfl) rfl ?_)
    dsimp only
    rw [List.forIn_cons]
    refine wpAny_bind (step 2 p3 t3 _ _ _ _ (by rw [hxs]; rfl) rfl ?_)
    exact wpAny_pure h
  subst hxs
  refine key _ _ _ ?_
  refine wpAny_bind (wpAny_pure ?_)
  have h16 : (16777216 : Nat) ≤ sizeLine := Nat.le_of_eq sizeLine_eq.symm
  have hj : (joined #[] [p1, p2, p3]).size ≤ 3000 := by simp [joined]; omega
  rw [if_neg (by
    rw [KBy.tooLong_not]
    · decide
    · simp
      omega)]
  refine wpAny_bind (wpAny_mkBytes ?_ (Nat.le_trans hj (by omega)))
  refine wpAny_bind (wpAny_holding (wpAny_point ?_))
  refine wpAny_bind ?_
  unfold joinLetGo
  refine wpAny_bind (wpAny_letGo ?_)
  unfold joinLetGo
  refine wpAny_bind (wpAny_letGo ?_)
  unfold joinLetGo
  refine wpAny_bind (wpAny_letGo ?_)
  unfold joinLetGo
  exact wpAny_pure (wpAny_pure hq)
end Mine
namespace Mine
open PySem PySem.W PySem.Calls PyProof.Rows
open PySem.Builtin PySem.Builtin.Bytes

theorem tl_bytes_call : typeLookup (.type "bytes") "__call__" = pure none := by rw [typeLookup_type, builtinLookup_eq_fast]; kernel_rfl
theorem re_named (a b : Value) : Re.reNamed "re.Pattern.sub" "sub" ["repl", "string", "count"] 2 [a, b] [] = pure [some a, some b, none] := by rfl

noncomputable def subB (code : Array Nat) (b : Array UInt8) : Option (Array UInt8) := if b.size ≤ 1000 then match subGo code b 12 0 0 false [] with
  | some [p1, p2, p3] => some (joined #[] [p1, p2, p3])
  | _ => none else none

theorem sub_walk {prog : Program} {w : World} {A : Around} {s : Shared} {Q E : Value → Shared → Prop} {P T : Addr} {fs ws : Array Value} {n : Nat} {b r : Array UInt8} {t u : Tok} (hP : PatH s.heap P T fs ws n) (hs : subB ((ws.map Re.reRawOf).map (·.toNat)) b = some r)
    (hq : ∀ h' tk' t', (∀ b o, s.heap.get? b = some o → h'.get? b = some o) → s.toks ≤ tk' → Q (.bytes r t') { s with heap := h', toks := tk' }) : wpAny (model prog w) A (call (.builtin "re.Pattern.sub") [.ref P, .bytes #[] u, .bytes b t]) Q E s := by
  unfold subB at hs
  refine hide fun GG kk => ?_
  split at hs
  case isFalse => cases hs
  rename_i hb
  split at hs
  case h_2 => cases hs
  rename_i p1 p2 p3 hgo
  cases hs
  refine kk ?_
  clear kk GG
  refine wpAny_call (codeAny_call_builtin slot_pat_sub.plain entry_pat_sub (slot_pat_sub.check _ _ _ _ _ _ _ _ (T := "re.Pattern") ⟨_, hP.h1, rfl⟩ (args_pat_sub_3 _ _ _) ?_))
  unfold «re.Pattern.sub» Re.reSubstitute
  dsimp only
  rw [re_named]
  refine wpAny_bind (wpAny_pure ?_)
  dsimp only
  refine wpAny_bind (wpAny_pure ?_)
  rw [KBy.special_eq tl_bytes_call]
  refine wpAny_bind (wpAny_pure ?_)
  rw [if_neg (by decide)]
  refine wpAny_bind (wpAny_pure ?_)
  dsimp only
  rw [KBy.quiet_eq]
  refine wpAny_bind (wpAny_pure ?_)
  dsimp only
  refine wpAny_bind (wpAny_pure ?_)
  rw [if_neg (by decide)]
  rw [if_pos (by simp)]
  refine wpAny_bind (wpAny_pure ?_)
  dsimp only
  refine wpAny_bind (wpAny_holding (whole_target hP ?_))
  rw [if_neg (by decide)]
  refine wpAny_bind (wpAny_newList ?_ (Nat.zero_le _))
  refine wpAny_pure ⟨plainId_quiet plain_pat_subloop _, ?_⟩
  have hLn : s.heap.get? s.heap.objs.size = none := get_size_none _
  refine sub_loop (s₀ := s) hb hP hLn (fun A' h tk p1 p2 p3 t0 t1 t2 t3 c Q' E' e s1 s2 s3 hq' => join_walk (s := { s with heap := h, toks := tk }) e s1 s2 s3 hq') 12 0 0 false [] p1 p2 p3 0 _ s.toks [] 0 hgo (fun _ _ e => Heap.get?_push_of_some _ e) (Heap.get?_push_size _ rfl) .nil (fun _ h => nomatch h) (Nat.le_refl _) fun h' tk' t' hk htk => ?_
  exact hq h' tk' t' hk htk
end Mine
namespace Mine
open PySem PySem.W PySem.Calls PyProof.Rows
open PySem.Builtin

noncomputable def qcode : Array Nat := #[14, 8, 1, 2, 4294967295, 1, 1, 34, 0, 16, 34, 28, 22, 0, 4294967295, 7, 11, 13, 7, 21, 16, 34, 16, 92, 0, 15, 8, 6, 16, 92, 2, 15, 2, 0, 1, 16, 34, 1]
noncomputable def PatOk (W : Wd) : Prop := ∃ P T fs ws n, W.mg "_quoted" = some (.ref P) ∧ PatH W.hB P T fs ws n ∧ P ≠ W.PT ∧ T ≠ W.PT ∧ (ws.map Re.reRawOf).map (·.toNat) = qcode
noncomputable def eSub (f : DE) : DE := fun σ => match f σ with
  | some (.byt b) => match subB qcode b with
    | some r => some (.byt r)
    | none => none
  | _ => none
section
variable {W : Wd} {n : Nat} {sc : Scope}
theorem SE_sub (G : Good W) (hp : PatOk W) {f : DE} {e : Expr} {k : Nat} {np p2 apos pos : Pos} (hk : sc.names.lookup ("_quoted" : Str) = some .globalImplicit) (he : SE W n sc f e)
    (hfew : ∀ env, ((backTo pos (starEach [.Constant (.bytes []) k p2, e] env)).all (fun x => !x.1) && (backToKw pos (keywordEach [] env)).all (fun x => x.1.isSome) && decide ([Expr.Constant (.bytes []) k p2, e].length + ([] : List Keyword).length + (if ([] : List Keyword).isEmpty then 0 else 1) < 30)) = true)
    (hline : (apos.endLine == pos.line) = true) (hst : ∀ env, starEach [e] env = [(false, eval e env)] := by intro env; rfl) : SE W n sc (eSub f) (.Call (.Attribute (.Name "_quoted" np) "sub" apos) [.Constant (.bytes []) k p2, e] [] pos) := by
  intro A env σ m K s d E hs hf ok R rm
  unfold eSub at hf
  refine hide fun GG kk => ?_
  split at hf
  case h_2 => cases hf
  rename_i b q1
  split at hf
  case h_2 => cases hf
  rename_i r q2
  cases hf
  obtain ⟨P, T, fs, ws, n', hg, hH, pP, pT, hcode⟩ := hp
  refine kk ?_
  clear kk GG
  have sls : SLs W n sc (aCons (eLit (.byt ([] : List UInt8).toArray)) (aCons f aNil)) [.Constant (.bytes []) k p2, e] := SLs_cons SE_byt (SLs_cons he SLs_nil (fun env => hst env)) (fun _ => rfl)
  refine wpAny_Call_method_late (by rfl) (hfew env) hline rfl (wpAny_Name ?_ (by kernel_rfl))
  rw [loadName_read R.kind (by rw [Env.kindOf, hs]; exact hk)]
  refine loadGlobal_global (by rw [R.gl]; exact ok.g G) hg ?_
  refine ⟨"re.Pattern", "re.Pattern.sub", plainAttrs_pat, slot_pat_sub, type_pat_sub, ⟨_, ok.keepB G pP hH.h1, rfl⟩, fun a h => ?_, ?_⟩
  · cases h
    exact ⟨_, ok.keepB G pP hH.h1, rfl⟩
  · refine callWith_builtin (sls.1 _ _) (evalArgs_of (sls.1 _ _) (wpAny_mono (sls.2.2 A env σ m K s [.byt #[], .byt b] E pos hs (by unfold aCons; simp only [q1]; rfl) ok R rm) (fun vs s₂ ⟨K₂, x₂, i₂⟩ => ?_) fun _ _ h => h))
    refine hide fun GG kk => ?_
    obtain ⟨v1, v2, rfl, i1, i2⟩ := i₂.inv2
    cases i1
    cases i2
    refine kk ?_
    clear kk GG
    have ok₂ := x₂.ok
    refine sub_walk (P := P) (T := T) (fs := fs) (ws := ws) (n := n') ⟨ok₂.keepB G pP hH.h1, hH.h2, hH.h3, hH.h4, ok₂.keepB G pT hH.h5⟩ (by rw [hcode]; exact q2) fun h' tk' t' hk' htk => ?_
    exact ⟨K₂, x₂.trans (Ext.same ok₂ hk' htk), .byt _ _⟩
end
noncomputable def den__paren_depth : DS :=
  (sThen (sAsg (.one 21) (eSub (eVar 21)))
  (sThen (sRet (eBin .sub (lE (eBin .add (lVar 22) (lE (eMeth countD (eVar 21) (aCons (eLit (.byt ([40] : List UInt8).toArray)) aNil))))) (lE (eMeth countD (eVar 21) (aCons (eLit (.byt ([41] : List UInt8).toArray)) aNil)))))
  sNil))
set_option maxHeartbeats 4000000 in
theorem ss__paren_depth {W : Wd} (GW : Good W) (NM : Nms W) (hpat : PatOk W) : Ss W 0 (fScope (stAt 12)) (den__paren_depth) (fBody (stAt 12)) :=
  (Ss_cons GW (S1_asg (i := 21) GW (SE_sub GW hpat (by kernel_rfl) (vE (i := 21) (by kernel_rfl) (by kernel_rfl)) (fun _ => rfl) rfl) (by kernel_rfl) (by kernel_rfl) (fun _ _ => rfl))
  (Ss_cons GW (S1_ret (SE_bin (op := .sub) GW (SE.toL (SE_bin (op := .add) GW (vL (i := 22) (by kernel_rfl) (by kernel_rfl)) (SE.toL (SE_methB slot_bytes_count type_bytes_count count_ok count_byt (vE (i := 21) (by kernel_rfl) (by kernel_rfl)) (SLs_cons SE_byt SLs_nil (fun _ => rfl)) (fun _ => rfl) (fun _ => rfl) rfl)))) (SE.toL (SE_methB slot_bytes_count type_bytes_count count_ok count_byt (vE (i := 21) (by kernel_rfl) (by kernel_rfl)) (SLs_cons SE_byt SLs_nil (fun _ => rfl)) (fun _ => rfl) (fun _ => rfl) rfl))))
  Ss_nil))
noncomputable def ps__paren_depth : List Nat := [21, 22]

end Mine
namespace Mine
open PySem PySem.W PySem.Calls PyProof.Rows
open PySem.Builtin

/-! zip over two tuples -/
section
variable {prog : Program} {w : World} {A : Around} {E : Value → Shared → Prop} {s : Shared}

theorem nx_item {it t : Addr} {i : Nat} {items : Array Value} {x : Value} {Q : Value → Shared → Prop} (hit : s.heap.IsTupleIter it t i) (ht : s.heap.IsTuple t items) (hx : items[i]? = some x)
    (hQ : ∀ h', h'.IsTupleIter it t (i + 1) → Heap.SameBut it s.heap h' → Q x { s with heap := h' }) : wpAny (model prog w) A (SmallTypes.nextOf (.ref it)) Q E s := by
  have hT := hit.typeIs
  refine hide fun GG kk => ?_
  obtain ⟨o, ho, hc, hd⟩ := hit
  obtain ⟨ot, hot, _, nt, hdt⟩ := ht
  refine kk ?_
  clear kk GG
  unfold SmallTypes.nextOf
  refine wpAny_bind (wpAny_callSpecial?_slot (name := Str.ofString "__next__") hT F.slot_tuple_iterator_next (wpAny_call_entry F.slot_tuple_iterator_next hT F.entry_tuple_iterator_next ?_ (F.args_tuple_iterator_next_1 _)))
  show wpAny _ _ (field (.ref it) 0 >>= _) _ _ s
  refine wpAny_bind (wpAny_field ho hd (x := .ref t) rfl ?_)
  show wpAny _ _ (if (Value.ref t == Value.none) = true then _ else _) _ _ s
  rw [if_neg (show ¬ ((Value.ref t == Value.none) = true) from Bool.false_ne_true)]
  show wpAny _ _ (field (.ref it) 1 >>= _) _ _ s
  refine wpAny_bind (wpAny_field ho hd (x := .int i 0) rfl ?_)
  show wpAny _ _ (seqItems? (.ref t) >>= _) _ _ s
  refine wpAny_bind (wpAny_seqItems hot hdt ?_)
  simp only [Int.toNat_natCast, hx]
  refine wpAny_bind (wpAny_setField ho hd (by simp) (wpAny_pure ⟨x, rfl, wpAny_pure (hQ _ ⟨_, Heap.get?_update_self _ ho (Obj.isFreed_of_fields (Obj.data_mapFields hd _)), (Obj.cls_mapFields ..).trans hc, ?_⟩ (Heap.SameBut.update ..))⟩))
  rw [Obj.data_mapFields hd]
  simp [rawInt]

theorem nx_end {it t : Addr} {i : Nat} {items : Array Value} {Q : Value → Shared → Prop} (hh : A.handled = none) (hit : s.heap.IsTupleIter it t i) (ht : s.heap.IsTuple t items) (hx : items[i]? = none)
    (hE : ∀ h' e, Heap.ExtBut it s.heap h' → (∃ o, h'.get? e = some o ∧ o.cls = .type "StopIteration") → E (.ref e) { s with heap := h' }) : wpAny (model prog w) A (SmallTypes.nextOf (.ref it)) Q E s := by
  have hT := hit.typeIs
  refine hide fun GG kk => ?_
  obtain ⟨o, ho, hc, hd⟩ := hit
  obtain ⟨ot, hot, _, nt, hdt⟩ := ht
  refine kk ?_
  clear kk GG
  unfold SmallTypes.nextOf
  refine wpAny_bind (wpAny_callSpecial?_slot (name := Str.ofString "__next__") hT F.slot_tuple_iterator_next (wpAny_call_entry F.slot_tuple_iterator_next hT F.entry_tuple_iterator_next ?_ (F.args_tuple_iterator_next_1 _)))
  show wpAny _ _ (field (.ref it) 0 >>= _) _ _ s
  refine wpAny_bind (wpAny_field ho hd (x := .ref t) rfl ?_)
  show wpAny _ _ (if (Value.ref t == Value.none) = true then _ else _) _ _ s
  rw [if_neg (show ¬ ((Value.ref t == Value.none) = true) from Bool.false_ne_true)]
  show wpAny _ _ (field (.ref it) 1 >>= _) _ _ s
  refine wpAny_bind (wpAny_field ho hd (x := .int i 0) rfl ?_)
  show wpAny _ _ (seqItems? (.ref t) >>= _) _ _ s
  refine wpAny_bind (wpAny_seqItems hot hdt ?_)
  simp only [Int.toNat_natCast, hx]
  refine wpAny_bind (wpAny_rule (wpAny_bind (wpAny_setField ho hd (by simp) ?_)))
  show wpAny _ _ (newExc (.type "StopIteration") [] >>= _) _ _ _
  refine wpAny_bind ?_
  simp only [newExc, newTuple]
  refine wpAny_bind (wpAny_newObj_type ?_ (by size_fits))
  refine wpAny_bind (m := firstArgMember _ _) (wpAny_of_eq (a := Value.none) (by first | rfl | (simp only [firstArgMember]; rfl)) ?_)
  refine wpAny_newObj_type ?_ (by size_fits)
  simp only [raiseNew]
  refine wpAny_bind (wpAny_handled ?_)
  rw [show A.in1.handled = none from hh]
  refine wpAny_bind (wpAny_pure (wpAny_throw ?_))
  exact hE _ _ (((Heap.SameBut.update ..).extBut.push _).push _) ⟨_, Heap.get?_push_size _ rfl, rfl⟩

/-- a zip over two tuples, both drawn k times -/
structure Zp (h : Heap) (z TI TO i1 i2 l1 l2 : Addr) (f0 : Value) (k : Nat) (xs ys : Array Value) : Prop where
  z : IsZip h z TI TO f0
  ti : IsPair h TI (.ref i1) (.ref i2)
  to : ∃ a b, IsPair h TO a b
  n1 : h.IsTupleIter i1 l1 k
  n2 : h.IsTupleIter i2 l2 k
  s1 : h.IsTuple l1 xs
  s2 : h.IsTuple l2 ys

theorem zp_item {z TI TO i1 i2 l1 l2 : Addr} {k : Nat} {xs ys : Array Value} {x y : Value} {Q : Option Value → Shared → Prop} (D : ZipApart z TI TO i1 i2 l1 l2) (Z : Zp s.heap z TI TO i1 i2 l1 l2 .none k xs ys) (hx : xs[k]? = some x) (hy : ys[k]? = some y)
    (hQ : ∀ h', Zp h' z TI TO i1 i2 l1 l2 (rawInt s.heap.objs.size) (k + 1) xs ys → IsPair h' s.heap.objs.size x y → (∀ c o, c ≠ z → c ≠ TO → c ≠ i1 → c ≠ i2 → s.heap.get? c = some o → h'.get? c = some o) → Q (some (.ref s.heap.objs.size)) { s with heap := h' }) :
    wpAny (model prog w) A (pyNext (.ref z)) Q E s := by
  obtain ⟨hz, hti, ⟨a, b, hto⟩, hn1, hn2, hs1, hs2⟩ := Z
  have hT : s.TypeIs (.ref z) "zip" := ⟨_, hz, rfl⟩
  unfold pyNext
  refine wpAny_bind (wpAny_attempt (wpAny_callSpecial?_slot (name := Str.ofString "__next__") hT F.slot_zip_next (wpAny_call_entry F.slot_zip_next hT F.entry_zip_next ?_ (F.args_zip_next_1 _))))
  show wpAny _ _ (field (.ref z) 2 >>= _) _ _ _
  refine wpAny_bind (wpAny_field hz rfl (x := .bool false) rfl ?_)
  show wpAny _ _ (field (.ref z) 3 >>= _) _ _ _
  refine wpAny_bind (wpAny_field hz rfl (x := .ref TI) rfl (wpAny_bind (wpAny_seqItems hti rfl ?_)))
  show wpAny _ _ (SmallTypes.ownedTupleIsFree (.ref z) >>= _) _ _ _
  unfold SmallTypes.ownedTupleIsFree
  refine wpAny_bind (wpAny_bind (wpAny_field hz rfl (x := .none) rfl (wpAny_pure ?_)))
  simp only [if_true]
  refine wpAny_bind (wpAny_rule (wpAny_bind (wpAny_field hz rfl (x := .ref TO) rfl ?_)))
  refine wpAny_bind (wpAny_setField_rec hz (by simp) fun h₁ hz₁ e₁ => ?_)
  replace hz₁ : IsZip h₁ z TI TO .ellipsis := hz₁
  refine wpAny_bind ?_
  simp only [List.zipIdx_cons, List.zipIdx_nil, List.forIn_cons, List.forIn_nil]
  -- the first
  refine wpAny_bind (wpAny_bind (wpAny_onRaise ?_))
  show wpAny _ _ (SmallTypes.nextOf (.ref i1) >>= _) _ _ _
  refine wpAny_bind (nx_item (hn1.extBut e₁.extBut D.i1z) (hs1.extBut e₁.extBut D.l1z) hx fun h₂ m1 e₂ => wpAny_pure ?_)
  have to₂ : IsPair h₂ TO a b := e₂.extBut _ _ D.TOi1 (e₁.extBut _ _ D.TOz hto)
  refine wpAny_bind (wpAny_seqItems to₂ rfl (wpAny_bind (wpAny_updateSeq_pair to₂ fun h₃ to₃ e₃ => ?_)))
  replace to₃ : IsPair h₃ TO x b := to₃
  refine wpAny_bind (wpAny_letGo (wpAny_pure ?_))
  -- the second
  refine wpAny_bind (wpAny_bind (wpAny_onRaise ?_))
  show wpAny _ _ (SmallTypes.nextOf (.ref i2) >>= _) _ _ _
  refine wpAny_bind (nx_item (((hn2.extBut e₁.extBut D.i2z).extBut e₂.extBut D.i12.symm).extBut e₃.extBut D.TOi2.symm) (((hs2.extBut e₁.extBut D.l2z).extBut e₂.extBut D.l2i1).extBut e₃.extBut D.l2TO) hy fun h₄ m2 e₄ => wpAny_pure ?_)
  have to₄ : IsPair h₄ TO x b := e₄.extBut _ _ D.TOi2 to₃
  refine wpAny_bind (wpAny_seqItems to₄ rfl (wpAny_bind (wpAny_updateSeq_pair to₄ fun h₅ to₅ e₅ => ?_)))
  replace to₅ : IsPair h₅ TO x y := to₅
  refine wpAny_bind (wpAny_letGo (wpAny_pure (wpAny_pure ?_)))
  -- handed out
  refine wpAny_bind (wpAny_seqItems to₅ rfl (wpAny_bind (wpAny_newTuple ?_)))
  have up5 : ∀ c o, c ≠ z → c ≠ TO → c ≠ i1 → c ≠ i2 → s.heap.get? c = some o → h₅.get? c = some o := fun c o c1 c2 c3 c4 e =>
    e₅.extBut _ _ c2 (e₄.extBut _ _ c4 (e₃.extBut _ _ c2 (e₂.extBut _ _ c3 (e₁.extBut _ _ c1 e))))
  have sz : h₅.objs.size = s.heap.objs.size := by rw [e₅.1, e₄.1, e₃.1, e₂.1, e₁.1]
  have z5 : IsZip h₅ z TI TO .ellipsis := e₅.extBut _ _ D.TOz.symm (e₄.extBut _ _ D.i2z.symm (e₃.extBut _ _ D.TOz.symm (e₂.extBut _ _ D.i1z.symm hz₁)))
  have m1' : h₅.IsTupleIter i1 l1 (k + 1) := ((m1.extBut e₃.extBut D.TOi1.symm).extBut e₄.extBut D.i12).extBut e₅.extBut D.TOi1.symm
  have m2' : h₅.IsTupleIter i2 l2 (k + 1) := m2.extBut e₅.extBut D.TOi2.symm
  have zlt : z < h₅.objs.size := Heap.lt_size z5
  show wpAny _ _ (SmallTypes.ownedTupleHandOut (.ref z) (.ref h₅.objs.size) >>= _) _ _ _
  unfold SmallTypes.ownedTupleHandOut
  have z6 : IsZip (h₅.push { cls := .type "tuple", data := .seq #[x, y] }) z TI TO .ellipsis := Heap.get?_push_of_some _ z5
  refine wpAny_bind (wpAny_bind (wpAny_setField_rec z6 (by simp) fun h₇ z7 e₇ => ?_))
  replace z7 : IsZip h₇ z TI TO (rawInt h₅.objs.size) := z7
  refine wpAny_setField_rec z7 (by simp) fun h₈ z8 e₈ => ?_
  replace z8 : IsZip h₈ z TI TO (rawInt h₅.objs.size) := z8
  have up : ∀ c o, c ≠ z → h₅.get? c = some o → h₈.get? c = some o := fun c o c1 e => e₈.extBut _ _ c1 (e₇.extBut _ _ c1 (Heap.get?_push_of_some _ e))
  have pr : IsPair h₈ h₅.objs.size x y := e₈.extBut _ _ (Nat.ne_of_gt zlt) (e₇.extBut _ _ (Nat.ne_of_gt zlt) (Heap.get?_push_size _ rfl))
  rw [sz] at z8 pr
  refine wpAny_pure ⟨_, rfl, ?_⟩
  rw [sz]
  have keep : ∀ c o, c ≠ z → c ≠ TO → c ≠ i1 → c ≠ i2 → s.heap.get? c = some o → h₈.get? c = some o := fun c o c1 c2 c3 c4 e => up c o c1 (up5 c o c1 c2 c3 c4 e)
  refine wpAny_pure (hQ h₈ ⟨z8, keep _ _ D.TIz D.TITO D.TIi1 D.TIi2 hti, ⟨x, y, up _ _ D.TOz to₅⟩, ?_, ?_, ?_, ?_⟩ pr keep)
  · obtain ⟨o, e, r⟩ := m1'; exact ⟨o, up _ o D.i1z e, r⟩
  · obtain ⟨o, e, r⟩ := m2'; exact ⟨o, up _ o D.i2z e, r⟩
  · obtain ⟨o, e, r⟩ := hs1; exact ⟨o, keep _ o D.l1z D.l1TO D.l1i1 D.l1i2 e, r⟩
  · obtain ⟨o, e, r⟩ := hs2; exact ⟨o, keep _ o D.l2z D.l2TO D.l2i1 D.l2i2 e, r⟩
end
end Mine
namespace Mine
open PySem PySem.W PySem.Calls PyProof.Rows
open PySem.Builtin

section
variable {prog : Program} {w : World} {A : Around} {E : Value → Shared → Prop} {s : Shared}

/-- both tuples end together -/
theorem zp_end {z TI TO i1 i2 l1 l2 : Addr} {k : Nat} {xs ys : Array Value} {Q : Option Value → Shared → Prop} (hh : A.handled = none) (D : ZipApart z TI TO i1 i2 l1 l2) (Z : Zp s.heap z TI TO i1 i2 l1 l2 .none k xs ys) (hx : xs[k]? = none)
    (hQ : ∀ h', (∀ c o, c ≠ z → c ≠ TO → c ≠ i1 → c ≠ i2 → s.heap.get? c = some o → h'.get? c = some o) → Q none { s with heap := h' }) : wpAny (model prog w) A (pyNext (.ref z)) Q E s := by
  obtain ⟨hz, hti, ⟨a, b, hto⟩, hn1, hn2, hs1, hs2⟩ := Z
  have hT : s.TypeIs (.ref z) "zip" := ⟨_, hz, rfl⟩
  unfold pyNext
  refine wpAny_bind (wpAny_attempt (wpAny_callSpecial?_slot (name := Str.ofString "__next__") hT F.slot_zip_next (wpAny_call_entry F.slot_zip_next hT F.entry_zip_next ?_ (F.args_zip_next_1 _))))
  show wpAny _ _ (field (.ref z) 2 >>= _) _ _ _
  refine wpAny_bind (wpAny_field hz rfl (x := .bool false) rfl ?_)
  refine wpAny_bind (wpAny_field hz rfl (x := .ref TI) rfl (wpAny_bind (wpAny_seqItems hti rfl ?_)))
  unfold SmallTypes.ownedTupleIsFree
  refine wpAny_bind (wpAny_bind (wpAny_field hz rfl (x := .none) rfl (wpAny_pure ?_)))
  simp only [if_true]
  refine wpAny_bind (wpAny_rule (wpAny_bind (wpAny_field hz rfl (x := .ref TO) rfl ?_)))
  refine wpAny_bind (wpAny_setField_rec hz (by simp) fun h₁ hz₁ e₁ => ?_)
  replace hz₁ : IsZip h₁ z TI TO .ellipsis := hz₁
  refine wpAny_bind ?_
  simp only [List.zipIdx_cons, List.zipIdx_nil, List.forIn_cons, List.forIn_nil]
  refine wpAny_bind (wpAny_bind (wpAny_onRaise ?_))
  refine wpAny_bind (nx_end hh (hn1.extBut e₁.extBut D.i1z) (hs1.extBut e₁.extBut D.l1z) hx fun h₂ e e₂ he => ?_)
  obtain ⟨oe, hoe, hce⟩ := he
  have hz₂ : IsZip h₂ z TI TO .ellipsis := e₂ _ _ D.i1z.symm hz₁
  have hez : e ≠ z := fun q => by subst q; rw [hz₂] at hoe; cases hoe; simp at hce
  refine wpAny_setField_rec hz₂ (by simp) fun h₃ _ e₃ => ?_
  refine wpAny_bind (wpAny_isInstance (T := "StopIteration") (b := true) ⟨oe, e₃.extBut _ _ hez hoe, hce⟩ isSubtype_stop ?_)
  exact wpAny_pure (hQ _ fun c o c1 _ c3 _ x => e₃.extBut _ _ c1 (e₂ _ _ c3 (e₁.extBut _ _ c1 x)))

theorem Zp.frame {h h' : Heap} {z TI TO i1 i2 l1 l2 : Addr} {f0 : Value} {k : Nat} {xs ys : Array Value} (Z : Zp h z TI TO i1 i2 l1 l2 f0 k xs ys) (hk : ∀ b ∈ [z, TI, TO, i1, i2, l1, l2], ∀ o, h.get? b = some o → h'.get? b = some o) : Zp h' z TI TO i1 i2 l1 l2 f0 k xs ys := by
  refine hide fun GG kk => ?_
  obtain ⟨hz, hti, ⟨a, b, hto⟩, ⟨o1, a1, r1⟩, ⟨o2, a2, r2⟩, ⟨o3, a3, r3⟩, ⟨o4, a4, r4⟩⟩ := Z
  refine kk ?_
  clear kk GG
  exact ⟨hk z (by simp) _ hz, hk TI (by simp) _ hti, ⟨a, b, hk TO (by simp) _ hto⟩, ⟨o1, hk i1 (by simp) _ a1, r1⟩, ⟨o2, hk i2 (by simp) _ a2, r2⟩, ⟨o3, hk l1 (by simp) _ a3, r3⟩, ⟨o4, hk l2 (by simp) _ a4, r4⟩⟩

theorem zp_walks (z TI TO i1 i2 l1 l2 : Addr) (D : ZipApart z TI TO i1 i2 l1 l2) (xs ys : Array Value) (hl : xs.size = ys.size) (hh : A.handled = none) :
    WalksU prog w A z [z, TI, TO, i1, i2, l1, l2] [z, TO, i1, i2] xs.size (fun i vals => ∃ x y, xs[i]? = some x ∧ ys[i]? = some y ∧ vals = #[x, y])
      (fun i h => Zp h z TI TO i1 i2 l1 l2 .none i xs ys) (fun i T h => Zp h z TI TO i1 i2 l1 l2 (rawInt T) (i + 1) xs ys ∧ T ≠ z ∧ T ≠ TO ∧ T ≠ i1 ∧ T ≠ i2) where
  sub := fun c hc => by
    simp only [List.mem_cons, List.not_mem_nil, or_false] at hc ⊢
    rcases hc with rfl | rfl | rfl | rfl <;> simp
  frame := fun i h h' Z hk => Z.frame hk
  item := fun i s Q E hi Z hQ => by
    have hy : i < ys.size := hl ▸ hi
    refine zp_item D Z (Array.getElem?_eq_getElem hi) (Array.getElem?_eq_getElem hy) fun h' Z' pr hk => ?_
    have lt : ∀ {c o}, s.heap.get? c = some o → s.heap.objs.size ≠ c := fun e => Nat.ne_of_gt (Heap.lt_size e)
    refine hide fun GG kk => ?_
    obtain ⟨hz, _, ⟨_, _, hto⟩, ⟨_, e1, _⟩, ⟨_, e2, _⟩, _, _⟩ := Z
    refine kk ?_
    clear kk GG
    refine hQ s.heap.objs.size #[xs[i], ys[i]] h' s.toks ⟨_, _, Array.getElem?_eq_getElem hi, Array.getElem?_eq_getElem hy, rfl⟩ ⟨_, pr, rfl, _, rfl⟩ ⟨Z', lt hz, lt hto, lt e1, lt e2⟩ fun c o hc e => ?_
    simp only [List.mem_cons, List.not_mem_nil, or_false, not_or] at hc
    exact hk c o hc.1 hc.2.1 hc.2.2.1 hc.2.2.2 e
  go := fun elts k pos i T s Q E hm hQ => by
    obtain ⟨Z, _⟩ := hm
    refine wpAny_letOwnedTupleGo_zip Z.z fun h' hz' hs' => hQ h' ?_ fun c o hc e => hs'.extBut _ _ (fun x => hc (by simp [x])) e
    refine hide fun GG kk => ?_
    obtain ⟨hz, hti, ⟨a, b, hto⟩, hn1, hn2, hs1, hs2⟩ := Z
    refine kk ?_
    clear kk GG
    exact ⟨hz', hs'.extBut _ _ D.TIz hti, ⟨a, b, hs'.extBut _ _ D.TOz hto⟩, hn1.extBut hs'.extBut D.i1z, hn2.extBut hs'.extBut D.i2z, hs1.extBut hs'.extBut D.l1z, hs2.extBut hs'.extBut D.l2z⟩
  apart := fun i T h hm hT => by
    refine hide fun GG kk => ?_
    obtain ⟨_, t1, t2, t3, t4⟩ := hm
    refine kk ?_
    clear kk GG
    simp only [List.mem_cons, List.not_mem_nil, or_false] at hT
    rcases hT with q | q | q | q
    · exact t1 q
    · exact t2 q
    · exact t3 q
    · exact t4 q
  done := fun s Q E Z hQ => zp_end hh D Z (Array.getElem?_eq_none (Nat.le_refl _)) fun h' hk => hQ h' s.toks fun c o hc e => by
    simp only [List.mem_cons, List.not_mem_nil, or_false, not_or] at hc
    exact hk c o hc.1 hc.2.1 hc.2.2.1 hc.2.2.2 e
  self := fun i s Q E Z hQ => wpAny_pyIter_zip Z.z hQ
end
end Mine
namespace Mine
open PySem PySem.W PySem.Calls PyProof.Rows
open PySem.Builtin

noncomputable abbrev tA (h : Heap) (l : Addr) : Heap := h.push { cls := .type "tuple_iterator", data := .fields #[.ref l, .int 0 0] }
noncomputable abbrev tB (h : Heap) (l1 l2 : Addr) : Heap := tA (tA h l1) l2
noncomputable abbrev tC (h : Heap) (l1 l2 : Addr) : Heap := (tB h l1 l2).push { cls := .type "tuple", data := .seq #[.ref h.objs.size, .ref (tA h l1).objs.size] }
noncomputable abbrev tD (h : Heap) (l1 l2 : Addr) : Heap := (tC h l1 l2).push { cls := .type "tuple", data := .seq #[.none, .none] }
noncomputable abbrev tE (h : Heap) (l1 l2 : Addr) : Heap := (tD h l1 l2).push { cls := .type "zip", data := .fields #[.none, .bool false, .bool false, .ref (tB h l1 l2).objs.size, .ref (tC h l1 l2).objs.size] }

theorem meets_zipT (l1 l2 : Addr) (xs ys : Array Value) : Meets (Builtin.«zip.__new__» ⟨[.type "zip", .ref l1, .ref l2], []⟩) (fun _ R s => s.heap.IsTuple l1 xs ∧ s.heap.IsTuple l2 ys ∧ R (.ok (.ret (.ref (tD s.heap l1 l2).objs.size))) { s with heap := tE s.heap l1 l2 }) :=
  .of_wp fun prog w A R s h => by
    obtain ⟨hp, g, d, tk, os⟩ := s
    obtain ⟨hl1, hl2, h⟩ := h
    have hsub := sub_zip
    have q1 : Heap.IsTuple (Shared.heap ⟨hp, g, d, tk, os⟩) l1 xs := hl1
    have q2 : Heap.IsTuple (Shared.heap ⟨hp.push { cls := .type "tuple_iterator", data := .fields #[.ref l1, .int 0 0] }, g, d, tk, os⟩) l2 ys := hl2.push _
    wp_walk using wpAny_pyIter_tuple q1, wpAny_pyIter_tuple q2
    exact ⟨_, rfl, h⟩

section
variable {prog : Program} {w : World} {A : Around} {E : Value → Shared → Prop} {s : Shared}
theorem call_zipT {l1 l2 : Addr} {xs ys : Array Value} {Q : Value → Shared → Prop} (h1 : s.heap.IsTuple l1 xs) (h2 : s.heap.IsTuple l2 ys)
    (hQ : ∀ h', Zp h' (s.heap.objs.size + 4) (s.heap.objs.size + 2) (s.heap.objs.size + 3) s.heap.objs.size (s.heap.objs.size + 1) l1 l2 .none 0 xs ys → h'.objs.size = s.heap.objs.size + 5 → (∀ c o, s.heap.get? c = some o → h'.get? c = some o) → Q (.ref (s.heap.objs.size + 4)) { s with heap := h' }) :
    wpAny (model prog w) A (call (.type "zip") [.ref l1, .ref l2]) Q E s := by
  refine callType_new F.called_zip (by decide) (F.typeCall_zip_2 _ _) (F.newCall_zip_2 _ _) (fun obj => F.args_object_init_3 obj _ _) F.entry_zip_new (meets_zipT l1 l2 xs ys) ⟨h1, h2, ?_⟩
  have a1 : (tA s.heap l1).objs.size = s.heap.objs.size + 1 := Heap.size_push ..
  have a2 : (tB s.heap l1 l2).objs.size = s.heap.objs.size + 2 := by rw [Heap.size_push, a1]
  have a3 : (tC s.heap l1 l2).objs.size = s.heap.objs.size + 3 := by rw [Heap.size_push, a2]
  have a4 : (tD s.heap l1 l2).objs.size = s.heap.objs.size + 4 := by rw [Heap.size_push, a3]
  have a5 : (tE s.heap l1 l2).objs.size = s.heap.objs.size + 5 := by rw [Heap.size_push, a4]
  have up : ∀ c o, s.heap.get? c = some o → (tE s.heap l1 l2).get? c = some o := fun c o x => Heap.get?_push_of_some _ (Heap.get?_push_of_some _ (Heap.get?_push_of_some _ (Heap.get?_push_of_some _ (Heap.get?_push_of_some _ x))))
  have g5 : (tE s.heap l1 l2).get? (tD s.heap l1 l2).objs.size = some _ := Heap.get?_push_size _ rfl
  have g4 : (tE s.heap l1 l2).get? (tC s.heap l1 l2).objs.size = some _ := Heap.get?_push_of_some _ (Heap.get?_push_size _ rfl)
  have g3 : (tE s.heap l1 l2).get? (tB s.heap l1 l2).objs.size = some _ := Heap.get?_push_of_some _ (Heap.get?_push_of_some _ (Heap.get?_push_size _ rfl))
  have g2 : (tE s.heap l1 l2).get? (tA s.heap l1).objs.size = some _ := Heap.get?_push_of_some _ (Heap.get?_push_of_some _ (Heap.get?_push_of_some _ (Heap.get?_push_size _ rfl)))
  have g1 : (tE s.heap l1 l2).get? s.heap.objs.size = some _ := Heap.get?_push_of_some _ (Heap.get?_push_of_some _ (Heap.get?_push_of_some _ (Heap.get?_push_of_some _ (Heap.get?_push_size _ rfl))))
  show _ ∧ _
  have z0 := g5
  rw [a2, a3, a4] at g5
  rw [a1, a2] at g3
  rw [a3] at g4
  rw [a1] at g2
  rw [a4]
  refine hide fun GG kk => ?_
  obtain ⟨o1, e1, r1⟩ := h1
  obtain ⟨o2, e2, r2⟩ := h2
  refine kk ?_
  clear kk GG
  exact ⟨⟨_, g5, rfl⟩, hQ _ ⟨g5, g3, ⟨_, _, g4⟩, ⟨_, g1, rfl, rfl⟩, ⟨_, g2, rfl, rfl⟩, ⟨o1, up _ _ e1, r1⟩, ⟨o2, up _ _ e2, r2⟩⟩ a5 up⟩
theorem zipT_apart {n l1 l2 : Addr} (h1 : l1 < n) (h2 : l2 < n) : ZipApart (n + 4) (n + 2) (n + 3) n (n + 1) l1 l2 := zipApart_new h1 h2
end
end Mine
namespace Mine
open PySem PySem.W PySem.Calls PyProof.Rows

/-- the code of add_callers and its table -/
structure CodeOk (W : Wd) : Prop where
  is : W.hB.IsCode W.PC W.PT #[]
  tab : W.hB.TableAt W.PC W.PT #[]
  ne : W.PC ≠ W.PT

section
variable {W : Wd} {A : Around} {E : Value → Shared → Prop} {s : Shared} {K : KM}
theorem Ok.codeAt (G : Good W) (C : CodeOk W) (ok : Ok W K s) : ∃ ps : Array Value, s.heap.IsCode W.PC W.PT ps ∧ s.heap.TableAt W.PC W.PT ps ∧ s.heap.get? W.PT = some (X.tableObj ps) ∧ TriplesOk ps.toList := by
  refine hide fun GG kk => ?_
  obtain ⟨more, hm, hp⟩ := ok.base.tab #[] (by obtain ⟨_, _, _, _, _, _, _, _, _, _, _, _, _, _, _, _, _, _, _, htr, _⟩ := C.is; exact htr) G.pt0
  rw [Array.empty_append] at hm hp
  obtain ⟨o, vs, file, tf, flags, tg, inF, text, tt, op, ho, hd, h11, h2, h7, h9, h10, hop, hpd, htr, hne⟩ := C.is
  obtain ⟨⟨oc, vc, hoc, hcc, hdc, h11c⟩, htP⟩ := C.tab
  refine kk ?_
  clear kk GG
  exact ⟨more, ⟨o, vs, file, tf, flags, tg, inF, text, tt, _, ok.keepB G C.ne ho, hd, h11, h2, h7, h9, h10, hp, rfl, hm, hne⟩, ⟨⟨oc, vc, ok.keepB G C.ne hoc, hcc, hdc, h11c⟩, hp⟩, hp, hm⟩

theorem gx_code (G : Good W) (C : CodeOk W) {env : Env} {pos : Pos} {q : Str} {scope : Scope} {Q : Value → Shared → Prop} (hc : env.code = .ref W.PC) (ok : Ok W K s)
    (hQ : ∀ c' h' tk, Ext W K s K { s with heap := h', toks := tk } → Heap.ExtBut W.PT s.heap h' → s.heap.objs.size ≤ h'.objs.size → Q c' { s with heap := h', toks := tk }) :
    wpAny (model W.prog W.w) A (genexprCode env pos q scope) Q E s := by
  obtain ⟨ps, hI, hT, hp, htr⟩ := ok.codeAt G C
  cases hf : codeAmong pos ps.toList with
  | some c' => exact wpAny_genexprCode_hit hc hI hf (hQ c' s.heap s.toks (.toks ok (Nat.le_refl _)) (fun _ _ _ e => e) (Nat.le_refl _))
  | none =>
    refine wpAny_with_toks (Nat.le_refl s.toks) (wpAny_genexprCodeX hc hI hT hf fun c' h' tk hx hge hlt hI' _ hT' _ => fun htk => ?_)
    have pl : W.LF ≠ W.PT := fun q => by have h1 := G.pt0; rw [← q, G.lf0] at h1; cases h1
    have hp' : h'.get? W.PT = some (X.tableObj (ps ++ #[rawInt pos.line, rawInt pos.col, .ref c'])) := hT'.2
    have htr' : TriplesOk (ps ++ #[rawInt pos.line, rawInt pos.col, .ref c']).toList := by
      obtain ⟨_, _, _, _, _, _, _, _, _, _, _, _, _, _, _, _, _, _, _, htr, _⟩ := hI'; exact htr
    have le : Le W s.heap h' := ⟨fun b o hb e => hx b o hb.1 e, fun ps' _ e => by
      have e1 : X.tableObj ps' = X.tableObj ps := Option.some.inj (e.symm.trans hp)
      simp only [X.tableObj, Obj.mk.injEq, Data.fields.injEq] at e1
      obtain rfl : ps' = ps := by simpa using e1
      exact ⟨_, htr', hp'⟩, fun o e => ⟨o.slots, hx _ _ pl e⟩⟩
    refine hQ (.ref c') h' tk { le := le, kk := fun _ _ e => e, ok := ⟨ok.base.trans le, fun a o e => hx a o (fun q => by rw [q, ok.pt] at e; cases e) (ok.sub a o e), ok.pt, ok.lf, ok.live.imp fun o e => ⟨hx _ _ pl e.1, e.2⟩, ok.b0, Nat.le_trans ok.tk htk⟩, fr := fun _ _ e => .inl e, os := rfl, gens := id, tk := htk } hx (Nat.le_trans hge (Nat.le_of_lt hlt))
end
end Mine
namespace Mine
open PySem PySem.W PySem.Calls PyProof.Rows

/-- tuple(i + j for i, j in zip(f, g)) -/
noncomputable def eGx (f g : DE) : DE := fun σ => match f σ, g σ with
  | some (.tup a), some (.tup c) => match addI a c with
    | some l => if l.length ≤ 1000 then some (.tup l) else none
    | none => none
  | _, _ => none
theorem addI_spec {W : Wd} {K : KM} : ∀ {a c l : List D} {xs ys : List Value}, addI a c = some l → AllD W K xs a → AllD W K ys c → xs.length = l.length ∧ ys.length = l.length ∧
    ∀ i, i < l.length → ∃ p q t u, xs[i]? = some (.int p t) ∧ ys[i]? = some (.int q u) ∧ l[i]? = some (.int (p + q))
  | [], [], l, xs, ys, h, hx, hy => by
    cases h; cases hx; cases hy
    exact ⟨rfl, rfl, fun i hi => absurd hi (Nat.not_lt_zero _)⟩
  | .int p :: a, .int q :: c, l, xs, ys, h, hx, hy => by
    unfold addI at h
    split at h
    · rename_i l' e
      cases h
      cases hx with
      | cons h1 r1 =>
        cases hy with
        | cons h2 r2 =>
          cases h1; cases h2
          obtain ⟨e1, e2, e3⟩ := addI_spec e r1 r2
          refine ⟨by simp [e1], by simp [e2], fun i hi => ?_⟩
          cases i with
          | zero => exact ⟨_, _, _, _, rfl, rfl, rfl⟩
          | succ i => simpa using e3 i (by simpa using hi)
    · cases h
  | [], _ :: _, _, _, _, h, _, _ => by simp [addI] at h
  | .none :: _, _, _, _, _, h, _, _ => by simp [addI] at h
  | .bool _ :: _, _, _, _, _, h, _, _ => by simp [addI] at h
  | .str _ :: _, _, _, _, _, h, _, _ => by simp [addI] at h
  | .byt _ :: _, _, _, _, _, h, _, _ => by simp [addI] at h
  | .tup _ :: _, _, _, _, _, h, _, _ => by simp [addI] at h
  | .lst _ :: _, _, _, _, _, h, _, _ => by simp [addI] at h
  | .dct _ _ :: _, _, _, _, _, h, _, _ => by simp [addI] at h
  | .cmpr _ :: _, _, _, _, _, h, _, _ => by simp [addI] at h
  | .int _ :: _, [], _, _, _, h, _, _ => by simp [addI] at h
  | .int _ :: _, .none :: _, _, _, _, h, _, _ => by simp [addI] at h
  | .int _ :: _, .bool _ :: _, _, _, _, h, _, _ => by simp [addI] at h
  | .int _ :: _, .str _ :: _, _, _, _, h, _, _ => by simp [addI] at h
  | .int _ :: _, .byt _ :: _, _, _, _, h, _, _ => by simp [addI] at h
  | .int _ :: _, .tup _ :: _, _, _, _, h, _, _ => by simp [addI] at h
  | .int _ :: _, .lst _ :: _, _, _, _, h, _, _ => by simp [addI] at h
  | .int _ :: _, .dct _ _ :: _, _, _, _, h, _, _ => by simp [addI] at h
  | .int _ :: _, .cmpr _ :: _, _, _, _, h, _, _ => by simp [addI] at h

theorem passing_all (n : Nat) : passing (fun _ => true) n 0 = List.range n := by
  unfold passing
  simp
end Mine
namespace Mine
open PySem PySem.W PySem.Calls PyProof.Rows

theorem allD_ints {W : Wd} {K : KM} : ∀ {vs : List Value} {l : List D}, vs.length = l.length → (∀ (j : Nat) (v : Value), vs[j]? = some v → ∃ t d, l[j]? = some (D.int d) ∧ v = Value.int d t) → AllD W K vs l
  | [], [], _, _ => .nil
  | v :: vs, d :: l, hl, h => by
    obtain ⟨t, x, h1, h2⟩ := h 0 v rfl
    have hd : d = .int x := by simpa using h1
    subst hd h2
    exact .cons (.int x t) (allD_ints (by simpa using hl) fun j v hj => by simpa using h (j + 1) v (by simpa using hj))
  | [], _ :: _, hl, _ => by simp at hl
  | _ :: _, [], hl, _ => by simp at hl

section
variable {W : Wd} {n : Nat} {sc : Scope}
theorem SE_gx (G : Good W) (C : CodeOk W) (hB : ∃ bm ob, BMod W.hB mainGlobals W.mg bm ob ∧ bm ≠ W.PT) (ht : W.mg "tuple" = none ∧ W.mb "tuple" = some (.type "tuple")) (hz : W.mg "zip" = none ∧ W.mb "zip" = some (.type "zip"))
    {f g : DE} {ea eb : Expr} {gs : Scope} {kt : Nat} {p1 p2 p3 pa pb pt q1 q2 q3 gp pos : Pos} (h51 : sc.names.lookup (nm 51) = some .local) (hkt : sc.names.lookup ("tuple" : Str) = some .globalImplicit) (hkz : sc.names.lookup ("zip" : Str) = some .globalImplicit)
    (hgk : gs.kind = .function) (hgc : gs.isCoroutine = false) (hgn : gs.names = [((".0" : Str), .local), (("i" : Str), .local), (("j" : Str), .local)]) (ha : SLs W n sc (aCons f (aCons g aNil)) [ea, eb])
    (hfold : ∀ env x, genFold (.Call (.Name "zip" p2) [ea, eb] [] p3) env x = pure x) :
    SE W n sc (eGx f g) (.Call (.Name "tuple" p1) [.GeneratorExp (.BinOp (.Name "i" q1) .Add (.Name "j" q2) q3) [⟨.Tuple [.Name "i" pa, .Name "j" pb] kt pt, .Call (.Name "zip" p2) [ea, eb] [] p3, [], 0⟩] gs gp] [] pos) := by
  intro A env σ m K s d E hs e ok R rm
  unfold eGx at e
  refine hide fun GG kk => ?_
  split at e
  case h_2 => cases e
  rename_i a c qa qc
  split at e
  case h_2 => cases e
  rename_i l hl
  split at e
  case isFalse => cases e
  rename_i hlen
  cases e
  refine kk ?_
  clear kk GG
  have hcode : env.code = .ref W.PC := R.cd (by rw [Env.kindOf, hs]; exact h51)
  refine Call_Name rfl (wpAny_Name ?_ (by decide +kernel))
  rw [loadName_read R.kind (by rw [Env.kindOf, hs]; exact hkt)]
  refine loadGlobal_builtin (by rw [R.gl]; exact ok.g G) ht.1 (by rw [R.bi]; exact ok.b G) ht.2 ?_
  refine PyProof.Rows.callWith_type (by rfl) (evalArgs_of (by rfl) (spliced_cons ?_))
  have hcl : closureFor gs env = pure [] := by
    unfold closureFor
    rw [hgn]
    rfl
  refine wpAny_with_toks (Nat.le_refl s.toks) (wpAny_GeneratorExp_walksQT rm.hh hgc hcl (by rw [hgn]; decide +kernel) (by rw [hgn]; decide +kernel) (by rw [hgn]; decide +kernel) (by rw [hgn]; decide +kernel) (by decide +kernel) hgk (by have := rm.dep; omega) ?_ (hfold env))
  refine call_type_name G hz.1 hz.2 hkz (by decide +kernel) ha hs (l := [.tup a, .tup c]) (by simp [aCons, aNil, qa, qc]) ok R rm fun vs K₁ s₁ x₁ i₁ => ?_
  refine hide fun GG kk => ?_
  obtain ⟨v, u, rfl, i, j⟩ := i₁.inv2
  have ok₁ := x₁.ok
  obtain ⟨bm, ob, B, pB⟩ := hB
  obtain ⟨a1, o1, vs1, n1, rfl, k1, c1, d1, al1⟩ := i.tup_inv
  obtain ⟨a2, o2, vs2, n2, rfl, k2, c2, d2, al2⟩ := j.tup_inv
  obtain ⟨e1, e2, e3⟩ := addI_spec hl al1 al2
  refine kk ?_
  clear kk GG
  have T1 : s₁.heap.IsTuple a1 vs1 := ⟨o1, ok₁.sub _ _ k1, c1, n1, d1⟩
  have T2 : s₁.heap.IsTuple a2 vs2 := ⟨o2, ok₁.sub _ _ k2, c2, n2, d2⟩
  refine call_zipT T1 T2 fun h₂ Z sz₂ kp₂ => ?_
  refine wpAny_pyIter_zip Z.z ?_
  have x₂ : Ext W K₁ s₁ K₁ { s₁ with heap := h₂ } := Ext.same (n := s₁.toks) ok₁ kp₂ (Nat.le_refl _)
  refine ⟨x₂.ok.nolim G, gx_code G C hcode x₂.ok fun code h₃ tk₃ x₃ hx₃ hs₃ => ?_⟩
  refine wpAny_builtinsFor (by rw [R.gl]; exact x₃.ok.g G) B.name B.ne (x₃.ok.keepB G pB B.obj) B.cls B.dict B.data ?_
  have l1 : a1 < s₁.heap.objs.size := by obtain ⟨o, e, _⟩ := T1; exact Heap.lt_size e
  have l2 : a2 < s₁.heap.objs.size := by obtain ⟨o, e, _⟩ := T2; exact Heap.lt_size e
  have D := zipT_apart l1 l2
  have pt : W.PT < s₁.heap.objs.size := by obtain ⟨_, _, e⟩ := ok₁.ptSome G; exact Heap.lt_size e
  have pfp : ∀ b ∈ [s₁.heap.objs.size + 4, s₁.heap.objs.size + 2, s₁.heap.objs.size + 3, s₁.heap.objs.size, s₁.heap.objs.size + 1, a1, a2], b ≠ W.PT :=
    zipAll (zipNe pt 4) (zipNe pt 2) (zipNe pt 3) (zipNe pt 0) (zipNe pt 1) (fun q => by rw [q, ok₁.pt] at k1; cases k1) (fun q => by rw [q, ok₁.pt] at k2; cases k2)
  have Z₃ := Z.frame (h' := h₃) fun b hb o e => hx₃ b o (pfp b hb) e
  have hfp : ∀ b ∈ [s₁.heap.objs.size + 4, s₁.heap.objs.size + 2, s₁.heap.objs.size + 3, s₁.heap.objs.size, s₁.heap.objs.size + 1, a1, a2], b < h₃.objs.size := by
    obtain ⟨zz, zti, ⟨_, _, zto⟩, ⟨_, zn1, _⟩, ⟨_, zn2, _⟩, ⟨_, zs1, _⟩, ⟨_, zs2, _⟩⟩ := Z₃
    exact zipAll (Heap.lt_size zz) (Heap.lt_size zti) (Heap.lt_size zto) (Heap.lt_size zn1) (Heap.lt_size zn2) (Heap.lt_size zs1) (Heap.lt_size zs2)
  have hcw : cStatics ∉ [s₁.heap.objs.size + 4, s₁.heap.objs.size + 3, s₁.heap.objs.size, s₁.heap.objs.size + 1] := by
    obtain ⟨_, hn, _⟩ := ok₁.nolim G
    exact zipOut hn.lt
  refine ⟨_, _, _, vs1.size, _, _, _, fun _ => true, fun i v => ∃ t d, l[i]? = some (.int d) ∧ v = .int d t, rfl, fun A' hA => zp_walks _ _ _ _ _ _ _ D vs1 vs2 (by rw [← Array.length_toList, ← Array.length_toList, e1, e2]) hA, fun i vals ⟨x, y, _, _, e⟩ => ⟨x, y, e⟩, Z₃, hfp, x₃.ok.nolim G, hcw, fun href hr => ?_, fun a h₅ tk gs' hgb ha5 hs5 hk5 WS GA htk5 => ?_⟩
  · refine ⟨fun A' E' i va vb s' m' hA hP hn hma hmb hk => ?_, fun A' E' i va vb s' m' hA hP hpz hn hma hmb hk => ?_⟩
    · rw [List.forIn_nil]
      exact wpAny_pure ⟨rfl, _, _, rfl, fun _ _ e => e⟩
    · obtain ⟨x, y, hx, hy, hv⟩ := hP
      have hv' : va = x ∧ vb = y := by simpa using hv
      refine hide fun GG kk => ?_
      obtain ⟨rfl, rfl⟩ := hv'
      have hi : i < l.length := by
        have := (Array.getElem?_eq_some_iff.mp hx).1
        rw [← Array.length_toList, e1] at this
        exact this
      obtain ⟨p, q, t, u, h1, h2, h3⟩ := e3 i hi
      rw [Array.getElem?_toList, hx] at h1
      rw [Array.getElem?_toList, hy] at h2
      cases h1; cases h2
      refine kk ?_
      clear kk GG
      refine wpAny_BinOp (wpAny_Name (wpAny_loadName_local (by exact hgk) (by show gs.names.lookup _ = _; rw [hgn]; decide +kernel) hn hma ?_) (by decide +kernel))
      refine (wpAny_Name (wpAny_loadName_local (by exact hgk) (by show gs.names.lookup _ = _; rw [hgn]; decide +kernel) hn hmb ?_) (by decide +kernel))
      exact wpAny_add_int ⟨⟨_, _, h3, rfl⟩, _, _, rfl, fun _ _ e => e⟩
  · refine spliced_nil ?_
    have hsl : (1000 : Nat) ≤ sizeLine := Nat.le_of_ble_eq_true rfl
    have hn0 : (passing (fun _ => true) vs1.size 0).length = l.length := by rw [passing_all, List.length_range, ← Array.length_toList, e1]
    have ha5' : (h₃.objs.size : Nat) < (a : Nat) := ha5
    refine call_tuple_gen (hsz := by rw [hn0]; exact Nat.le_trans hlen hsl) WS.in4_3 (fun i s' st => st.1.typeIs) GA ?_ (List.mem_cons_self ..) fun s' acc hm hacc => ?_
    · intro b hb
      rw [hs5]
      rcases List.mem_cons.mp hb with rfl | hb
      · exact Nat.lt_succ_self _
      · rcases List.mem_cons.mp hb with rfl | hb
        · exact Nat.lt_succ_of_lt ha5
        · exact Nat.lt_succ_of_lt (Nat.lt_trans (List.mem_range.mp hb) ha5)
    · have hsz₃ : s₁.heap.objs.size ≤ h₃.objs.size := Nat.le_trans (by show s₁.heap.objs.size ≤ h₂.objs.size; rw [sz₂]; exact Nat.le_add_right _ _) hs₃
      have out : ∀ b, b < s₁.heap.objs.size → b ∉ h₃.objs.size :: [s₁.heap.objs.size + 4, s₁.heap.objs.size + 3, s₁.heap.objs.size, s₁.heap.objs.size + 1] :=
        fun b hb => out1 (Nat.ne_of_lt (Nat.lt_of_lt_of_le hb hsz₃)) (zipOut hb)
      have last : ∀ b o, b < s₁.heap.objs.size → h₃.get? b = some o → s'.heap.get? b = some o := fun b o hb e => hm.heap b o (out b hb) (hk5 b o e)
      have x23 := x₂.trans x₃
      have le : Le W s₁.heap s'.heap := ⟨fun b o hb e => last b o (Heap.lt_size e) (x23.le.keep b o hb e), fun ps hp e => by
        obtain ⟨mo, h1, h2⟩ := x23.le.tab ps hp e
        exact ⟨mo, h1, last _ _ pt h2⟩, fun o e => by
        obtain ⟨sl, h1⟩ := x23.le.lf o e
        exact ⟨sl, last _ _ (Heap.lt_size e) h1⟩⟩
      have tk' : s.toks ≤ s'.toks := Nat.le_trans htk5 hm.toks
      have y : Ext W K s K₁ s' :=
        { le := x₁.le.trans le
          kk := x₁.kk
          ok := ⟨ok₁.base.trans le, fun b o e => le.keep b o ⟨fun q => by (rw [q, ok₁.pt] at e; cases e), fun q => by (rw [q, ok₁.lf] at e; cases e)⟩ (ok₁.sub b o e), ok₁.pt, ok₁.lf, by
            obtain ⟨o, e, hn⟩ := ok₁.live
            obtain ⟨sl, e'⟩ := le.lf o e
            exact ⟨_, e', hn⟩, ok₁.b0, Nat.le_trans ok.tk tk'⟩
          fr := x₁.fr
          os := (hm.os.trans x23.os).trans x₁.os
          gens := fun gb => AllBare.movedS (AllBare.push (x23.gens (x₁.gens gb)) hgb) hm
          tk := tk' }
      have z := Ext.push (n := s'.toks) (o := { cls := .type "tuple", data := .seq acc }) G y.ok (Nat.le_refl _)
      refine ⟨_, y.trans z, .tup (putK_self _ _ _) rfl rfl ?_⟩
      refine allD_ints (by rw [Array.length_toList, hacc.1, hn0]) fun j v hj => ?_
      rw [Array.getElem?_toList] at hj
      refine hide fun GG kk => ?_
      obtain ⟨i, hi, t, d, h1, h2⟩ := hacc.2 j v hj
      rw [passing_all] at hi
      have hij : i = j := by
        have := List.getElem?_eq_some_iff.mp hi
        obtain ⟨_, h⟩ := this
        simpa using h.symm
      subst hij
      refine kk ?_
      clear kk GG
      exact ⟨t, d, h1, h2⟩
end
end Mine
namespace Mine
open PySem PySem.W PySem.Calls PyProof.Rows

noncomputable def den_add_callers : DS :=
  (sThen (sNewD 51)
  (sThen (sFor (.many [96, 97]) (iItems (eVar 17)) (sThen (sSet 51 (eVar 96) (eVar 97))
  sNil))
  (sThen (sFor (.many [96, 97]) (iItems (eVar 18)) (sThen (sIf (bCmp .inn (lVar 96) (lVar 51)) (sThen (sIf (bVal (eIsT (eVar 97))) (sThen (sSet 51 (eVar 96) (eGx (eVar 97) (eIdx (lVar 51) (lVar 96))))
  sNil) (sThen (sAugSet 51 (eVar 96) (eVar 97))
  sNil))
  sNil) (sThen (sSet 51 (eVar 96) (eVar 97))
  sNil))
  sNil))
  (sThen (sTry (sRet (eVar 51)))
  sNil))))
set_option maxHeartbeats 4000000 in
theorem ss_add_callers {W : Wd} (GW : Good W) (NM : Nms W) (hcode : CodeOk W) (hbm : ∃ bm ob, BMod W.hB mainGlobals W.mg bm ob ∧ bm ≠ W.PT) : Ss W 0 (fScope (stAt 4)) (den_add_callers) (fBody (stAt 4)) :=
  (Ss_cons GW (S1_newD (i := 51) GW (by kernel_rfl) (by kernel_rfl))
  (Ss_cons GW (S1_for (p := (.many [96, 97])) GW (SI_items GW (vE (i := 17) (by kernel_rfl) (by kernel_rfl)) (fun _ => rfl) rfl) (fun _ _ => rfl) (.many (l := [96, 97]) (.cons ⟨⟨_, rfl⟩, Nat.blt_eq.mp (by kernel_rfl), (by kernel_rfl)⟩ (.cons ⟨⟨_, rfl⟩, Nat.blt_eq.mp (by kernel_rfl), (by kernel_rfl)⟩ .nil))) (Ss_cons GW (S1_set (i := 51) GW (vE (i := 96) (by kernel_rfl) (by kernel_rfl)) (vE (i := 97) (by kernel_rfl) (by kernel_rfl)) (by kernel_rfl) (by kernel_rfl) (nodebug (by kernel_rfl)) (fun _ => rfl))
  Ss_nil))
  (Ss_cons GW (S1_for (p := (.many [96, 97])) GW (SI_items GW (vE (i := 18) (by kernel_rfl) (by kernel_rfl)) (fun _ => rfl) rfl) (fun _ _ => rfl) (.many (l := [96, 97]) (.cons ⟨⟨_, rfl⟩, Nat.blt_eq.mp (by kernel_rfl), (by kernel_rfl)⟩ (.cons ⟨⟨_, rfl⟩, Nat.blt_eq.mp (by kernel_rfl), (by kernel_rfl)⟩ .nil))) (Ss_cons GW (S1_if GW (SB_cmp (op := .inn) (vL (i := 96) (by kernel_rfl) (by kernel_rfl)) (vL (i := 51) (by kernel_rfl) (by kernel_rfl)) rfl) (Ss_cons GW (S1_if GW (SB_val (SE_isT GW NM.isinstance.1 NM.isinstance.2 (by kernel_rfl) NM.tuple.1 NM.tuple.2 (by kernel_rfl) (vE (i := 97) (by kernel_rfl) (by kernel_rfl)) (fun _ => rfl)) (fun _ _ => rfl)) (Ss_cons GW (S1_set (i := 51) GW (vE (i := 96) (by kernel_rfl) (by kernel_rfl)) (SE_gx GW hcode hbm NM.tuple NM.zip (by kernel_rfl) (by kernel_rfl) (by kernel_rfl) rfl rfl rfl (SLs_cons (vE (i := 97) (by kernel_rfl) (by kernel_rfl)) (SLs_cons (SE_idx (vL (i := 51) (by kernel_rfl) (by kernel_rfl)) (vL (i := 96) (by kernel_rfl) (by kernel_rfl)) (fun _ _ => rfl)) SLs_nil (fun _ => rfl)) (fun _ => rfl)) (fun _ _ => rfl)) (by kernel_rfl) (by kernel_rfl) (nodebug (by kernel_rfl)) (fun _ => rfl))
  Ss_nil) (Ss_cons GW (S1_augset (i := 51) (j := 96) GW (vE (i := 97) (by kernel_rfl) (by kernel_rfl)) (by kernel_rfl) (by kernel_rfl) (nodebug (by kernel_rfl)) (vE (i := 96) (by kernel_rfl) (by kernel_rfl)))
  Ss_nil))
  Ss_nil) (Ss_cons GW (S1_set (i := 51) GW (vE (i := 96) (by kernel_rfl) (by kernel_rfl)) (vE (i := 97) (by kernel_rfl) (by kernel_rfl)) (by kernel_rfl) (by kernel_rfl) (nodebug (by kernel_rfl)) (fun _ => rfl))
  Ss_nil))
  Ss_nil))
  (Ss_cons GW (S1_try GW (S1_ret (vE (i := 51) (by kernel_rfl) (by kernel_rfl))))
  Ss_nil))))
noncomputable def ps_add_callers : List Nat := [17, 18]

end Mine
namespace Mine
open PySem PySem.W PySem.Calls PyProof.Rows

noncomputable def d__law_links : List D → Option D := fnOf [36, 37] (den__law_links)
set_option maxHeartbeats 8000000 in
theorem fn__law_links {W : Wd} (G : Good W) (NM : Nms W) (h : FunOk W 25 "_law_links" [36, 37]) : FnOk W 1 "_law_links" d__law_links := by
  obtain ⟨a, o, fd, hg, ho, hpt, hd, FD⟩ := h
  exact ⟨a, o, fd, hg, ho, hpt, hd, @call_ok _ G _ (by decide) _ _ _ _ _ _ _ rfl rfl rfl ho hpt hd FD (by kernel_rfl) (@ss__law_links _ G NM)⟩
noncomputable def d__law_book : List D → Option D := fnOf [39] (den__law_book)
set_option maxHeartbeats 8000000 in
theorem fn__law_book {W : Wd} (G : Good W) (NM : Nms W) (h : FunOk W 27 "_law_book" [39]) : FnOk W 1 "_law_book" d__law_book := by
  obtain ⟨a, o, fd, hg, ho, hpt, hd, FD⟩ := h
  exact ⟨a, o, fd, hg, ho, hpt, hd, @call_ok _ G _ (by decide) _ _ _ _ _ _ _ rfl rfl rfl ho hpt hd FD (by kernel_rfl) (@ss__law_book _ G NM)⟩
noncomputable def d_add_callers : List D → Option D := fnOf [17, 18] (den_add_callers)
set_option maxHeartbeats 8000000 in
theorem fn_add_callers {W : Wd} (G : Good W) (NM : Nms W) (hcode : CodeOk W) (hbm : ∃ bm ob, BMod W.hB mainGlobals W.mg bm ob ∧ bm ≠ W.PT) (h : FunOk W 4 "add_callers" [17, 18]) : FnOk W 1 "add_callers" d_add_callers := by
  obtain ⟨a, o, fd, hg, ho, hpt, hd, FD⟩ := h
  exact ⟨a, o, fd, hg, ho, hpt, hd, @call_ok _ G _ (by decide) _ _ _ _ _ _ _ rfl rfl rfl ho hpt hd FD (by kernel_rfl) (@ss_add_callers _ G NM hcode hbm)⟩
noncomputable def d_add_func_stats : List D → Option D := fnOf [17, 18] (den_add_func_stats d_add_callers)
set_option maxHeartbeats 8000000 in
theorem fn_add_func_stats {W : Wd} (G : Good W) (NM : Nms W) (hadd_callers : FnOk W 1 "add_callers" d_add_callers) (h : FunOk W 3 "add_func_stats" [17, 18]) : FnOk W 2 "add_func_stats" d_add_func_stats := by
  obtain ⟨a, o, fd, hg, ho, hpt, hd, FD⟩ := h
  exact ⟨a, o, fd, hg, ho, hpt, hd, @call_ok _ G _ (by decide) _ _ _ _ _ _ _ rfl rfl rfl ho hpt hd FD (by kernel_rfl) (@ss_add_func_stats _ G NM _ hadd_callers)⟩
noncomputable def d_count_calls : List D → Option D := fnOf [19] (den_count_calls)
set_option maxHeartbeats 8000000 in
theorem fn_count_calls {W : Wd} (G : Good W) (NM : Nms W) (h : FunOk W 5 "count_calls" [19]) : FnOk W 1 "count_calls" d_count_calls := by
  obtain ⟨a, o, fd, hg, ho, hpt, hd, FD⟩ := h
  exact ⟨a, o, fd, hg, ho, hpt, hd, @call_ok _ G _ (by decide) _ _ _ _ _ _ _ rfl rfl rfl ho hpt hd FD (by kernel_rfl) (@ss_count_calls _ G NM)⟩
noncomputable def d__substitution_cost : List D → Option D := fnOf [23, 24] (den__substitution_cost)
set_option maxHeartbeats 8000000 in
theorem fn__substitution_cost {W : Wd} (G : Good W) (NM : Nms W) (h : FunOk W 16 "_substitution_cost" [23, 24]) : FnOk W 1 "_substitution_cost" d__substitution_cost := by
  obtain ⟨a, o, fd, hg, ho, hpt, hd, FD⟩ := h
  exact ⟨a, o, fd, hg, ho, hpt, hd, @call_ok _ G _ (by decide) _ _ _ _ _ _ _ rfl rfl rfl ho hpt hd FD (by kernel_rfl) (@ss__substitution_cost _ G NM)⟩
noncomputable def d__law_events : List D → Option D := fnOf [25, 26] (den__law_events)
set_option maxHeartbeats 8000000 in
theorem fn__law_events {W : Wd} (G : Good W) (NM : Nms W) (h : FunOk W 18 "_law_events" [25, 26]) : FnOk W 1 "_law_events" d__law_events := by
  obtain ⟨a, o, fd, hg, ho, hpt, hd, FD⟩ := h
  exact ⟨a, o, fd, hg, ho, hpt, hd, @call_ok _ G _ (by decide) _ _ _ _ _ _ _ rfl rfl rfl ho hpt hd FD (by kernel_rfl) (@ss__law_events _ G NM)⟩
noncomputable def d__law_name : List D → Option D := fnOf [27, 28, 29] (den__law_name)
set_option maxHeartbeats 8000000 in
theorem fn__law_name {W : Wd} (G : Good W) (NM : Nms W) (h : FunOk W 19 "_law_name" [27, 28, 29]) : FnOk W 1 "_law_name" d__law_name := by
  obtain ⟨a, o, fd, hg, ho, hpt, hd, FD⟩ := h
  exact ⟨a, o, fd, hg, ho, hpt, hd, @call_ok _ G _ (by decide) _ _ _ _ _ _ _ rfl rfl rfl ho hpt hd FD (by kernel_rfl) (@ss__law_name _ G NM)⟩
noncomputable def d__law_talk : List D → Option D := fnOf [30, 31] (den__law_talk)
set_option maxHeartbeats 8000000 in
theorem fn__law_talk {W : Wd} (G : Good W) (NM : Nms W) (h : FunOk W 20 "_law_talk" [30, 31]) : FnOk W 1 "_law_talk" d__law_talk := by
  obtain ⟨a, o, fd, hg, ho, hpt, hd, FD⟩ := h
  exact ⟨a, o, fd, hg, ho, hpt, hd, @call_ok _ G _ (by decide) _ _ _ _ _ _ _ rfl rfl rfl ho hpt hd FD (by kernel_rfl) (@ss__law_talk _ G NM)⟩
noncomputable def d__law_table : List D → Option D := fnOf [34] (den__law_table d_add_callers)
set_option maxHeartbeats 8000000 in
theorem fn__law_table {W : Wd} (G : Good W) (NM : Nms W) (hadd_callers : FnOk W 1 "add_callers" d_add_callers) (h : FunOk W 23 "_law_table" [34]) : FnOk W 2 "_law_table" d__law_table := by
  obtain ⟨a, o, fd, hg, ho, hpt, hd, FD⟩ := h
  exact ⟨a, o, fd, hg, ho, hpt, hd, @call_ok _ G _ (by decide) _ _ _ _ _ _ _ rfl rfl rfl ho hpt hd FD (by kernel_rfl) (@ss__law_table _ G NM _ hadd_callers)⟩
noncomputable def d__law_ways : List D → Option D := fnOf [35] (den__law_ways)
set_option maxHeartbeats 8000000 in
theorem fn__law_ways {W : Wd} (G : Good W) (NM : Nms W) (h : FunOk W 24 "_law_ways" [35]) : FnOk W 1 "_law_ways" d__law_ways := by
  obtain ⟨a, o, fd, hg, ho, hpt, hd, FD⟩ := h
  exact ⟨a, o, fd, hg, ho, hpt, hd, @call_ok _ G _ (by decide) _ _ _ _ _ _ _ rfl rfl rfl ho hpt hd FD (by kernel_rfl) (@ss__law_ways _ G NM)⟩
noncomputable def d__law_most : List D → Option D := fnOf [38] (den__law_most)
set_option maxHeartbeats 8000000 in
theorem fn__law_most {W : Wd} (G : Good W) (NM : Nms W) (h : FunOk W 26 "_law_most" [38]) : FnOk W 1 "_law_most" d__law_most := by
  obtain ⟨a, o, fd, hg, ho, hpt, hd, FD⟩ := h
  exact ⟨a, o, fd, hg, ho, hpt, hd, @call_ok _ G _ (by decide) _ _ _ _ _ _ _ rfl rfl rfl ho hpt hd FD (by kernel_rfl) (@ss__law_most _ G NM)⟩
noncomputable def d__law_piece : List D → Option D := fnOf [33, 29] (den__law_piece)
set_option maxHeartbeats 8000000 in
theorem fn__law_piece {W : Wd} (G : Good W) (NM : Nms W) (h : FunOk W 22 "_law_piece" [33, 29]) : FnOk W 1 "_law_piece" d__law_piece := by
  obtain ⟨a, o, fd, hg, ho, hpt, hd, FD⟩ := h
  exact ⟨a, o, fd, hg, ho, hpt, hd, @call_ok _ G _ (by decide) _ _ _ _ _ _ _ rfl rfl rfl ho hpt hd FD (by kernel_rfl) (@ss__law_piece _ G NM)⟩
noncomputable def d__paren_depth : List D → Option D := fnOf [21, 22] (den__paren_depth)
set_option maxHeartbeats 8000000 in
theorem fn__paren_depth {W : Wd} (G : Good W) (NM : Nms W) (hpat : PatOk W) (h : FunOk W 12 "_paren_depth" [21, 22]) : FnOk W 1 "_paren_depth" d__paren_depth := by
  obtain ⟨a, o, fd, hg, ho, hpt, hd, FD⟩ := h
  exact ⟨a, o, fd, hg, ho, hpt, hd, @call_ok _ G _ (by decide) _ _ _ _ _ _ _ rfl rfl rfl ho hpt hd FD (by kernel_rfl) (@ss__paren_depth _ G NM hpat)⟩
end Mine
namespace Mine
open PySem PySem.W PySem.Calls PyProof.Rows

/-- a frame with cells and one plain parameter: one token more -/
theorem newEnv_one {M : Model} {A : Around} {E : Value → Shared → Prop} {s : Shared} {scope : Scope} {globals : Addr} {x : Str} {v : Value} {qual : Str} {func : Option Addr} {code : Value} {builtins : Addr} {Q : Env → Shared → Prop}
    (hk : scope.kind = .function) (hl : scope.names.lookup x = some .local)
    (hQ : ∀ env, env = newEnv scope s.heap.objs.size globals (cellsFrom (s.heap.objs.size + 1) scope.names []) qual func code none builtins → ∀ h', InCallC s env.locals (fun y => if y = x then some v else none) env.cells (fun _ => none) { s with heap := h', toks := s.toks + 1 } → Q env { s with heap := h', toks := s.toks + 1 }) :
    wpAny M A (newFunctionEnv scope globals [] [(x, v)] qual func code none builtins) Q E s := by
  simp only [newFunctionEnv, Option.isSome_none, Bool.false_eq_true, if_false]
  refine wpAny_bind (wpAny_alloc ?_)
  refine wpAny_bind (wpAny_layCells _ (fun name kind cells => by cases hkc : kind == NameKind.cell <;> simp [hkc]) _ _ _ _ ?_)
  have ok := cellsFrom_ok scope.names (s.heap.push { cls := .type "frame", data := .dict #[] }) (s.heap.objs.size + 1) [] ⟨fun _ _ hm => (nomatch hm), List.Pairwise.nil⟩ (by rw [Heap.size_push]; exact Nat.le_refl _)
  rw [Heap.size_push] at ok
  rw [show ({ s with heap := s.heap.push { cls := .type "frame", data := .dict #[] } } : Shared).heap.objs.size = s.heap.objs.size + 1 from Heap.size_push ..]
  rw [List.forIn_cons]
  refine wpAny_bind (wpAny_bind (wpAny_bind ?_))
  have fr : s.heap.get? s.heap.objs.size = none := get_size_none _
  have keep0 : ∀ b o, s.heap.get? b = some o → (pushCells (s.heap.push { cls := .type "frame", data := .dict #[] }) scope.names).get? b = some o := fun b o e => pushCells_keeps _ _ b o (Heap.get?_push_of_some _ e)
  refine wpAny_storeName_local (m := fun _ => none) hl ((Heap.Ns.new s.heap (.type "frame")).keeps (pushCells_keeps _ _)) (fun h' hn' hs' => ?_) (by show (scope.kind == .class || _) = false; rw [hk]; rfl)
  refine wpAny_pure (wpAny_pure ?_)
  refine wpAny_pure (hQ _ rfl h' ⟨⟨⟨_, _, rfl⟩, hn', fun b o e => ?_, Nat.le_refl _⟩, fun n c hc => ?_, ok.apart, fun n c hm => (ok.empty n c hm).2⟩)
  · exact hs'.extBut b o (Nat.ne_of_lt (Heap.lt_size e)) (keep0 b o e)
  · have h1 := ok.empty n c (mem_of_lookup hc)
    exact (h1.1).sameBut hs' (Nat.ne_of_gt h1.2)
end Mine
open PySem PySem.W PyProof.Rows
namespace Mine
-- the head of the row behind the law; the look at the law's text apart (law_said): so no quick twin of the program is laid
set_option maxRecDepth 100000 in
set_option maxHeartbeats 8000000 in
open_top hd for (PySem.Challenge.rw_xg0019_01.row)
set_option maxRecDepth 100000 in
theorem law_said (h : PySem.Challenge.rw_xg0019_01.row.wellSaid = true) : PySem.Challenge.rw_xg0019_01.wellSaid = true := by
  unfold OpenLaw.wellSaid
  iterate 18 refine look_both ?_ ?_
  · exact h
  all_goals decide +kernel
theorem law_of (x : PySem.Challenge.rw_xg0019_01.row.Holds) : PySem.Challenge.rw_xg0019_01.Holds := ⟨law_said x.1, x⟩
end Mine
namespace Mine
open PySem PySem.W PySem.Calls PyProof.Rows

/-- the law's world -/
noncomputable def Wof (w : World) (mg mb : Str → Option Value) (h : Heap) (env : Env) : Wd :=
  { prog := PySem.Challenge.rw_xg0019_01.row.prog, w := w, mg := mg, mb := mb, PC := 72, PT := 68, CT := 55, hB := h, LF := h.objs.size, AF := some [env] }
noncomputable abbrev KF (w : World) : Frag := hd.heap_1 w.params
noncomputable def fdAt (w : World) (a : Addr) : FuncData := match (KF w).lookup a with
  | some ⟨_, _, .func fd, _⟩ => fd
  | _ => default
noncomputable def obAt (w : World) (a : Addr) : Obj := match (KF w).lookup a with
  | some o => o
  | none => default

noncomputable def flds (o : Obj) : Array Value := match o.data with
  | .fields vs => vs
  | _ => #[]

section
variable {w : World} {mg mb : Str → Option Value} {h : Heap} {env : Env}
theorem kf68 : (KF w).lookup 68 = none := by kernel_rfl
theorem kf_noT {a : Addr} {o : Obj} (e : (KF w).lookup a = some o) : a ≠ 68 := by rintro rfl; rw [kf68] at e; cases e

theorem code_wof (X : (KF w).In h) {p : Program} {loose : List Str} {mean : ExcName → Option Value} (T : Top p loose mean mg mb h) {d : DefRec} (hd : d ∈ recsOf p) (hn : d.name = ("add_callers" : Str)) : h.IsCode 72 68 #[] ∧ h.TableAt 72 68 #[] := by
  obtain ⟨a, o, fd, c, P, h1, h2, h3, h4, h5, h6⟩ := T.tab d hd
  rw [hn] at h1
  have e1 : mg ("add_callers" : Str) = some (.ref 73) := mg_of X T.g (by kernel_rfl)
  rw [e1] at h1; cases h1
  have e2 : h.get? 73 = some (obAt w 73) := X _ _ (by kernel_rfl)
  rw [e2] at h2; cases h2
  have e3 : (obAt w 73).data = .func (fdAt w 73) := by kernel_rfl
  rw [e3] at h3; cases h3
  have e4 : (fdAt w 73).code = .ref 72 := by kernel_rfl
  rw [e4] at h4; cases h4
  obtain ⟨o', vs, ho', hc', hd', hv'⟩ := h6.1
  have e5 : h.get? 72 = some (obAt w 72) := X _ _ (by kernel_rfl)
  rw [e5] at ho'; cases ho'
  have e7 : (obAt w 72).data = .fields (flds (obAt w 72)) := by kernel_rfl
  have e8 : (flds (obAt w 72))[11]? = some (.ref 68) := by kernel_rfl
  rw [e7] at hd'; cases hd'
  rw [e8] at hv'; cases hv'
  exact ⟨h5, h6⟩
end
end Mine
namespace Mine
open PySem PySem.W PySem.Calls PyProof.Rows

theorem len1 {vs : List Value} (h : vs.length = 1) : ∃ a, vs = [a] := List.length_eq_one_iff.mp h
theorem len2 {vs : List Value} (h : vs.length = 2) : ∃ a b, vs = [a, b] := by
  cases vs with
  | nil => cases h
  | cons a r => obtain ⟨b, rfl⟩ := len1 (Nat.succ.inj h); exact ⟨a, b, rfl⟩
theorem len3 {vs : List Value} (h : vs.length = 3) : ∃ a b c, vs = [a, b, c] := by
  cases vs with
  | nil => cases h
  | cons a r => obtain ⟨b, c, rfl⟩ := len2 (Nat.succ.inj h); exact ⟨a, b, c, rfl⟩
section
variable {w : World} {mg mb : Str → Option Value} {h : Heap} {env : Env}
theorem bd__law_links (a b : Value) : bindArgs (fdAt w 182) ⟨[a, b], []⟩ = pure (bindsOf [36, 37] [a, b]) := by kernel_rfl
theorem fd__law_links (X : (KF w).In h) : FdOk (Wof w mg mb h env) (fdAt w 182) (fScope (stAt 25)) (fBody (stAt 25)) [36, 37] where
  scope := by kernel_rfl
  body := by kernel_rfl
  gl := by kernel_rfl
  clo := by kernel_rfl
  bi := by kernel_rfl
  code := codeRec_of X (by kernel_rfl)
  cd := fun e => absurd (e.symm.trans (show (fdAt w 182).scope.names.lookup (nm 51) = none by kernel_rfl)) (by simp)
  bind := fun vs hl s _ => by obtain ⟨a, b, rfl⟩ := len2 hl; exact @BindsTo.of_eq s (fdAt w 182) _ _ (bd__law_links a b)
theorem fun__law_links (X : (KF w).In h) (G : h.Ns mainGlobals mg) : FunOk (Wof w mg mb h env) 25 "_law_links" [36, 37] :=
  ⟨182, obAt w 182, fdAt w 182, mg_of X G (by kernel_rfl), X _ _ (by kernel_rfl), by show 182 ≠ 68; decide, by kernel_rfl, fd__law_links X⟩
theorem bd__law_book (a : Value) : bindArgs (fdAt w 194) ⟨[a], []⟩ = pure (bindsOf [39] [a]) := by kernel_rfl
theorem fd__law_book (X : (KF w).In h) : FdOk (Wof w mg mb h env) (fdAt w 194) (fScope (stAt 27)) (fBody (stAt 27)) [39] where
  scope := by kernel_rfl
  body := by kernel_rfl
  gl := by kernel_rfl
  clo := by kernel_rfl
  bi := by kernel_rfl
  code := codeRec_of X (by kernel_rfl)
  cd := fun e => absurd (e.symm.trans (show (fdAt w 194).scope.names.lookup (nm 51) = none by kernel_rfl)) (by simp)
  bind := fun vs hl s _ => by obtain ⟨a, rfl⟩ := len1 hl; exact @BindsTo.of_eq s (fdAt w 194) _ _ (bd__law_book a)
theorem fun__law_book (X : (KF w).In h) (G : h.Ns mainGlobals mg) : FunOk (Wof w mg mb h env) 27 "_law_book" [39] :=
  ⟨194, obAt w 194, fdAt w 194, mg_of X G (by kernel_rfl), X _ _ (by kernel_rfl), by show 194 ≠ 68; decide, by kernel_rfl, fd__law_book X⟩
theorem bd_add_callers (a b : Value) : bindArgs (fdAt w 73) ⟨[a, b], []⟩ = pure (bindsOf [17, 18] [a, b]) := by kernel_rfl
theorem fd_add_callers (X : (KF w).In h) : FdOk (Wof w mg mb h env) (fdAt w 73) (fScope (stAt 4)) (fBody (stAt 4)) [17, 18] where
  scope := by kernel_rfl
  body := by kernel_rfl
  gl := by kernel_rfl
  clo := by kernel_rfl
  bi := by kernel_rfl
  code := codeRec_of X (by kernel_rfl)
  cd := fun _ => by kernel_rfl
  bind := fun vs hl s _ => by obtain ⟨a, b, rfl⟩ := len2 hl; exact @BindsTo.of_eq s (fdAt w 73) _ _ (bd_add_callers a b)
theorem fun_add_callers (X : (KF w).In h) (G : h.Ns mainGlobals mg) : FunOk (Wof w mg mb h env) 4 "add_callers" [17, 18] :=
  ⟨73, obAt w 73, fdAt w 73, mg_of X G (by kernel_rfl), X _ _ (by kernel_rfl), by show 73 ≠ 68; decide, by kernel_rfl, fd_add_callers X⟩
theorem bd_add_func_stats (a b : Value) : bindArgs (fdAt w 66) ⟨[a, b], []⟩ = pure (bindsOf [17, 18] [a, b]) := by kernel_rfl
theorem fd_add_func_stats (X : (KF w).In h) : FdOk (Wof w mg mb h env) (fdAt w 66) (fScope (stAt 3)) (fBody (stAt 3)) [17, 18] where
  scope := by kernel_rfl
  body := by kernel_rfl
  gl := by kernel_rfl
  clo := by kernel_rfl
  bi := by kernel_rfl
  code := codeRec_of X (by kernel_rfl)
  cd := fun e => absurd (e.symm.trans (show (fdAt w 66).scope.names.lookup (nm 51) = none by kernel_rfl)) (by simp)
  bind := fun vs hl s _ => by obtain ⟨a, b, rfl⟩ := len2 hl; exact @BindsTo.of_eq s (fdAt w 66) _ _ (bd_add_func_stats a b)
theorem fun_add_func_stats (X : (KF w).In h) (G : h.Ns mainGlobals mg) : FunOk (Wof w mg mb h env) 3 "add_func_stats" [17, 18] :=
  ⟨66, obAt w 66, fdAt w 66, mg_of X G (by kernel_rfl), X _ _ (by kernel_rfl), by show 66 ≠ 68; decide, by kernel_rfl, fd_add_func_stats X⟩
theorem bd_count_calls (a : Value) : bindArgs (fdAt w 80) ⟨[a], []⟩ = pure (bindsOf [19] [a]) := by kernel_rfl
theorem fd_count_calls (X : (KF w).In h) : FdOk (Wof w mg mb h env) (fdAt w 80) (fScope (stAt 5)) (fBody (stAt 5)) [19] where
  scope := by kernel_rfl
  body := by kernel_rfl
  gl := by kernel_rfl
  clo := by kernel_rfl
  bi := by kernel_rfl
  code := codeRec_of X (by kernel_rfl)
  cd := fun e => absurd (e.symm.trans (show (fdAt w 80).scope.names.lookup (nm 51) = none by kernel_rfl)) (by simp)
  bind := fun vs hl s _ => by obtain ⟨a, rfl⟩ := len1 hl; exact @BindsTo.of_eq s (fdAt w 80) _ _ (bd_count_calls a)
theorem fun_count_calls (X : (KF w).In h) (G : h.Ns mainGlobals mg) : FunOk (Wof w mg mb h env) 5 "count_calls" [19] :=
  ⟨80, obAt w 80, fdAt w 80, mg_of X G (by kernel_rfl), X _ _ (by kernel_rfl), by show 80 ≠ 68; decide, by kernel_rfl, fd_count_calls X⟩
theorem bd__substitution_cost (a b : Value) : bindArgs (fdAt w 132) ⟨[a, b], []⟩ = pure (bindsOf [23, 24] [a, b]) := by kernel_rfl
theorem fd__substitution_cost (X : (KF w).In h) : FdOk (Wof w mg mb h env) (fdAt w 132) (fScope (stAt 16)) (fBody (stAt 16)) [23, 24] where
  scope := by kernel_rfl
  body := by kernel_rfl
  gl := by kernel_rfl
  clo := by kernel_rfl
  bi := by kernel_rfl
  code := codeRec_of X (by kernel_rfl)
  cd := fun e => absurd (e.symm.trans (show (fdAt w 132).scope.names.lookup (nm 51) = none by kernel_rfl)) (by simp)
  bind := fun vs hl s _ => by obtain ⟨a, b, rfl⟩ := len2 hl; exact @BindsTo.of_eq s (fdAt w 132) _ _ (bd__substitution_cost a b)
theorem fun__substitution_cost (X : (KF w).In h) (G : h.Ns mainGlobals mg) : FunOk (Wof w mg mb h env) 16 "_substitution_cost" [23, 24] :=
  ⟨132, obAt w 132, fdAt w 132, mg_of X G (by kernel_rfl), X _ _ (by kernel_rfl), by show 132 ≠ 68; decide, by kernel_rfl, fd__substitution_cost X⟩
theorem bd__law_events (a b : Value) : bindArgs (fdAt w 139) ⟨[a, b], []⟩ = pure (bindsOf [25, 26] [a, b]) := by kernel_rfl
theorem fd__law_events (X : (KF w).In h) : FdOk (Wof w mg mb h env) (fdAt w 139) (fScope (stAt 18)) (fBody (stAt 18)) [25, 26] where
  scope := by kernel_rfl
  body := by kernel_rfl
  gl := by kernel_rfl
  clo := by kernel_rfl
  bi := by kernel_rfl
  code := codeRec_of X (by kernel_rfl)
  cd := fun e => absurd (e.symm.trans (show (fdAt w 139).scope.names.lookup (nm 51) = none by kernel_rfl)) (by simp)
  bind := fun vs hl s _ => by obtain ⟨a, b, rfl⟩ := len2 hl; exact @BindsTo.of_eq s (fdAt w 139) _ _ (bd__law_events a b)
theorem fun__law_events (X : (KF w).In h) (G : h.Ns mainGlobals mg) : FunOk (Wof w mg mb h env) 18 "_law_events" [25, 26] :=
  ⟨139, obAt w 139, fdAt w 139, mg_of X G (by kernel_rfl), X _ _ (by kernel_rfl), by show 139 ≠ 68; decide, by kernel_rfl, fd__law_events X⟩
theorem bd__law_name (a b c : Value) : bindArgs (fdAt w 146) ⟨[a, b, c], []⟩ = pure (bindsOf [27, 28, 29] [a, b, c]) := by kernel_rfl
theorem fd__law_name (X : (KF w).In h) : FdOk (Wof w mg mb h env) (fdAt w 146) (fScope (stAt 19)) (fBody (stAt 19)) [27, 28, 29] where
  scope := by kernel_rfl
  body := by kernel_rfl
  gl := by kernel_rfl
  clo := by kernel_rfl
  bi := by kernel_rfl
  code := codeRec_of X (by kernel_rfl)
  cd := fun e => absurd (e.symm.trans (show (fdAt w 146).scope.names.lookup (nm 51) = none by kernel_rfl)) (by simp)
  bind := fun vs hl s _ => by obtain ⟨a, b, c, rfl⟩ := len3 hl; exact @BindsTo.of_eq s (fdAt w 146) _ _ (bd__law_name a b c)
theorem fun__law_name (X : (KF w).In h) (G : h.Ns mainGlobals mg) : FunOk (Wof w mg mb h env) 19 "_law_name" [27, 28, 29] :=
  ⟨146, obAt w 146, fdAt w 146, mg_of X G (by kernel_rfl), X _ _ (by kernel_rfl), by show 146 ≠ 68; decide, by kernel_rfl, fd__law_name X⟩
theorem bd__law_talk (a b : Value) : bindArgs (fdAt w 153) ⟨[a, b], []⟩ = pure (bindsOf [30, 31] [a, b]) := by kernel_rfl
theorem fd__law_talk (X : (KF w).In h) : FdOk (Wof w mg mb h env) (fdAt w 153) (fScope (stAt 20)) (fBody (stAt 20)) [30, 31] where
  scope := by kernel_rfl
  body := by kernel_rfl
  gl := by kernel_rfl
  clo := by kernel_rfl
  bi := by kernel_rfl
  code := codeRec_of X (by kernel_rfl)
  cd := fun e => absurd (e.symm.trans (show (fdAt w 153).scope.names.lookup (nm 51) = none by kernel_rfl)) (by simp)
  bind := fun vs hl s _ => by obtain ⟨a, b, rfl⟩ := len2 hl; exact @BindsTo.of_eq s (fdAt w 153) _ _ (bd__law_talk a b)
theorem fun__law_talk (X : (KF w).In h) (G : h.Ns mainGlobals mg) : FunOk (Wof w mg mb h env) 20 "_law_talk" [30, 31] :=
  ⟨153, obAt w 153, fdAt w 153, mg_of X G (by kernel_rfl), X _ _ (by kernel_rfl), by show 153 ≠ 68; decide, by kernel_rfl, fd__law_talk X⟩
theorem bd__law_table (a : Value) : bindArgs (fdAt w 170) ⟨[a], []⟩ = pure (bindsOf [34] [a]) := by kernel_rfl
theorem fd__law_table (X : (KF w).In h) : FdOk (Wof w mg mb h env) (fdAt w 170) (fScope (stAt 23)) (fBody (stAt 23)) [34] where
  scope := by kernel_rfl
  body := by kernel_rfl
  gl := by kernel_rfl
  clo := by kernel_rfl
  bi := by kernel_rfl
  code := codeRec_of X (by kernel_rfl)
  cd := fun e => absurd (e.symm.trans (show (fdAt w 170).scope.names.lookup (nm 51) = none by kernel_rfl)) (by simp)
  bind := fun vs hl s _ => by obtain ⟨a, rfl⟩ := len1 hl; exact @BindsTo.of_eq s (fdAt w 170) _ _ (bd__law_table a)
theorem fun__law_table (X : (KF w).In h) (G : h.Ns mainGlobals mg) : FunOk (Wof w mg mb h env) 23 "_law_table" [34] :=
  ⟨170, obAt w 170, fdAt w 170, mg_of X G (by kernel_rfl), X _ _ (by kernel_rfl), by show 170 ≠ 68; decide, by kernel_rfl, fd__law_table X⟩
theorem bd__law_ways (a : Value) : bindArgs (fdAt w 175) ⟨[a], []⟩ = pure (bindsOf [35] [a]) := by kernel_rfl
theorem fd__law_ways (X : (KF w).In h) : FdOk (Wof w mg mb h env) (fdAt w 175) (fScope (stAt 24)) (fBody (stAt 24)) [35] where
  scope := by kernel_rfl
  body := by kernel_rfl
  gl := by kernel_rfl
  clo := by kernel_rfl
  bi := by kernel_rfl
  code := codeRec_of X (by kernel_rfl)
  cd := fun e => absurd (e.symm.trans (show (fdAt w 175).scope.names.lookup (nm 51) = none by kernel_rfl)) (by simp)
  bind := fun vs hl s _ => by obtain ⟨a, rfl⟩ := len1 hl; exact @BindsTo.of_eq s (fdAt w 175) _ _ (bd__law_ways a)
theorem fun__law_ways (X : (KF w).In h) (G : h.Ns mainGlobals mg) : FunOk (Wof w mg mb h env) 24 "_law_ways" [35] :=
  ⟨175, obAt w 175, fdAt w 175, mg_of X G (by kernel_rfl), X _ _ (by kernel_rfl), by show 175 ≠ 68; decide, by kernel_rfl, fd__law_ways X⟩
theorem bd__law_most (a : Value) : bindArgs (fdAt w 187) ⟨[a], []⟩ = pure (bindsOf [38] [a]) := by kernel_rfl
theorem fd__law_most (X : (KF w).In h) : FdOk (Wof w mg mb h env) (fdAt w 187) (fScope (stAt 26)) (fBody (stAt 26)) [38] where
  scope := by kernel_rfl
  body := by kernel_rfl
  gl := by kernel_rfl
  clo := by kernel_rfl
  bi := by kernel_rfl
  code := codeRec_of X (by kernel_rfl)
  cd := fun e => absurd (e.symm.trans (show (fdAt w 187).scope.names.lookup (nm 51) = none by kernel_rfl)) (by simp)
  bind := fun vs hl s _ => by obtain ⟨a, rfl⟩ := len1 hl; exact @BindsTo.of_eq s (fdAt w 187) _ _ (bd__law_most a)
theorem fun__law_most (X : (KF w).In h) (G : h.Ns mainGlobals mg) : FunOk (Wof w mg mb h env) 26 "_law_most" [38] :=
  ⟨187, obAt w 187, fdAt w 187, mg_of X G (by kernel_rfl), X _ _ (by kernel_rfl), by show 187 ≠ 68; decide, by kernel_rfl, fd__law_most X⟩
theorem bd__law_piece (a b : Value) : bindArgs (fdAt w 165) ⟨[a, b], []⟩ = pure (bindsOf [33, 29] [a, b]) := by kernel_rfl
theorem fd__law_piece (X : (KF w).In h) : FdOk (Wof w mg mb h env) (fdAt w 165) (fScope (stAt 22)) (fBody (stAt 22)) [33, 29] where
  scope := by kernel_rfl
  body := by kernel_rfl
  gl := by kernel_rfl
  clo := by kernel_rfl
  bi := by kernel_rfl
  code := codeRec_of X (by kernel_rfl)
  cd := fun e => absurd (e.symm.trans (show (fdAt w 165).scope.names.lookup (nm 51) = none by kernel_rfl)) (by simp)
  bind := fun vs hl s _ => by obtain ⟨a, b, rfl⟩ := len2 hl; exact @BindsTo.of_eq s (fdAt w 165) _ _ (bd__law_piece a b)
theorem fun__law_piece (X : (KF w).In h) (G : h.Ns mainGlobals mg) : FunOk (Wof w mg mb h env) 22 "_law_piece" [33, 29] :=
  ⟨165, obAt w 165, fdAt w 165, mg_of X G (by kernel_rfl), X _ _ (by kernel_rfl), by show 165 ≠ 68; decide, by kernel_rfl, fd__law_piece X⟩
theorem bd_parse257 (a : Value) : bindArgs (fdAt w 112) ⟨[a], []⟩ = pure (bindsOf [20] [a]) := by kernel_rfl
theorem fd_parse257 (X : (KF w).In h) : FdOk (Wof w mg mb h env) (fdAt w 112) (fScope (stAt 9)) (fBody (stAt 9)) [20] where
  scope := by kernel_rfl
  body := by kernel_rfl
  gl := by kernel_rfl
  clo := by kernel_rfl
  bi := by kernel_rfl
  code := codeRec_of X (by kernel_rfl)
  cd := fun e => absurd (e.symm.trans (show (fdAt w 112).scope.names.lookup (nm 51) = none by kernel_rfl)) (by simp)
  bind := fun vs hl s _ => by obtain ⟨a, rfl⟩ := len1 hl; exact @BindsTo.of_eq s (fdAt w 112) _ _ (bd_parse257 a)
theorem fun_parse257 (X : (KF w).In h) (G : h.Ns mainGlobals mg) : FunOk (Wof w mg mb h env) 9 "parse257" [20] :=
  ⟨112, obAt w 112, fdAt w 112, mg_of X G (by kernel_rfl), X _ _ (by kernel_rfl), by show 112 ≠ 68; decide, by kernel_rfl, fd_parse257 X⟩
theorem bd__law_read (a : Value) : bindArgs (fdAt w 160) ⟨[a], []⟩ = pure (bindsOf [32] [a]) := by kernel_rfl
theorem fd__law_read (X : (KF w).In h) : FdOk (Wof w mg mb h env) (fdAt w 160) (fScope (stAt 21)) (fBody (stAt 21)) [32] where
  scope := by kernel_rfl
  body := by kernel_rfl
  gl := by kernel_rfl
  clo := by kernel_rfl
  bi := by kernel_rfl
  code := codeRec_of X (by kernel_rfl)
  cd := fun e => absurd (e.symm.trans (show (fdAt w 160).scope.names.lookup (nm 51) = none by kernel_rfl)) (by simp)
  bind := fun vs hl s _ => by obtain ⟨a, rfl⟩ := len1 hl; exact @BindsTo.of_eq s (fdAt w 160) _ _ (bd__law_read a)
theorem fun__law_read (X : (KF w).In h) (G : h.Ns mainGlobals mg) : FunOk (Wof w mg mb h env) 21 "_law_read" [32] :=
  ⟨160, obAt w 160, fdAt w 160, mg_of X G (by kernel_rfl), X _ _ (by kernel_rfl), by show 160 ≠ 68; decide, by kernel_rfl, fd__law_read X⟩
theorem bd_law (a : Value) : bindArgs (fdAt w 199) ⟨[a], []⟩ = pure (bindsOf [40] [a]) := by kernel_rfl
theorem fd_law (X : (KF w).In h) : FdOk (Wof w mg mb h env) (fdAt w 199) (fScope (stAt 28)) (fBody (stAt 28)) [40] where
  scope := by kernel_rfl
  body := by kernel_rfl
  gl := by kernel_rfl
  clo := by kernel_rfl
  bi := by kernel_rfl
  code := codeRec_of X (by kernel_rfl)
  cd := fun e => absurd (e.symm.trans (show (fdAt w 199).scope.names.lookup (nm 51) = none by kernel_rfl)) (by simp)
  bind := fun vs hl s _ => by obtain ⟨a, rfl⟩ := len1 hl; exact @BindsTo.of_eq s (fdAt w 199) _ _ (bd_law a)
theorem fun_law (X : (KF w).In h) (G : h.Ns mainGlobals mg) : FunOk (Wof w mg mb h env) 28 "law" [40] :=
  ⟨199, obAt w 199, fdAt w 199, mg_of X G (by kernel_rfl), X _ _ (by kernel_rfl), by show 199 ≠ 68; decide, by kernel_rfl, fd_law X⟩
end
end Mine
namespace Mine
open PySem PySem.W PySem.Calls PyProof.Rows

section
variable {w : World} {mg mb : Str → Option Value} {h : Heap} {env : Env}

/-- a def of two names, the second with a default, given both -/
theorem bind_pd {s : Shared} {fd : FuncData} {T : Addr} {o : Obj} {v : Value} {n : Nat} {a b : Value} {ds : List PySem.Expr} {p1 p2 : Pos}
    (hp : fd.params = { posonlyargs := [], args := [⟨nm 21, none, p1⟩, ⟨nm 22, none, p2⟩], vararg := none, kwonlyargs := [], kw_defaults := [], kwarg := none, defaults := ds })
    (hd : fd.defaults = .ref T) (ho : s.heap.get? T = some o) (hs : o.data = .seq #[v] n) : BindsTo s fd ⟨[a, b], []⟩ (bindsOf [21, 22] [a, b]) := by
  obtain ⟨name, qn, params, body, scope, gl, clo, dfl, kwd, doc, pm, an, cd, ct, bi⟩ := fd
  dsimp only at hp hd
  subst hp hd
  exact BindsTo.of_defaults rfl ho hs rfl rfl

noncomputable def seqs (o : Obj) : Array Value := match o.data with
  | .seq vs _ => vs
  | _ => #[]
noncomputable def seqN (o : Obj) : Nat := match o.data with
  | .seq _ n => n
  | _ => 0
noncomputable def argPos (k : Nat) (a : Arguments) : Pos := match a.args.drop k with
  | x :: _ => x.pos
  | [] => ⟨0, 0, 0, 0⟩
theorem fd__paren_depth (X : (KF w).In h) : FdOk (Wof w mg mb h env) (fdAt w 125) (fScope (stAt 12)) (fBody (stAt 12)) [21, 22] where
  scope := by kernel_rfl
  body := by kernel_rfl
  gl := by kernel_rfl
  clo := by kernel_rfl
  bi := by kernel_rfl
  code := codeRec_of X (by kernel_rfl)
  cd := fun e => absurd (e.symm.trans (show (fdAt w 125).scope.names.lookup (nm 51) = none by kernel_rfl)) (by simp)
  bind := fun vs hl s hs => by
      obtain ⟨a, b, rfl⟩ := len2 hl
      have e1 : (fdAt w 125).params = { posonlyargs := [], args := [⟨nm 21, none, argPos 0 (fParams (stAt 12))⟩, ⟨nm 22, none, argPos 1 (fParams (stAt 12))⟩], vararg := none, kwonlyargs := [], kw_defaults := [], kwarg := none, defaults := (fParams (stAt 12)).defaults } := by kernel_rfl
      have e2 : (fdAt w 125).defaults = .ref 118 := by kernel_rfl
      have e3 : h.get? 118 = some (obAt w 118) := X _ _ (by kernel_rfl)
      have e4 : (obAt w 118).data = .seq #[(seqs (obAt w 118)).getD 0 .none] (seqN (obAt w 118)) := by kernel_rfl
      exact bind_pd e1 e2 (hs _ _ (by show 118 ≠ 68; decide) e3) e4
theorem fun__paren_depth (X : (KF w).In h) (G : h.Ns mainGlobals mg) : FunOk (Wof w mg mb h env) 12 "_paren_depth" [21, 22] :=
  ⟨125, obAt w 125, fdAt w 125, mg_of X G (by kernel_rfl), X _ _ (by kernel_rfl), by show 125 ≠ 68; decide, by kernel_rfl, fd__paren_depth X⟩

theorem bd_init (a b : Value) : bindArgs (fdAt w 45) ⟨[a, b], []⟩ = pure (bindsOf [41, 42] [a, b]) := by kernel_rfl
theorem fd_init (X : (KF w).In h) : FdOk (Wof w mg mb h env) (fdAt w 45) (fScope iDef) (fBody iDef) [41, 42] where
  scope := by kernel_rfl
  body := by kernel_rfl
  gl := by kernel_rfl
  clo := by kernel_rfl
  bi := by kernel_rfl
  code := codeRec_of X (by kernel_rfl)
  cd := fun e => absurd (e.symm.trans (show (fdAt w 45).scope.names.lookup (nm 51) = none by kernel_rfl)) (by simp)
  bind := fun vs hl s _ => by
    obtain ⟨a, b, rfl⟩ := len2 hl
    exact @BindsTo.of_eq s (fdAt w 45) _ _ (bd_init a b)
theorem bd_cmp (a b c : Value) : bindArgs (fdAt w 52) ⟨[a, b, c], []⟩ = pure (bindsOf [41, 43, 44] [a, b, c]) := by kernel_rfl
theorem fd_cmp (X : (KF w).In h) : FdOk (Wof w mg mb h env) (fdAt w 52) (fScope cDef) (fBody cDef) [41, 43, 44] where
  scope := by kernel_rfl
  body := by kernel_rfl
  gl := by kernel_rfl
  clo := by kernel_rfl
  bi := by kernel_rfl
  code := codeRec_of X (by kernel_rfl)
  cd := fun e => absurd (e.symm.trans (show (fdAt w 52).scope.names.lookup (nm 51) = none by kernel_rfl)) (by simp)
  bind := fun vs hl s _ => by
    obtain ⟨a, b, c, rfl⟩ := len3 hl
    exact @BindsTo.of_eq s (fdAt w 52) _ _ (bd_cmp a b c)

theorem cls_wof (X : (KF w).In h) (G : h.Ns mainGlobals mg) : Cls (Wof w mg mb h env) (KF w) 45 52 where
  inB := X
  noT := fun a o e => kf_noT e
  name := mg_of X G (by kernel_rfl)
  keep := by kernel_rfl
  makes := by kernel_rfl
  init := by kernel_rfl
  initT := by kernel_rfl
  sattr := by kernel_rfl
  over := by kernel_rfl
  taker := by kernel_rfl
  hasD := by kernel_rfl
  gattr := by kernel_rfl
  getA := ⟨none, by kernel_rfl, by kernel_rfl⟩
  noGA := by kernel_rfl
  cmp := by kernel_rfl
  cmpT := by kernel_rfl
  oI := ⟨obAt w 45, fdAt w 45, by kernel_rfl, by kernel_rfl, fd_init X⟩
  oC := ⟨obAt w 52, fdAt w 52, by kernel_rfl, by kernel_rfl, fd_cmp X⟩

theorem pat_wof (X : (KF w).In h) (G : h.Ns mainGlobals mg) : PatOk (Wof w mg mb h env) :=
  ⟨117, 116, flds (obAt w 117), seqs (obAt w 116), seqN (obAt w 116), mg_of X G (by kernel_rfl), ⟨X _ _ (by kernel_rfl), by kernel_rfl, by kernel_rfl, by kernel_rfl, X _ _ (by kernel_rfl)⟩, by show 117 ≠ 68; decide, by show 116 ≠ 68; decide, by kernel_rfl⟩

theorem good_wof (X : (KF w).In h) {p : Program} {loose : List Str} {mean : ExcName → Option Value} (T : Top p loose mean mg mb h) (hT : h.TableAt 72 68 #[]) : Good (Wof w mg mb h env) where
  pt := ⟨#[], trivial, hT.2⟩
  pt0 := hT.2
  two := Nat.lt_of_succ_lt (show 3 < h.objs.size from T.g.lt)
  g := T.g
  gPT := by show 3 ≠ 68; decide
  b := T.b
  bPT := by show 0 ≠ 68; decide
  nolim := T.nolimit
  cPT := by show 2 ≠ 68; decide
  lf0 := get_size_none h

noncomputable def tokOf (v : Option (Option Value)) : Tok := match v with
  | some (some (.int _ t)) => t
  | _ => 0
theorem nms_wof (X : (KF w).In h) {p : Program} {loose : List Str} {mean : ExcName → Option Value} (T : Top p loose mean mg mb h) : Nms (Wof w mg mb h env) where
  len := ⟨mg_none_of X T.g (by kernel_rfl), (T.builtins _ (by decide)).trans (by decide +kernel)⟩
  chr := ⟨mg_none_of X T.g (by kernel_rfl), (T.builtins _ (by decide)).trans (by decide +kernel)⟩
  sum := ⟨mg_none_of X T.g (by kernel_rfl), (T.builtins _ (by decide)).trans (by decide +kernel)⟩
  sorted := ⟨mg_none_of X T.g (by kernel_rfl), (T.builtins _ (by decide)).trans (by decide +kernel)⟩
  divmod := ⟨mg_none_of X T.g (by kernel_rfl), (T.builtins _ (by decide)).trans (by decide +kernel)⟩
  isinstance := ⟨mg_none_of X T.g (by kernel_rfl), (T.builtins _ (by decide)).trans (by decide +kernel)⟩
  tuple := ⟨mg_none_of X T.g (by kernel_rfl), (T.builtins _ (by decide)).trans (by decide +kernel)⟩
  range := ⟨mg_none_of X T.g (by kernel_rfl), (T.builtins _ (by decide)).trans (by decide +kernel)⟩
  move := ⟨tokOf (nsIn (KF w) mainGlobals "_MOVE_COST"), mg_of X T.g (by kernel_rfl)⟩
  case := ⟨tokOf (nsIn (KF w) mainGlobals "_CASE_COST"), mg_of X T.g (by kernel_rfl)⟩
  zip := ⟨mg_none_of X T.g (by kernel_rfl), (T.builtins _ (by decide)).trans (by decide +kernel)⟩

theorem exc_wof (X : (KF w).In h) {p : Program} {loose : List Str} {mean : ExcName → Option Value} (T : Top p loose mean mg mb h) : Exc (Wof w mg mb h env) (KF w) 103 where
  inB := X
  noT := fun a o e => kf_noT e
  own := by
    have hk : ∀ b o, b ≠ 68 → h.get? b = some o → (h.hide 68).get? b = some o := fun b o n e => (Heap.hide_ne h n).trans e
    have XK : (KF w).In (h.hide 68) := fun a o e => hk a o (kf_noT e) (X a o e)
    have P := topRead_of T
    refine ⟨h.hide 68, fun b o e => ⟨?_, Heap.of_hide e⟩, own_of_in (p := p) (loose := loose) (mb := mb) XK ⟨?_, ?_, ?_, P.builtins, P.free⟩ (by kernel_rfl) (by kernel_rfl)⟩
    · rintro rfl
      have e' : (h.hide 68).get? 68 = some o := e
      rw [Heap.hide_self] at e'; cases e'
    · exact P.g.at' fun o e => hk _ _ (by show 3 ≠ 68; decide) e
    · exact P.b.at' fun o e => hk _ _ (by show 0 ≠ 68; decide) e
    · obtain ⟨mc, a, b⟩ := P.nolimit
      exact ⟨mc, a.at' fun o e => hk _ _ (by show 2 ≠ 68; decide) e, b⟩
  self := by kernel_rfl
end
end Mine
namespace Mine
open PySem PySem.W PySem.Calls PyProof.Rows

noncomputable def lawD : DS := den_law d__law_events d__law_name d__law_talk readF d__law_piece d__paren_depth d__substitution_cost d__law_table d__law_ways d__law_links d__law_most d_add_func_stats d__law_book d_add_callers d_count_calls

section
variable {w : World} {mg mb : Str → Option Value} {h : Heap}

theorem ss_lawD {env : Env} (X : (KF w).In h) {p : Program} {loose : List Str} {mean : ExcName → Option Value} (T : Top p loose mean mg mb h) (hIs : h.IsCode 72 68 #[]) (hT : h.TableAt 72 68 #[]) (hbm : ∃ bm ob, BMod h mainGlobals mg bm ob)
    (fr0 : env.frame = some h.objs.size) (km0 : env.scope.kind ≠ .module) : Ss (Wof w mg mb h env) 8 (fScope (stAt 28)) lawD (fBody (stAt 28)) := by
  have G : Good (Wof w mg mb h env) := good_wof X T hT
  have NM : Nms (Wof w mg mb h env) := nms_wof X T
  have C : Cls (Wof w mg mb h env) (KF w) 45 52 := cls_wof X T.g
  have hcode : CodeOk (Wof w mg mb h env) := ⟨hIs, hT, by show 72 ≠ 68; decide⟩
  have hbm' : ∃ bm ob, BMod (Wof w mg mb h env).hB mainGlobals (Wof w mg mb h env).mg bm ob ∧ bm ≠ (Wof w mg mb h env).PT := by
    obtain ⟨bm, ob, B⟩ := hbm
    refine ⟨bm, ob, B, ?_⟩
    rintro rfl
    have e1 := B.obj
    have e2 : h.get? 68 = some { cls := .none, data := .fields #[] } := hT.2
    have e3 : h.get? 68 = some ob := e1
    rw [e2] at e3; cases e3
    have := B.cls
    cases this
  have ac := fn_add_callers G NM hcode hbm' (fun_add_callers X T.g)
  exact @ss_law _ G NM _ (fn__law_events G NM (fun__law_events X T.g)) _ (fn__law_name G NM (fun__law_name X T.g)) _ (fn__law_talk G NM (fun__law_talk X T.g)) _ (read_ok G NM (exc_wof X T) ⟨env, rfl, fr0, km0⟩ (fun_parse257 X T.g) (fun__law_read X T.g)) _ (fn__law_piece G NM (fun__law_piece X T.g)) _ (fn__paren_depth G NM (pat_wof X T.g) (fun__paren_depth X T.g)) _ (fn__substitution_cost G NM (fun__substitution_cost X T.g)) _ (fn__law_table G NM ac (fun__law_table X T.g)) _ (fn__law_ways G NM (fun__law_ways X T.g)) _ (fn__law_links G NM (fun__law_links X T.g)) _ (fn__law_most G NM (fun__law_most X T.g)) _ (fn_add_func_stats G NM ac (fun_add_func_stats X T.g)) _ (fn__law_book G NM (fun__law_book X T.g)) _ ac _ (fn_count_calls G NM (fun_count_calls X T.g)) (mkc_ok G C (by decide)) (cmpr_ok G C (by decide))

theorem oldK_of {env : Env} {h' : Heap} (hT : h.TableAt 72 68 #[]) (l : Le (Wof w mg mb h env) h h') : OldK h h' := by
  obtain ⟨more, _, e'⟩ := l.tab #[] trivial hT.2
  refine ⟨fun b o e => ?_, fun b o e => ?_⟩
  · by_cases hb : b = 68
    · subst hb
      have e₀ : o = { cls := .none, data := .fields #[] } := Option.some.inj (e.symm.trans hT.2)
      subst e₀
      exact .inr (.inl ⟨hT.isCodeTable, rfl, #[], more, rfl, e'⟩)
    · exact .inl (l.keep b o ⟨hb, Nat.ne_of_lt (Heap.lt_size e)⟩ e)
  · by_cases hb : b = 68
    · subst hb; exact ⟨_, e'⟩
    · exact ⟨o, l.keep b o ⟨hb, Nat.ne_of_lt (Heap.lt_size e)⟩ e⟩

theorem ints_D {W : Wd} {K : KM} : ∀ {vs : List Value} {ns : List Int}, IntsAre vs ns → AllD W K vs (ns.map .int)
  | _, _, .nil => .nil
  | _, _, .cons n t r => .cons (.int n t) (ints_D r)


theorem law_runs {p : Program} {loose : List Str} {mean : ExcName → Option Value} {s : Shared} (X : (KF w).In s.heap) (T : Top p loose mean mg mb s.heap) (hIs : s.heap.IsCode 72 68 #[]) (hT : s.heap.TableAt 72 68 #[]) (hbm : ∃ bm ob, BMod s.heap mainGlobals mg bm ob)
    (hg : s.gens = #[]) {a : Addr} {vs : List Value} {ns : List Int} (hL : s.heap.IsList a vs.toArray) (hI : IntsAre vs ns)
    {σ' : Sto} (hd : lawD [(40, .v (.lst (ns.map .int)))] = some (.ret (.bool true), σ')) {R : Result → Shared → Prop}
    (hR : ∀ s', OldK s.heap s'.heap → s'.os = s.os → AllBare s'.gens → R (.ok (.ret (.bool true))) s') :
    codeAny (model PySem.Challenge.rw_xg0019_01.row.prog w) callerA (.call (.ref 199) ⟨[.ref a], []⟩) R s := by
  have e1 : s.heap.get? 199 = some (obAt w 199) := X _ _ (by kernel_rfl)
  have e2 : (obAt w 199).data = .func (fdAt w 199) := by kernel_rfl
  have e3 : (fdAt w 199).scope = fScope (stAt 28) := by kernel_rfl
  have e4 : (fdAt w 199).body = .stmts (fBody (stAt 28)) := by kernel_rfl
  have e5 : (fdAt w 199).closure = [] := by kernel_rfl
  have e6 : (fdAt w 199).globals = mainGlobals := by kernel_rfl
  have e7 : (fdAt w 199).builtins = builtinsNs := by kernel_rfl
  have e8 : s.heap.CodeRec (fdAt w 199).code (fdAt w 199).qualname := codeRec_of X (by kernel_rfl)
  refine codeAny_call_function (by decide) e1 e2 (by rw [e3]; rfl) (by rw [e3]; rfl) e4 e8 ?_
  refine @BindsTo.of_eq s (fdAt w 199) _ _ (bd_law (.ref a)) _ _ _ _ ?_
  rw [e3, e5, e6, e7]
  generalize (fdAt w 199).qualname ++ ".<locals>." = qual
  generalize (fdAt w 199).code = code
  refine newEnv_one (x := nm 40) (v := .ref a) rfl (by decide +kernel) (fun env he h' XC => ?_)
  have hloc : env.locals = s.heap.objs.size := by rw [he]; rfl
  have hfr : env.frame = some s.heap.objs.size := by rw [he]; rfl
  have hscope : env.scope = fScope (stAt 28) := by rw [he]; rfl
  have hcells : env.cells = cellsFrom (s.heap.objs.size + 1) (fScope (stAt 28)).names [] := by rw [he]; rfl
  have km0 : env.scope.kind = .function := by rw [hscope]; rfl
  have hSs := @ss_lawD _ _ _ _ env X _ _ _ T hIs hT hbm hfr (by rw [km0]; decide)
  have G : Good (Wof w mg mb s.heap env) := good_wof X T hT
  have keep : ∀ b o, s.heap.get? b = some o → h'.get? b = some o := by
    obtain ⟨h'', tk, e, k⟩ := XC.done
    simp only [Shared.mk.injEq] at e
    obtain ⟨e, _⟩ := e
    subst e; exact k
  obtain ⟨oL, hoL, hcL, n, hdL⟩ := hL
  have hne : a ≠ 68 := by
    rintro rfl
    have := hT.2
    rw [hoL] at this; cases this
    cases hcL
  have hlt : a < s.heap.objs.size := Heap.lt_size hoL
  refine ⟨T.nolimit.keeps keep, codeAny_func ?_⟩
  generalize hK : (putK (fun _ => none) a oL : KM) = K
  have kA : ∀ b, b ≠ a → K b = none := fun b hb => by rw [← hK]; exact if_neg hb
  have ka : K a = some oL := by rw [← hK]; exact putK_self _ _ _
  have hns := XC.toInCall.ns
  have live : ∃ o, h'.get? s.heap.objs.size = some o ∧ ∀ vs, o.data ≠ .fields vs := by
    obtain ⟨oF, es, ep, ho, hdF, _⟩ := hns
    rw [hloc] at ho
    exact ⟨oF, ho, fun vs q => by rw [hdF] at q; cases q⟩
  have fresh : ∀ b, s.heap.objs.size ≤ b → s.heap.get? b = none := fun b hb => Heap.get?_none_of_le hb
  have size68 : (68 : Nat) < s.heap.objs.size := Heap.lt_size hT.2
  have ok : Ok (Wof w mg mb s.heap env) K { s with heap := h', toks := s.toks + 1 } :=
    { base := .of_keep keep
      sub := fun b o e => by
        by_cases hb : b = a
        · subst hb; rw [ka] at e; cases e; exact keep _ _ hoL
        · rw [kA b hb] at e; cases e
      pt := kA _ (Ne.symm hne)
      lf := kA _ (Nat.ne_of_gt hlt)
      live := live
      b0 := get_size_none _
      tk := Nat.le_add_left _ _ }
  have kdf : ∀ x, env.kindOf x = (fScope (stAt 28)).names.lookup x := fun x => by rw [Env.kindOf, hscope]
  have fOwnL : ∀ b, s.heap.objs.size ≤ b → OwnL (Wof w mg mb s.heap env) K b := fun b hb => ⟨kA b (Nat.ne_of_gt (Nat.lt_of_lt_of_le hlt hb)), Nat.ne_of_gt (Nat.lt_of_lt_of_le size68 hb), fresh b hb⟩
  have cab : ∀ n c, env.cells.lookup n = some c → s.heap.objs.size < c := fun n c e => by have := XC.above n c (mem_of_lookup e); rwa [hloc] at this
  have R₀ : RdOk (Wof w mg mb s.heap env) K env h' (fun y => if y = nm 40 then some (.ref a) else none) [(40, .v (.lst (ns.map .int)))] :=
    { kind := km0
      gl := by rw [he]; rfl
      bi := by rw [he]; rfl
      ol := by rw [hloc]; exact fOwnL _ (Nat.le_refl _)
      oc := fun n c e => by
        have q := fOwnL c (Nat.le_of_lt (cab n c e))
        exact ⟨⟨q.1, ⟨q.2.1, Nat.ne_of_gt (cab n c e)⟩, q.2.2⟩, _, XC.cell n c e⟩
      inj := fun n n' c e e' => name_of_addr XC.apart (mem_of_lookup e) (mem_of_lookup e')
      cd := fun h => by
        rw [kdf] at h
        exact absurd (h.symm.trans (show (fScope (stAt 28)).names.lookup (nm 51) = none by decide +kernel)) (by simp)
      cx := fun x e => by
        rw [kdf] at e
        exact Option.isSome_iff_exists.mp (by rw [hcells]; exact cellsFrom_some _ _ _ _ (.inl (mem_of_lookup e)))
      ns := hns
      rd := fun i l hi e hkv => by
        unfold Sto.get at e
        split at e
        · rename_i q
          cases e
          have hi' := beq_t q
          subst hi'
          refine ⟨.ref a, ?_, .v (.lst ka hcL hdL (ints_D hI))⟩
          unfold valOf
          have q2 : env.kindOf (nm 40) = some .local := by rw [kdf]; decide +kernel
          rw [q2]
          exact if_pos rfl
        · cases e
      ap := fun i d a hi e => by
        unfold Sto.get at e
        split at e <;> cases e
      ap2 := fun i j d e a hi hj e1 => by
        unfold Sto.get at e1
        split at e1 <;> cases e1 }
  have rm : Room (Wof w mg mb s.heap env) (callerA.deeper env) 8 := ⟨rfl, by show callerA.depth + 1 + 8 < recursionLimit; decide +kernel, by show callerA.units + 3 + 8 * 8 + 200 < cLine; decide +kernel, fun _ => rfl⟩
  refine @wpAny_mono _ _ _ _ _ _ _ _ _ (@hSs (callerA.deeper env) env _ _ K _ (.ret (.bool true), σ') _ hscope hd ok R₀ rm) (fun flow s' ⟨K', m', y, _, _, ho⟩ => ?_) fun _ _ h => h
  cases flow with
  | ret v =>
    cases ho
    exact hR s' (oldK_of hT y.ok.base) y.os (y.gens (by show AllBare s.gens; rw [hg]; exact AllBare.empty))
  | _ => exact ho.elim
end
end Mine
namespace Mine
open PySem PySem.W PySem.Calls PyProof.Rows
set_option maxHeartbeats 8000000 in
theorem holds_of (plain : ∀ l : List Int, l.length ≤ 63 → ∃ σ, lawD [(40, .v (.lst (l.map .int)))] = some (.ret (.bool true), σ)) : PySem.Challenge.rw_xg0019_01.Holds := by
  refine law_of (hd ?_)
  k_fill
  intro w s₀ s₁ mg mb G Y fa o pm cd doc dV kV ho hd hcd hD hmg hg args vals as hpre hlay hrd hwl hlo
  have KX := kIn_of Y
  refine Ground.open G ?_
  intro T B D TE TW
  have hbm := bmod_of_top T
  wrow_args hpre hlay hrd hwl hlo
  refine enter_call ?_
  rename_i ns _ _ _ _ _ _ _ lst vs _ hL _ _ _ hI _ hlen _
  have efa : mg (Str.ofString "law") = some (.ref 199) := mg_of KX T.g (by kernel_rfl)
  have hmg' : mg (Str.ofString "law") = some (.ref fa) := hmg
  rw [efa] at hmg'
  refine hide fun GG kk => ?_
  cases hmg'
  obtain ⟨d, hdm, hdn⟩ : ∃ d ∈ recsOf Mine.hd.view_1, d.name = ("add_callers" : Str) := by
    obtain ⟨d, h1, h2⟩ := List.any_eq_true.mp (show (recsOf Mine.hd.view_1).any (fun d => d.name == ("add_callers" : Str)) = true by kernel_rfl)
    exact ⟨d, h1, beq_iff_eq.mp h2⟩
  obtain ⟨hIs, hT⟩ := code_wof KX T hdm hdn
  obtain ⟨σ', hp⟩ := plain ns (by omega)
  refine kk ?_
  clear kk GG
  refine law_runs KX T hIs hT hbm hg hL hI hp fun s' K os gb => ?_
  exact ⟨.inl ⟨_, _, [], rfl, fun _ => rfl, ReadsW.bool true, (by wrow_post), fun _ => ⟨List.nodup_nil, fun _ hm => (nomatch hm)⟩⟩, K, os, gb⟩
end Mine
namespace Mine
open PySem PySem.Builtin

/-! the pattern's machine on a text: its turns, one by one -/
noncomputable abbrev SM := Sre.M
noncomputable def iter : Nat → SM → SM
  | 0, m => m
  | n + 1, m => iter n m.step
theorem iter_add : ∀ (a b : Nat) (m : SM), iter (a + b) m = iter b (iter a m)
  | 0, b, m => by rw [Nat.zero_add]; rfl
  | a + 1, b, m => by rw [Nat.succ_add]; exact iter_add a b m.step
theorem step_done {m : SM} (h : m.outcome.isSome = true) : m.step = m := by unfold Sre.M.step; rw [if_pos h]
theorem iter_done {m : SM} (h : m.outcome.isSome = true) : ∀ n, iter n m = m
  | 0 => rfl
  | n + 1 => by unfold iter; rw [step_done h]; exact iter_done h n
theorem runFor_iter : ∀ (n : Nat) (m : SM), m.runFor n = iter n m
  | 0, m => rfl
  | n + 1, m => by
    unfold Sre.M.runFor
    split
    · rename_i h; rw [iter_done h]
    · exact runFor_iter n _
theorem drv_iter : ∀ (k n : Nat) (m : SM), (iter n m).outcome.isSome = true → n ≤ 4 * k → drv (k + 1) m = some (iter n m)
  | 0, n, m, h, hn => by
    obtain rfl : n = 0 := by omega
    have e : m.runFor Re.reTurnSteps = m := by rw [runFor_iter]; exact iter_done h _
    unfold drv
    rw [e, if_pos (show m.outcome.isSome = true from h)]; rfl
  | k + 1, n, m, h, hn => by
    unfold drv
    have e : m.runFor Re.reTurnSteps = iter 4 m := runFor_iter _ _
    rw [e]
    split
    · rename_i q
      congr 1
      by_cases h4 : n ≤ 4
      · obtain ⟨d, e4⟩ : ∃ d, 4 = n + d := ⟨4 - n, by omega⟩
        rw [e4, iter_add, iter_done h]
      · obtain ⟨d, rfl⟩ : ∃ d, n = 4 + d := ⟨n - 4, by omega⟩
        rw [iter_add, iter_done q]
    · rename_i q
      by_cases h4 : n ≤ 4
      · obtain ⟨d, e4⟩ : ∃ d, 4 = n + d := ⟨4 - n, by omega⟩
        rw [e4, iter_add, iter_done h] at q
        exact absurd h q
      · obtain ⟨d, rfl⟩ : ∃ d, n = 4 + d := ⟨n - 4, by omega⟩
        rw [iter_add] at h ⊢
        exact drv_iter k d _ h (by omega)

noncomputable def kp : Sre.Kept := { lastmark := -1, lastindex := -1, whole := true, marks := #[] }
noncomputable def F0 (s : Nat) (o : Bool) : Sre.Frame := { wait := .nextStart, pc := 9, pos := s, outermost := o }
noncomputable def F1 (p : Nat) (cnt : Int) (o : Bool) : Sre.Frame := { wait := .possMore, pc := 11, pos := p, outermost := o, count := cnt, kept := kp, loop := 0 }
noncomputable def F2 (pc p : Nat) : Sre.Frame := { wait := .nextBranch, pc := pc, pos := p, outermost := false, kept := kp }
/-- within the string -/
noncomputable def HS (t : Array Nat) (s : Nat) (o : Bool) (fs : List Sre.Frame) (pc p hd wgt : Nat) (ans : Option Bool) (se : Sre.Seen) : SM :=
  { code := qcode, text := t, lim := t.size, start := s, lastStart := t.size, wholeText := false, mustAdvance := false, pc := pc, pos := p, handed := hd, outermost := false, marks := #[], lastmark := -1, lastindex := -1,
    loops := #[{ pc := 0, count := -1, began := none, outer := none }], inner := some 0, frames := fs, weight := wgt, answer := ans, seen := se, outcome := none }
/-- outside of it -/
noncomputable def AS (t : Array Nat) (s : Nat) (o : Bool) (fs : List Sre.Frame) (pc p hd wgt : Nat) (ans : Option Bool) (se : Sre.Seen) : SM :=
  { code := qcode, text := t, lim := t.size, start := s, lastStart := t.size, wholeText := false, mustAdvance := false, pc := pc, pos := p, handed := hd, outermost := o, marks := #[], lastmark := -1, lastindex := -1,
    loops := #[], inner := none, frames := fs, weight := wgt, answer := ans, seen := se, outcome := none }

section
variable {t : Array Nat} {s p : Nat} {o : Bool} {se : Sre.Seen} {cnt : Int}
theorem h1 : (HS t s o [F1 p cnt o, F0 s o] 15 p p 2 none se).step = HS t s o [F2 16 p, F1 p cnt o, F0 s o] 17 p p 3 none (se.add 7) := by kernel_rfl
theorem h3 : (HS t s o [F2 16 p, F1 p cnt o, F0 s o] 25 (p + 1) p 3 none se).step = HS t s o [F2 16 p, F1 p cnt o, F0 s o] 34 (p + 1) p 3 none (se.add 15) := by kernel_rfl
theorem h4 : (HS t s o [F2 16 p, F1 p cnt o, F0 s o] 34 (p + 1) p 3 none se).step = HS t s o [F2 16 p, F1 p cnt o, F0 s o] 34 (p + 1) (p + 1) 3 (some true) (se.add 1) := by kernel_rfl
theorem h5 : (HS t s o [F2 16 p, F1 p cnt o, F0 s o] 34 (p + 1) (p + 1) 3 (some true) se).step = { HS t s o [F1 p cnt o, F0 s o] 16 p (p + 1) 2 (some true) se with outermost := false } := by kernel_rfl

theorem acc_in (c : Nat) : Sre.accepts qcode 17 c se = if c == 34 then .ok (false, (se.add 21).add 16) else if c == 92 then .ok (false, ((se.add 21).add 16).add 16) else .ok (true, (((se.add 21).add 16).add 16).add 0) := by kernel_rfl
theorem acc_lit (c : Nat) : Sre.accepts qcode 35 c se = .ok (c == 34, se) := by kernel_rfl
theorem acc_lit0 (c : Nat) : Sre.accepts qcode 9 c se = .ok (c == 34, se) := by kernel_rfl
theorem acc_esc (c : Nat) : Sre.accepts qcode 28 c se = .ok (c == 92, se) := by kernel_rfl
theorem acc_any (c : Nat) : Sre.accepts qcode 30 c se = .ok (c != 10, se) := by kernel_rfl

/-- one sign is asked -/
noncomputable def one (m : SM) (i w : Nat) : SM := if m.pos ≥ m.lim then m.say false else match Sre.accepts m.code i (m.text.getD m.pos 0) m.seen with
  | .error why => m.stick why
  | .ok (false, seen) => { m with seen }.say false
  | .ok (true, seen) => { m with seen, pc := i + w, pos := m.pos + 1 }
theorem one_no {m : SM} {i w : Nat} {se' : Sre.Seen} (h : Sre.accepts m.code i (m.text.getD m.pos 0) m.seen = .ok (false, se')) (hl : m.pos < m.lim) : one m i w = { m with seen := se' }.say false := by
  unfold one
  rw [if_neg (by omega), h]
theorem one_yes {m : SM} {i w : Nat} {se' : Sre.Seen} (h : Sre.accepts m.code i (m.text.getD m.pos 0) m.seen = .ok (true, se')) (hl : m.pos < m.lim) : one m i w = { m with seen := se', pc := i + w, pos := m.pos + 1 } := by
  unfold one
  rw [if_neg (by omega), h]
theorem one_end {m : SM} {i w : Nat} (hl : m.lim ≤ m.pos) : one m i w = m.say false := by
  unfold one
  rw [if_pos (by omega)]

theorem h2 {fs : List Sre.Frame} {hd wgt : Nat} : (HS t s o fs 17 p hd wgt none se).step = one (HS t s o fs 17 p hd wgt none (se.add 13)) 17 8 := by kernel_rfl
theorem e1 {fs : List Sre.Frame} {hd wgt : Nat} : (HS t s o fs 28 p hd wgt none se).step = one (HS t s o fs 28 p hd wgt none (se.add 16)) 28 2 := by kernel_rfl
theorem e2 {fs : List Sre.Frame} {hd wgt : Nat} : (HS t s o fs 30 p hd wgt none se).step = one (HS t s o fs 30 p hd wgt none (se.add 2)) 30 1 := by kernel_rfl
theorem a0 {fs : List Sre.Frame} {hd wgt : Nat} : (AS t s o fs 9 p hd wgt none se).step = one (AS t s o fs 9 p hd wgt none (se.add 16)) 9 2 := by kernel_rfl
theorem a9 {fs : List Sre.Frame} {hd wgt : Nat} : (AS t s o fs 35 p hd wgt none se).step = one (AS t s o fs 35 p hd wgt none (se.add 16)) 35 2 := by kernel_rfl

theorem x1 {fs : List Sre.Frame} {hd : Nat} : (HS t s o (F2 16 p :: fs) 17 p hd 3 (some false) se).step = HS t s o (F2 27 p :: fs) 28 p p 3 none se := by kernel_rfl
theorem x2 {fs : List Sre.Frame} {hd : Nat} : (HS t s o (F2 27 p :: fs) 28 p hd 3 (some false) se).step = HS t s o fs 27 p hd 2 (some false) se := by kernel_rfl
theorem e3 {fs : List Sre.Frame} {q hd wgt : Nat} : (HS t s o fs 31 q hd wgt none se).step = HS t s o fs 34 q hd wgt none (se.add 15) := by kernel_rfl
theorem e4 {fs : List Sre.Frame} {q hd wgt : Nat} : (HS t s o fs 34 q hd wgt none se).step = HS t s o fs 34 q q wgt (some true) (se.add 1) := by kernel_rfl
theorem e5 {fs : List Sre.Frame} {q pc hd : Nat} : (HS t s o (F2 pc p :: fs) 34 q hd 3 (some true) se).step = HS t s o fs pc p hd 2 (some true) se := by kernel_rfl

theorem m1 {pc hd : Nat} : (HS t s o [F1 p cnt o, F0 s o] pc p hd 2 (some true) se).step = Sre.M.possessive { HS t s o [F0 s o] 11 p hd 1 none se with outermost := o } 0 (cnt + 1) (some p) := by kernel_rfl
theorem m2 {pc hd : Nat} : (HS t s o [F1 p cnt o, F0 s o] pc p hd 2 (some false) se).step = Sre.M.possessive { HS t s o [F0 s o] 11 p p 1 none se with outermost := o } 0 cnt (some p) := by kernel_rfl
theorem poss_eq {hd : Nat} {c : Int} {b : Option Nat} : Sre.M.possessive { HS t s o [F0 s o] 11 p hd 1 none se with outermost := o } 0 c b =
    if c < ((0 : Nat) : Int) then Sre.M.attempt { HS t s o [F0 s o] 11 p hd 1 none se with outermost := o } { Sre.M.frame { HS t s o [F0 s o] 11 p hd 1 none se with outermost := o } .possBelow with loop := 0, count := c } 15 hd false
    else if ((c < ((4294967295 : Nat) : Int) : Bool) || (4294967295 : Nat) == Sre.maxRepeat) && b != some hd then HS t s o [F1 hd c o, F0 s o] 15 hd hd 2 none se
    else AS t s o [F0 s o] 35 hd hd 1 none se := by kernel_rfl
theorem poss_more {hd : Nat} {c : Int} (hc : 0 ≤ c) (hp : p ≠ hd) : Sre.M.possessive { HS t s o [F0 s o] 11 p hd 1 none se with outermost := o } 0 c (some p) = HS t s o [F1 hd c o, F0 s o] 15 hd hd 2 none se := by
  rw [poss_eq, if_neg (by omega), if_pos]
  rw [show ((4294967295 : Nat) == Sre.maxRepeat) = true from rfl, Bool.or_true, Bool.true_and]
  simpa using hp
theorem poss_end {c : Int} (hc : 0 ≤ c) : Sre.M.possessive { HS t s o [F0 s o] 11 p p 1 none se with outermost := o } 0 c (some p) = AS t s o [F0 s o] 35 p p 1 none se := by
  rw [poss_eq, if_neg (by omega), if_neg]
  simp
/-- one sign of the string -/
theorem ord_go (hl : p < t.size) (q1 : t.getD p 0 ≠ 34) (q2 : t.getD p 0 ≠ 92) (hc : 0 ≤ cnt) : ∃ se', iter 6 (HS t s o [F1 p cnt o, F0 s o] 15 p p 2 none se) = HS t s o [F1 (p + 1) (cnt + 1) o, F0 s o] 15 (p + 1) (p + 1) 2 none se' := by
  have a : ∀ se, ∃ se', Sre.accepts qcode 17 (t.getD p 0) se = .ok (true, se') := fun se => ⟨_, by rw [acc_in, if_neg (by simpa using q1), if_neg (by simpa using q2)]⟩
  obtain ⟨se', ha⟩ := a ((se.add 7).add 13)
  refine ⟨(se'.add 15).add 1, ?_⟩
  show ((HS t s o [F1 p cnt o, F0 s o] 15 p p 2 none se).step.step.step.step.step.step) = _
  rw [h1, h2, one_yes ha hl]
  show (HS t s o [F2 16 p, F1 p cnt o, F0 s o] 25 (p + 1) p 3 none se').step.step.step.step = _
  rw [h3, e4, e5, m1, poss_more (by omega) (by omega)]
theorem esc_go (hl : p + 1 < t.size) (q1 : t.getD p 0 = 92) (q2 : t.getD (p + 1) 0 ≠ 10) (hc : 0 ≤ cnt) : ∃ se', iter 9 (HS t s o [F1 p cnt o, F0 s o] 15 p p 2 none se) = HS t s o [F1 (p + 2) (cnt + 1) o, F0 s o] 15 (p + 2) (p + 2) 2 none se' := by
  have a : ∀ se, ∃ se', Sre.accepts qcode 17 (t.getD p 0) se = .ok (false, se') := fun se => ⟨_, by rw [acc_in, q1]; rfl⟩
  have b : ∀ se, Sre.accepts qcode 28 (t.getD p 0) se = .ok (true, se) := fun se => by rw [acc_esc, q1]; rfl
  have c : ∀ se, Sre.accepts qcode 30 (t.getD (p + 1) 0) se = .ok (true, se) := fun se => by rw [acc_any, show (t.getD (p + 1) 0 != 10) = true by simpa using q2]
  obtain ⟨se', ha⟩ := a ((se.add 7).add 13)
  refine ⟨(((se'.add 16).add 2).add 15).add 1, ?_⟩
  show ((HS t s o [F1 p cnt o, F0 s o] 15 p p 2 none se).step.step.step.step.step.step.step.step.step) = _
  rw [h1, h2, one_no ha (Nat.lt_of_succ_lt hl)]
  show (HS t s o [F2 16 p, F1 p cnt o, F0 s o] 17 p p 3 (some false) se').step.step.step.step.step.step.step = _
  rw [x1, e1, one_yes (b _) (Nat.lt_of_succ_lt hl)]
  show (HS t s o [F2 27 p, F1 p cnt o, F0 s o] 30 (p + 1) p 3 none (se'.add 16)).step.step.step.step.step = _
  rw [e2, one_yes (c _) hl]
  show (HS t s o [F2 27 p, F1 p cnt o, F0 s o] 31 (p + 1 + 1) p 3 none ((se'.add 16).add 2)).step.step.step.step = _
  rw [e3, e4, e5, m1, poss_more (by omega) (by omega)]
/-- what the machine ends with -/
noncomputable def fin (t : Array Nat) (s q : Nat) (o : Bool) (se : Sre.Seen) : SM := { AS t s o [] 9 s q 0 (some true) se with outcome := some .matched }
theorem a10 {fs : List Sre.Frame} {q hd wgt : Nat} : (AS t s o fs 37 q hd wgt none se).step = AS t s o fs 37 q q wgt (some true) (se.add 1) := by cases o <;> kernel_rfl
theorem a11 {q hd : Nat} : (AS t s o [F0 s o] 37 q hd 1 (some true) se).step = AS t s o [] 9 s hd 0 (some true) se := by kernel_rfl
theorem a12 {hd : Nat} : (AS t s o [] 9 s hd 0 (some true) se).step = fin t s hd o se := by kernel_rfl
theorem end_go (hl : p < t.size) (q1 : t.getD p 0 = 34) (hc : 0 ≤ cnt) : ∃ se', iter 10 (HS t s o [F1 p cnt o, F0 s o] 15 p p 2 none se) = fin t s (p + 1) o se' := by
  have a : ∀ se, ∃ se', Sre.accepts qcode 17 (t.getD p 0) se = .ok (false, se') := fun se => ⟨_, by rw [acc_in, q1]; rfl⟩
  have b : ∀ se, Sre.accepts qcode 28 (t.getD p 0) se = .ok (false, se) := fun se => by rw [acc_esc, q1]; rfl
  have c : ∀ se, Sre.accepts qcode 35 (t.getD p 0) se = .ok (true, se) := fun se => by rw [acc_lit, q1]; rfl
  obtain ⟨se', ha⟩ := a ((se.add 7).add 13)
  refine ⟨((se'.add 16).add 16).add 1, ?_⟩
  show ((HS t s o [F1 p cnt o, F0 s o] 15 p p 2 none se).step.step.step.step.step.step.step.step.step.step) = _
  rw [h1, h2, one_no ha hl]
  show (HS t s o [F2 16 p, F1 p cnt o, F0 s o] 17 p p 3 (some false) se').step.step.step.step.step.step.step.step = _
  rw [x1, e1, one_no (b _) hl]
  show (HS t s o [F2 27 p, F1 p cnt o, F0 s o] 28 p p 3 (some false) (se'.add 16)).step.step.step.step.step.step = _
  rw [x2, m2, poss_end hc, a9, one_yes (c _) hl]
  show (AS t s o [F0 s o] 37 (p + 1) p 1 none ((se'.add 16).add 16)).step.step.step = _
  rw [a10, a11, a12]

noncomputable def tc (t : Array Nat) (p : Nat) : Nat := t.getD p 0
/-- where the string ends -/
noncomputable def body (t : Array Nat) : Nat → Nat → Option Nat
  | 0, _ => none
  | k + 1, p => if p < t.size then
      if tc t p = 34 then some p
      else if tc t p = 92 then if p + 1 < t.size ∧ tc t (p + 1) ≠ 10 then body t k (p + 2) else none
      else body t k (p + 1)
    else none
theorem body_go : ∀ (k p q : Nat) (cnt : Int) (se : Sre.Seen), body t k p = some q → 0 ≤ cnt → ∃ n se', n ≤ 10 * k ∧ iter n (HS t s o [F1 p cnt o, F0 s o] 15 p p 2 none se) = fin t s (q + 1) o se'
  | 0, _, _, _, _, h, _ => by cases h
  | k + 1, p, q, cnt, se, h, hc => by
    unfold body at h
    split at h
    case isFalse => cases h
    rename_i hl
    split at h
    · rename_i q1
      cases h
      obtain ⟨se', e⟩ := end_go (s := s) (o := o) (se := se) hl q1 hc
      exact ⟨10, se', by omega, e⟩
    · rename_i q1
      split at h
      · rename_i q2
        split at h
        case isFalse => cases h
        rename_i q3
        obtain ⟨se', e⟩ := esc_go (s := s) (o := o) (se := se) q3.1 q2 q3.2 hc
        obtain ⟨n, se'', hn, e'⟩ := body_go k (p + 2) q (cnt + 1) se' h (by omega)
        exact ⟨9 + n, se'', by omega, by rw [iter_add, e, e']⟩
      · rename_i q2
        obtain ⟨se', e⟩ := ord_go (s := s) (o := o) (se := se) hl q1 q2 hc
        obtain ⟨n, se'', hn, e'⟩ := body_go k (p + 1) q (cnt + 1) se' h (by omega)
        exact ⟨6 + n, se'', by omega, by rw [iter_add, e, e']⟩

theorem a1 {hd : Nat} : (AS t s o [F0 s o] 11 p hd 1 none se).step = Sre.M.possessive { HS t s o [F0 s o] 11 p p 1 none (se.add 28) with outermost := o } 0 0 none := by kernel_rfl
theorem poss_none : Sre.M.possessive { HS t s o [F0 s o] 11 p p 1 none se with outermost := o } 0 0 none = HS t s o [F1 p 0 o, F0 s o] 15 p p 2 none se := by
  rw [poss_eq, if_neg (by decide), if_pos (by rfl)]
/-- a string that begins here -/
theorem begin_go {k q : Nat} (hl : s < t.size) (q1 : t.getD s 0 = 34) (h : body t k (s + 1) = some q) : ∃ n se', n ≤ 10 * k + 2 ∧ iter n (AS t s o [F0 s o] 9 s s 1 none se) = fin t s (q + 1) o se' := by
  have c : ∀ se, Sre.accepts qcode 9 (t.getD s 0) se = .ok (true, se) := fun se => by rw [acc_lit0, q1]; rfl
  obtain ⟨n, se', hn, e⟩ := body_go (s := s) (o := o) k (s + 1) q 0 ((se.add 16).add 28) h (by decide)
  refine ⟨2 + n, se', by omega, ?_⟩
  rw [iter_add, ← e]
  congr 1
  show (AS t s o [F0 s o] 9 s s 1 none se).step.step = _
  rw [a0, one_yes (c _) hl]
  show (AS t s o [F0 s o] 11 (s + 1) s 1 none (se.add 16)).step = _
  rw [a1, poss_none]
theorem a2 : (AS t s o [F0 s o] 9 s s 1 (some false) se).step = if s < t.size then AS t (s + 1) false [F0 (s + 1) false] 9 (s + 1) (s + 1) 1 none se else AS t s o [] 9 s s 0 (some false) se := by kernel_rfl
/-- no string begins here -/
theorem skip_go (hl : s < t.size) (q1 : t.getD s 0 ≠ 34) : ∃ se', iter 2 (AS t s o [F0 s o] 9 s s 1 none se) = AS t (s + 1) false [F0 (s + 1) false] 9 (s + 1) (s + 1) 1 none se' := by
  have c : ∀ se, Sre.accepts qcode 9 (t.getD s 0) se = .ok (false, se) := fun se => by rw [acc_lit0, show (t.getD s 0 == 34) = false by simpa using q1]
  refine ⟨se.add 16, ?_⟩
  show (AS t s o [F0 s o] 9 s s 1 none se).step.step = _
  rw [a0, one_no (c _) hl]
  show (AS t s o [F0 s o] 9 s s 1 (some false) (se.add 16)).step = _
  rw [a2, if_pos hl]
theorem search_eq : Sre.forSearch qcode t 0 s t.size false = if ((t.size < s : Bool) || (t.size - s < 2 : Bool)) = true then { AS t s true [] 9 s s 0 (some false) (({} : Sre.Seen).add 14) with lastStart := 0 } else AS t s true [F0 s true] 9 s s 1 none (({} : Sre.Seen).add 14) := by kernel_rfl
end
end Mine
namespace Mine
open PySem PySem.Builtin PySem.Builtin.Bytes

section
variable {t : Array Nat} {s q : Nat}
theorem srch_of {m : SM} {n : Nat} {o : Bool} {s' : Nat} {se : Sre.Seen} (h : iter n m = fin t s' q o se) (hn : n ≤ 3996) : ∃ m', drv 1000 m = some m' ∧ m'.outcome = some .matched ∧ m'.handed = q ∧ m'.start = s' :=
  ⟨fin t s' q o se, by rw [← h]; exact drv_iter 999 n m (by rw [h]; rfl) (by omega), rfl, rfl, rfl⟩
theorem srch0 (h2 : s + 2 ≤ t.size) (q1 : tc t s = 34) (hb : body t 100 (s + 1) = some q) : ∃ m', drv 1000 (Sre.forSearch qcode t 0 s t.size false) = some m' ∧ m'.outcome = some .matched ∧ m'.handed = q + 1 ∧ m'.start = s := by
  rw [search_eq, if_neg (by simp; omega)]
  obtain ⟨n, se', hn, e⟩ := begin_go (o := true) (se := ({} : Sre.Seen).add 14) (show s < t.size by omega) q1 hb
  exact srch_of e (by omega)
theorem srch1 (h2 : s + 2 ≤ t.size) (q0 : tc t s ≠ 34) (q1 : tc t (s + 1) = 34) (hb : body t 100 (s + 2) = some q) : ∃ m', drv 1000 (Sre.forSearch qcode t 0 s t.size false) = some m' ∧ m'.outcome = some .matched ∧ m'.handed = q + 1 ∧ m'.start = s + 1 := by
  rw [search_eq, if_neg (by simp; omega)]
  refine hide fun GG kk => ?_
  obtain ⟨se', e⟩ := skip_go (o := true) (se := ({} : Sre.Seen).add 14) (show s < t.size by omega) q0
  obtain ⟨n, se'', hn, e'⟩ := begin_go (o := false) (se := se') (show s + 1 < t.size by omega) q1 hb
  refine kk ?_
  clear kk GG
  exact srch_of (n := 2 + n) (by rw [iter_add, e, e']) (by omega)
theorem nofind {se : Sre.Seen} : ({ AS t s true [] 9 s s 0 (some false) se with lastStart := 0 } : SM).step = { AS t s true [] 9 s s 0 (some false) se with lastStart := 0, outcome := some .failed } := by kernel_rfl
theorem srchF (h2 : t.size < s + 2) (h3 : s ≤ t.size) : ∃ m', drv 1000 (Sre.forSearch qcode t 0 s t.size false) = some m' ∧ m'.outcome = some .failed := by
  rw [search_eq, if_pos (by simp; omega)]
  refine ⟨_, drv_iter 999 1 _ ?_ (by decide), ?_⟩
  · show (Sre.M.outcome (Sre.M.step _)).isSome = true
    rw [nofind]; rfl
  · show Sre.M.outcome (Sre.M.step _) = _
    rw [nofind]
theorem body_ge : ∀ (k p q : Nat), body t k p = some q → p ≤ q ∧ q < t.size
  | 0, _, _, h => by cases h
  | k + 1, p, q, h => by
    unfold body at h
    split at h
    case isFalse => cases h
    rename_i hl
    split at h
    · cases h; exact ⟨Nat.le_refl _, hl⟩
    · split at h
      · split at h
        · have := body_ge k _ _ h; omega
        · cases h
      · have := body_ge k _ _ h; omega
end
theorem subGo_find {b : Array UInt8} {k start done : Nat} {acc : List (Array UInt8)} {m : SM} (ha : acc.length ≤ 20) (h : drv 1000 (Sre.forSearch qcode (b.map (·.toNat)) 0 start (b.map (·.toNat)).size false) = some m) (ho : m.outcome = some .matched) {hd st : Nat} (eh : m.handed = hd) (es : m.start = st) (hne : hd ≠ st) {acc' : List (Array UInt8)} (hacc : acc ++ (if done < st then [cut8 b done st] else []) ++ [#[]] = acc') :
    subGo qcode b (k + 1) start done false acc = subGo qcode b k hd hd false acc' := by
  subst eh es hacc
  rw [subGo, if_neg (by omega), h]
  dsimp only
  rw [ho]
  dsimp only
  rw [show (m.handed == m.start) = false by simpa using hne]
theorem subGo_stop {b : Array UInt8} {k start done : Nat} {acc : List (Array UInt8)} {m : SM} (ha : acc.length ≤ 20) (h : drv 1000 (Sre.forSearch qcode (b.map (·.toNat)) 0 start (b.map (·.toNat)).size false) = some m) (ho : m.outcome = some .failed) {acc' : List (Array UInt8)} (hacc : (acc ++ if done < (b.map (·.toNat)).size then [cut8 b done (b.map (·.toNat)).size] else []) = acc') :
    subGo qcode b (k + 1) start done false acc = some acc' := by
  subst hacc
  rw [subGo, if_neg (by omega), h]
  dsimp only
  rw [ho]

/-- two strings, a sign between them -/
theorem sub_open {b : Array UInt8} (hb : b.size ≤ 1000) (h0 : tc (b.map (·.toNat)) 0 = 34) (b0 : body (b.map (·.toNat)) 100 1 = some 2) (h3 : tc (b.map (·.toNat)) 3 ≠ 34) (h4 : tc (b.map (·.toNat)) 4 = 34) (b4 : body (b.map (·.toNat)) 100 5 = some ((b.map (·.toNat)).size - 1)) :
    subB qcode b = some (joined #[] [#[], cut8 b 3 4, #[]]) := by
  have g0 := body_ge _ _ _ b0
  have g4 := body_ge _ _ _ b4
  refine hide fun GG kk => ?_
  obtain ⟨m1, d1, o1, e1, s1⟩ := srch0 (s := 0) (by omega) h0 b0
  obtain ⟨m2, d2, o2, e2, s2⟩ := srch1 (s := 3) (by omega) h3 h4 b4
  obtain ⟨m3, d3, o3⟩ := srchF (t := b.map (·.toNat)) (s := (b.map (·.toNat)).size - 1 + 1) (by omega) (by omega)
  refine kk ?_
  clear kk GG
  unfold subB
  rw [if_pos hb, subGo_find (acc' := [#[]]) (by decide) d1 o1 e1 s1 (by decide) rfl]
  rw [subGo_find (acc' := [#[], cut8 b 3 4, #[]]) (Nat.le_of_ble_eq_true rfl) d2 o2 e2 s2 (by omega) rfl]
  rw [subGo_stop (acc' := [#[], cut8 b 3 4, #[]]) (Nat.le_of_ble_eq_true rfl) d3 o3 (by rw [if_neg (by omega)]; rfl)]
/-- two strings and a sign behind them -/
theorem sub_close {b : Array UInt8} (hb : b.size ≤ 1000) (h0 : tc (b.map (·.toNat)) 0 = 34) (b0 : body (b.map (·.toNat)) 100 1 = some 2) (h3 : tc (b.map (·.toNat)) 3 = 34) (hs : 2 ≤ (b.map (·.toNat)).size) (b4 : body (b.map (·.toNat)) 100 4 = some ((b.map (·.toNat)).size - 2)) :
    subB qcode b = some (joined #[] [#[], #[], cut8 b ((b.map (·.toNat)).size - 1) (b.map (·.toNat)).size]) := by
  have g0 := body_ge _ _ _ b0
  have g4 := body_ge _ _ _ b4
  refine hide fun GG kk => ?_
  obtain ⟨m1, d1, o1, e1, s1⟩ := srch0 (s := 0) (by omega) h0 b0
  obtain ⟨m2, d2, o2, e2, s2⟩ := srch0 (s := 3) (by omega) h3 b4
  obtain ⟨m3, d3, o3⟩ := srchF (t := b.map (·.toNat)) (s := (b.map (·.toNat)).size - 2 + 1) (by omega) (by omega)
  refine kk ?_
  clear kk GG
  unfold subB
  rw [if_pos hb, subGo_find (acc' := [#[]]) (by decide) d1 o1 e1 s1 (by decide) rfl]
  rw [subGo_find (acc' := [#[], #[]]) (by decide) d2 o2 e2 s2 (by omega) rfl]
  rw [subGo_stop (acc' := [#[], #[], cut8 b ((b.map (·.toNat)).size - 1) (b.map (·.toNat)).size]) (by decide) d3 o3 (by rw [if_pos (by omega), show (b.map (·.toNat)).size - 2 + 1 = (b.map (·.toNat)).size - 1 by omega]; rfl)]
end Mine
namespace Mine
open PySem PySem.W PySem.Calls PyProof.Rows

/-! what a denotation tells, step by step -/
section
variable {σ σ' : Sto} {i : Nat} {d a b r : D}
theorem ev_asg {f : DE} (h : f σ = some d) : sAsg (.one i) f σ = some (.next, σ.put i (.v d)) := by unfold sAsg; rw [h]; rfl
theorem ev_then {f g : DS} (h : f σ = some (.next, σ')) : sThen f g σ = g σ' := by unfold sThen; rw [h]
theorem ev_ret_then {f g : DS} {d : D} (h : f σ = some (.ret d, σ')) : sThen f g σ = some (.ret d, σ') := by unfold sThen; rw [h]
theorem ev_if_t {c : DB} {f g : DS} (h : c σ = some true) : sIf c f g σ = f σ := by unfold sIf; rw [h]
theorem ev_if_f {c : DB} {f g : DS} (h : c σ = some false) : sIf c f g σ = g σ := by unfold sIf; rw [h]
theorem ev_ret {f : DE} (h : f σ = some d) : sRet f σ = some (.ret d, σ) := by unfold sRet; rw [h]
theorem ev_bin {op : BO} {f g : DL} {x y : LV} (hf : f σ = some x) (hg : g σ = some y) (h : binD op x.d y.d = some r) : eBin op f g σ = some r := by unfold eBin; rw [hf, hg]; exact h
theorem ev_lE {f : DE} (h : f σ = some d) : lE f σ = some (.v d) := by unfold lE; rw [h]
theorem ev_var (h : σ.get i = some (.v d)) : eVar i σ = some d := by unfold eVar; rw [h]
theorem ev_idx {f g : DL} {x y : LV} (hf : f σ = some x) (hg : g σ = some y) (h : idxD x.d y.d = some r) : eIdx f g σ = some r := by unfold eIdx; rw [hf, hg]; exact h
theorem ev_cmp {op : CO} {f g : DL} {x y : LV} {q : Bool} (hf : f σ = some x) (hg : g σ = some y) (h : cmpD op x.d y.d = some q) : eCmp op f g σ = some (.bool q) := by unfold eCmp; rw [hf, hg]; dsimp only; rw [h]
theorem ev_bcmp {op : CO} {f g : DL} {x y : LV} {q : Bool} (hf : f σ = some x) (hg : g σ = some y) (h : cmpD op x.d y.d = some q) : bCmp op f g σ = some q := by unfold bCmp; rw [hf, hg]; exact h
theorem ev_val {f : DE} {q : Bool} (h : f σ = some (.bool q)) : bVal f σ = some q := by unfold bVal; rw [h]
theorem ev_not {f : DB} {q : Bool} (h : f σ = some q) : bNot f σ = some (!q) := by unfold bNot; rw [h]
theorem ev_or_f {f g : DB} (h : f σ = some false) : bOr f g σ = g σ := by unfold bOr; rw [h]
theorem ev_app {f : List D → Option D} {g : Sto → Option (List D)} {l : List D} (h : g σ = some l) : eApp f g σ = f l := by unfold eApp; rw [h]
theorem ev_cons {f : DE} {g : Sto → Option (List D)} {l : List D} (hf : f σ = some d) (hg : g σ = some l) : aCons f g σ = some (d :: l) := by unfold aCons; rw [hf, hg]
theorem ev_meth {f : List D → Option D} {fo : DE} {g : Sto → Option (List D)} {l : List D} (ho : fo σ = some d) (hg : g σ = some l) : eMeth f fo g σ = f (d :: l) := by unfold eMeth; rw [ho, hg]
theorem ev_tup {g : Sto → Option (List D)} {l : List D} (h : g σ = some l) (hl : l.length ≤ 100) : eTup g σ = some (.tup l) := by unfold eTup; rw [h]; dsimp only; rw [if_pos (Nat.le_trans hl (by decide))]
theorem ev_ite_t {c : DB} {f g : DE} (h : c σ = some true) : eIte c f g σ = f σ := by unfold eIte; rw [h]
theorem ev_ite_f {c : DB} {f g : DE} (h : c σ = some false) : eIte c f g σ = g σ := by unfold eIte; rw [h]
theorem ev_sapp {f : DE} {l : List D} (hf : f σ = some d) (hg : σ.get i = some (.o (.lst l))) (hl : l.length ≤ 1000) : sApp i f σ = some (.next, σ.put i (.o (.lst (l ++ [d])))) := by
  unfold sApp; rw [hf, hg]; dsimp only; rw [if_pos (Nat.le_trans hl (by decide))]
theorem ev_for {p : Pt} {it : Sto → Option (List D)} {f : DS} {ds : List D} (h : it σ = some ds) : sFor p it f σ = goFor p f ds σ := by unfold sFor; rw [h]
end

theorem bin_add (a b : Int) : binD .add (.int a) (.int b) = some (.int (a + b)) := rfl
theorem bin_sub (a b : Int) : binD .sub (.int a) (.int b) = some (.int (a - b)) := rfl
theorem bin_fdiv {a b : Int} (h : (b != 0 && small b) = true) : binD .fdiv (.int a) (.int b) = some (.int (a.fdiv b)) := if_pos h
theorem bin_mod {a b : Int} (h : (b != 0) = true) : binD .mod (.int a) (.int b) = some (.int (a.fmod b)) := if_pos h
theorem bin_mul {a b : Int} (h : small a = true) : binD .mul (.int a) (.int b) = some (.int (a * b)) := if_pos h
theorem bin_str {x y : Str} (h : x.length + y.length ≤ 1000) : binD .add (.str x) (.str y) = some (.str (x ++ y)) := if_pos (Nat.le_trans h (by decide))
theorem seq_nat {k n : Nat} (h : k < n) : seqIndex? (k : Int) n = some k := by
  unfold seqIndex?
  simp only [show ¬ ((k : Int) < 0) by omega, if_false]
  rw [if_pos (by simp; omega)]
  simp
theorem idx_lst {l : List D} {k : Nat} {d : D} (hl : l.length ≤ 1000) (h : l[k]? = some d) : idxD (.lst l) (.int (k : Int)) = some d := by
  have hk : k < l.length := by rw [List.getElem?_eq_some_iff] at h; exact h.1
  simp only [idxD, idxI]
  rw [if_pos (Nat.le_trans hl (by decide)), seq_nat hk]
  exact h
theorem idx_tup {l : List D} {k : Nat} {d : D} (hl : l.length ≤ 1000) (h : l[k]? = some d) : idxD (.tup l) (.int (k : Int)) = some d := by
  have hk : k < l.length := by rw [List.getElem?_eq_some_iff] at h; exact h.1
  simp only [idxD, idxI]
  rw [if_pos (Nat.le_trans hl (by decide)), seq_nat hk]
  exact h
theorem idx_str {x : Str} {k : Nat} {c : Nat} (hl : x.length ≤ 1000) (h : x.cps[k]? = some c) : idxD (.str x) (.int (k : Int)) = some (.str ⟨#[c]⟩) := by
  have hk : k < x.length := by rw [Array.getElem?_eq_some_iff] at h; exact h.1
  simp only [idxD, idxI]
  rw [if_pos (Nat.le_trans hl (by decide)), seq_nat hk]
  simp [h]

/-! comprehensions -/
theorem foldC_map {p : Pt} {f : DE} {σ : Sto} {g : D → D} : ∀ (ds acc : List D), (∀ d ∈ ds, ∃ σ', bindP p d σ = some σ' ∧ f σ' = some (g d)) → acc.length + ds.length ≤ 1000 →
    foldC p bTrue (appF f) σ ds (.lst acc) = some (.lst (acc ++ ds.map g))
  | [], acc, _, _ => by simp [foldC]
  | d :: ds, acc, h, hl => by
    obtain ⟨σ', e1, e2⟩ := h d (.head _)
    simp only [List.length_cons] at hl
    simp only [foldC, e1]
    rw [show bTrue σ' = some true from rfl, show appF f σ' (.lst acc) = some (.lst (acc ++ [g d])) by simp only [appF, e2]; rw [if_pos (Nat.le_trans (show acc.length ≤ 1000 by omega) (by decide))]]
    dsimp only
    rw [foldC_map ds (acc ++ [g d]) (fun d' m => h d' (.tail _ m)) (by simp; omega)]
    simp
theorem foldC_if {p : Pt} {c : DB} {f : DE} {σ : Sto} {g : D → D} {q : D → Bool} : ∀ (ds acc : List D), (∀ d ∈ ds, ∃ σ', bindP p d σ = some σ' ∧ c σ' = some (q d) ∧ f σ' = some (g d)) → acc.length + ds.length ≤ 1000 →
    foldC p c (appF f) σ ds (.lst acc) = some (.lst (acc ++ (ds.filter q).map g))
  | [], acc, _, _ => by simp [foldC]
  | d :: ds, acc, h, hl => by
    obtain ⟨σ', e1, e2, e3⟩ := h d (.head _)
    simp only [List.length_cons] at hl
    cases hq : q d with
    | true =>
      rw [hq] at e2
      simp only [foldC, e1, e2]
      rw [show appF f σ' (.lst acc) = some (.lst (acc ++ [g d])) by simp only [appF, e3]; rw [if_pos (Nat.le_trans (show acc.length ≤ 1000 by omega) (by decide))]]
      dsimp only
      rw [foldC_if ds (acc ++ [g d]) (fun d' m => h d' (.tail _ m)) (by simp; omega)]
      simp [hq]
    | false =>
      rw [hq] at e2
      simp only [foldC, e1, e2]
      rw [foldC_if ds acc (fun d' m => h d' (.tail _ m)) (by omega)]
      simp [hq]
theorem ev_lc {it : Sto → Option (List D)} {p : Pt} {f : DE} {g : D → D} {σ : Sto} {ds : List D} (hi : it σ = some ds) (hl : ds.length ≤ 1000) (h : ∀ d ∈ ds, ∃ σ', bindP p d (dropL p.ids σ.vs) = some σ' ∧ f σ' = some (g d)) : lcF it p bTrue f σ = some (.lst (ds.map g)) := by
  unfold lcF; rw [hi]; exact foldC_map ds [] h (by simpa using hl)
theorem ev_lcif {it : Sto → Option (List D)} {p : Pt} {c : DB} {f : DE} {g : D → D} {q : D → Bool} {σ : Sto} {ds : List D} (hi : it σ = some ds) (hl : ds.length ≤ 1000) (h : ∀ d ∈ ds, ∃ σ', bindP p d (dropL p.ids σ.vs) = some σ' ∧ c σ' = some (q d) ∧ f σ' = some (g d)) : lcF it p c f σ = some (.lst ((ds.filter q).map g)) := by
  unfold lcF; rw [hi]; exact foldC_if ds [] h (by simpa using hl)
theorem ev_iLst {f : DE} {σ : Sto} {l : List D} (h : f σ = some (.lst l)) (hl : l.length ≤ 1000) : iLst f σ = some l := by unfold iLst; rw [h]; exact if_pos (Nat.le_trans hl (by decide))
theorem ev_iAny {f : DE} {σ : Sto} {l : List D} (h : f σ = some (.lst l)) (hl : l.length ≤ 1000) : iAny f σ = some l := by unfold iAny; rw [h]; exact if_pos (Nat.le_trans hl (by decide))

/-- a loop, told by what holds ahead of each turn -/
theorem goFor_inv {p : Pt} {f : DS} (I : Nat → Sto → Prop) : ∀ (ds : List D) (k : Nat) (σ : Sto), I k σ → (∀ j d σ, ds[j]? = some d → I (k + j) σ → ∃ σ₁ σ₂, bindP p d σ = some σ₁ ∧ f σ₁ = some (.next, σ₂) ∧ I (k + j + 1) σ₂) →
    ∃ σ', goFor p f ds σ = some (.next, σ') ∧ I (k + ds.length) σ'
  | [], k, σ, h, _ => ⟨σ, rfl, h⟩
  | d :: ds, k, σ, h, hs => by
    obtain ⟨σ₁, σ₂, e1, e2, h2⟩ := hs 0 d σ rfl h
    obtain ⟨σ', e, h'⟩ := goFor_inv I ds (k + 1) σ₂ h2 (fun j d σ e h => by
      have := hs (j + 1) d σ (by simpa using e) (by rwa [show k + (j + 1) = k + 1 + j by omega])
      rwa [show k + (j + 1) + 1 = k + 1 + j + 1 by omega] at this)
    refine ⟨σ', ?_, by rwa [List.length_cons, show k + (ds.length + 1) = k + 1 + ds.length by omega]⟩
    simp only [goFor, e1, e2]
    exact e

/-! equality of plain lists -/
noncomputable def atom : D → Bool
  | .int _ => true
  | .bool _ => true
  | .str x => PyData.strOk x
  | _ => false
theorem atoms_ok : ∀ l : List D, l.all atom = true → flats l = true ∧ PyData.canLayAll0 (toPys l) = true ∧ PyData.depthAll (toPys l) = 0
  | [], _ => ⟨rfl, rfl, rfl⟩
  | d :: r, h => by
    simp only [List.all_cons, Bool.and_eq_true] at h
    obtain ⟨a, b, c⟩ := atoms_ok r h.2
    have h1 := h.1
    unfold atom at h1
    split at h1
    · exact ⟨by simp [flats, D.flat, a], by simp [toPys, D.toPy, PyData.canLayAll0, PyData.canLay0, b], by simp [toPys, D.toPy, PyData.depthAll, PyData.depth, c]⟩
    · exact ⟨by simp [flats, D.flat, a], by simp [toPys, D.toPy, PyData.canLayAll0, PyData.canLay0, b], by simp [toPys, D.toPy, PyData.depthAll, PyData.depth, c]⟩
    · exact ⟨by simp [flats, D.flat, a], by simp [toPys, D.toPy, PyData.canLayAll0, PyData.canLay0, b, h1], by simp [toPys, D.toPy, PyData.depthAll, PyData.depth, c]⟩
    · cases h1
theorem okE_atoms {l : List D} (h : l.all atom = true) : okE (.lst l) = true := by
  obtain ⟨a, b, c⟩ := atoms_ok l h
  unfold okE SeqAt.shaped
  simp [D.flat, D.toPy, PyData.canLay0, PyData.depth, a, b, c]
theorem eqD_atoms {l : List D} (h : l.all atom = true) : eqD (.lst l) (.lst l) = some true := by
  have e : eqD (.lst l) (.lst l) = if (okE (.lst l) && okE (.lst l)) = true then some (PyData.eqv (D.lst l).toPy (D.lst l).toPy) else none := rfl
  rw [e, okE_atoms h, if_pos (by rfl), PySem.SeqAt.eqv_refl]
  have := (atoms_ok l h).2.1
  simpa [D.toPy, PyData.canLay0] using this
theorem ne_atoms {l : List D} (h : l.all atom = true) : cmpD .ne (.lst l) (.lst l) = some false := by
  show (eqD _ _).map _ = _
  rw [eqD_atoms h]; rfl
theorem eq_int (a b : Int) : cmpD .eq (.int a) (.int b) = some (decide (a = b)) := rfl
theorem eq_bool (a b : Bool) : cmpD .eq (.bool a) (.bool b) = some (a == b) := rfl
theorem ne_bool (a b : Bool) : cmpD .ne (.bool a) (.bool b) = some (a != b) := rfl
theorem ne_int (a b : Int) : cmpD .ne (.int a) (.int b) = some (!decide (a = b)) := rfl
end Mine
namespace Mine
open PySem PySem.W PySem.Calls PyProof.Rows

/-! the law, statement by statement (printed by gen59.py) -/
noncomputable def lw0 : DS := (sAsg (.one 72) (eLst (aCons (eLit (.int 352)) (aCons (eLit (.int 4289)) (aCons (eLit (.int 60)) (aCons (eLit (.int 2376)) (aCons (eLit (.int 4635)) (aCons (eLit (.int 2)) aNil))))))))
noncomputable def lw1 : DS := (sAsg (.one 73) (eBin .add (lE (lcF (iAny (eCut (lVar 40) none (some (eLit (.int 6))))) (.one 129) bTrue (eBin .mod (lVar 129) (lE (eLit (.int 1000000)))))) (lE (eCut (lVar 72) (some (eApp lenD (aCons (eCut (lVar 40) none (some (eLit (.int 6)))) aNil))) none))))
noncomputable def lw2 : DS := (sAsg (.one 57) (eApp d__law_events (aCons (eIdx (lVar 73) (lE (eLit (.int 4)))) (aCons (eIdx (lVar 73) (lE (eLit (.int 5)))) aNil))))
noncomputable def lw3 : DS := (sAsg (.one 30) (lcF (iLst (eVar 57)) (.many [28, 29]) bTrue (eApp d__law_name (aCons (eIdx (lVar 73) (lVar 28)) (aCons (eVar 28) (aCons (eVar 29) aNil))))))
noncomputable def lw4 : DS := (sAsg (.one 62) (eApp d__law_talk (aCons (eVar 30) (aCons (eBin .fdiv (lE (eIdx (lVar 73) (lE (eLit (.int 4))))) (lE (eLit (.int 256)))) aNil))))
noncomputable def lw5 : DS := (sIf (bCmp .ne (lE (lcF (iLst (eVar 62)) (.many [32, 124]) bTrue (eApp readF (aCons (eVar 32) aNil)))) (lE (lcF (iLst (eVar 62)) (.many [32, 124]) bTrue (eVar 124)))) (sThen (sRet (eLit (.bool false)))
  sNil) sNil)
noncomputable def lw6 : DS := (sAsg (.one 22) (eLit (.int 0)))
noncomputable def lw7 : DS := (sNewL 35)
noncomputable def lw8 : DS := (sNewL 34)
noncomputable def lw9b0 : DS := (sAsg (.one 106) (eApp d__paren_depth (aCons (eApp d__law_piece (aCons (eIdx (lVar 30) (lVar 63)) (aCons (eIdx (lE (eIdx (lVar 57) (lVar 63))) (lE (eLit (.int 1)))) aNil))) (aCons (eVar 22) aNil))))
noncomputable def lw9b1 : DS := (sApp 35 (eCmp .eq (lVar 106) (lE (eBin .add (lVar 22) (lE (eLit (.int 1)))))))
noncomputable def lw9b2 : DS := (sIf (bNot (bVal (eIdx (lVar 35) (lE (eNeg (eLit (.int 1))))))) (sThen (sApp 34 (eVar 22))
  sNil) sNil)
noncomputable def lw9b3 : DS := (sAsg (.one 22) (eVar 106))
noncomputable def lw9B : DS := (sThen lw9b0 (sThen lw9b1 (sThen lw9b2 (sThen lw9b3 sNil))))
noncomputable def lw9 : DS := sFor (.one 63) (iRng1 (eLit (.int 8))) lw9B
noncomputable def lw10 : DS := (sIf (bOr (bCmp .ne (lVar 22) (lE (eLit (.int 0)))) (bCmp .ne (lVar 35) (lE (lcF (iLst (eVar 57)) (.many [28, 29]) bTrue (eVar 29))))) (sThen (sRet (eLit (.bool false)))
  sNil) sNil)
noncomputable def lw11 : DS := (sTry (sAsg (.one 74) (lcF2 (iRng1 (eLit (.int 8))) (.one 55) bTrue (iRng1 (eLit (.int 8))) (.one 69) (bAnd (bVal (eIdx (lVar 35) (lVar 55))) (bNot (bVal (eIdx (lVar 35) (lVar 69))))) (eTup (aCons (eVar 55) (aCons (eVar 69) aNil))))))
noncomputable def lw12 : DS := (sAsg (.one 75) (lcF (iLst (eVar 74)) (.many [55, 69]) bTrue (eApp d__substitution_cost (aCons (eIdx (lE (eIdx (lVar 30) (lVar 55))) (lE (eLit (.int 0)))) (aCons (eIdx (lE (eIdx (lVar 30) (lVar 69))) (lE (eLit (.int 0)))) aNil)))))
noncomputable def lw13 : DS := (sIf (bCmp .ne (lVar 75) (lE (lcF (iLst (eVar 74)) (.many [55, 69]) bTrue (eIte (bCmp .eq (lE (eIdx (lE (eIdx (lVar 57) (lVar 55))) (lE (eLit (.int 0))))) (lE (eIdx (lE (eIdx (lVar 57) (lVar 69))) (lE (eLit (.int 0)))))) (eLit (.int 1)) (eLit (.int 2)))))) (sThen (sRet (eLit (.bool false)))
  sNil) sNil)
noncomputable def lw14 : DS := (sAsg (.one 76) (lcF (iZip (eVar 74) (eVar 75)) (.many [107, 130]) (bCmp .eq (lVar 130) (lE (eLit (.int 1)))) (eVar 107)))
noncomputable def lw15 : DS := (sAsg (.one 77) (eBin .sub (lE (eLit (.int 1))) (lE (eBin .mul (lE (eLit (.int 2))) (lE (eBin .mod (lE (eIdx (lVar 73) (lE (eLit (.int 5))))) (lE (eLit (.int 2)))))))))
noncomputable def lw16 : DS := (sDrop [40, 72, 73, 57, 30, 62, 22, 63, 106, 74, 75] (sAsg (.one 78) (eMkc (eTup (aCons (eTup (aCons (eLit (.int 0)) (aCons (eLit (.int 1)) aNil))) aNil)))))
noncomputable def lw17 : DS := (sAsg (.one 79) (eMkc (eTup (aCons (eTup (aCons (eLit (.int 1)) (aCons (eVar 77) aNil))) aNil))))
noncomputable def lw18 : DS := (sAsg (.one 80) (eApp sumD (aCons (lcF2 (iAny (eVar 76)) (.one 132) bTrue (iAny (eVar 76)) (.one 133) bTrue (eBin .mul (lE (eCmpr (eVar 78) (eVar 132) (eVar 133))) (lE (eCmpr (eVar 79) (eVar 132) (eVar 133))))) aNil)))
noncomputable def lw19 : DS := (sAsg (.one 65) (eApp d__law_table (aCons (eVar 34) aNil)))
noncomputable def lw20 : DS := (sNewL 81)
noncomputable def lw21 : DS := (sNewL 82)
noncomputable def lw22 : DS := (sAsg (.one 83) (eNeg (eLit (.int 1))))
noncomputable def lw23 : DS := (sAsg (.one 84) (eTup (aCons (eLit (.int 0)) (aCons (eLit (.int 0)) (aCons (eLit (.int 0)) (aCons (eLit (.int 0)) (aCons (eLit (.dct [] [])) aNil)))))))
noncomputable def lw24b0 : DS := (sAsg (.one 110) (eApp d__law_links (aCons (eVar 36) (aCons (eLit (.bool true)) aNil))))
noncomputable def lw24b1 : DS := (sAsg (.one 111) (eApp d__law_links (aCons (eVar 36) (aCons (eLit (.bool false)) aNil))))
noncomputable def lw24b2 : DS := (sApp 81 (eApp lenD (aCons (eVar 110) aNil)))
noncomputable def lw24b3 : DS := (sApp 82 (eApp lenD (aCons (eVar 111) aNil)))
noncomputable def lw24b4 : DS := (sAsg (.one 112) (eBin .add (lE (eBin .mul (lE (eLit (.int 8))) (lE (eApp d__law_most (aCons (eVar 110) aNil))))) (lE (eApp d__law_most (aCons (eVar 111) aNil)))))
noncomputable def lw24b5 : DS := (sAsg (.one 84) (eApp d_add_func_stats (aCons (eVar 84) (aCons (eTup (aCons (eLit (.int 1)) (aCons (eIdx (lVar 81) (lE (eNeg (eLit (.int 1))))) (aCons (eIdx (lVar 82) (lE (eNeg (eLit (.int 1))))) (aCons (eBin .mul (lE (eIdx (lVar 81) (lE (eNeg (eLit (.int 1)))))) (lE (eIdx (lVar 82) (lE (eNeg (eLit (.int 1))))))) (aCons (eDct1 (eVar 112) (eLit (.int 1))) aNil)))))) aNil))))
noncomputable def lw24b6 : DS := (sIf (bCmp .eq (lVar 36) (lVar 76)) (sThen (sAsg (.one 83) (eIdx (lVar 82) (lE (eNeg (eLit (.int 1))))))
  sNil) sNil)
noncomputable def lw24B : DS := (sThen lw24b0 (sThen lw24b1 (sThen lw24b2 (sThen lw24b3 (sThen lw24b4 (sThen lw24b5 (sThen lw24b6 sNil)))))))
noncomputable def lw24 : DS := sFor (.one 36) (iAny (eApp d__law_ways (aCons (eVar 35) aNil))) lw24B
noncomputable def lw25 : DS := (sIf (bCmp .ne (lVar 80) (lE (eBin .mul (lVar 77) (lE (eBin .sub (lE (eLit (.int 12))) (lE (eBin .mul (lE (eLit (.int 4))) (lVar 83)))))))) (sThen (sRet (eLit (.bool false)))
  sNil) sNil)
noncomputable def lw26 : DS := (sTry (sIf (bCmp .ne (lE (lcF (iZip (eVar 81) (eVar 82)) (.many [121, 122]) bTrue (eBin .add (lVar 121) (lVar 122)))) (lE (lcF (iAny (eVar 81)) (.one 121) bTrue (eBin .sub (lE (eApp sumD (aCons (eVar 34) aNil))) (lE (eLit (.int 4))))))) (sThen (sRet (eLit (.bool false)))
  sNil) sNil))
noncomputable def lw27 : DS := (sAsg (.one 85) (eApp d__law_book (aCons (eVar 81) aNil)))
noncomputable def lw28 : DS := (sAsg (.one 86) (eApp d__law_book (aCons (eVar 82) aNil)))
noncomputable def lw29 : DS := (sAsg (.one 43) (dcF (iAny (eVar 85)) (.one 113) bTrue (eVar 113) (eTup (aCons (eIdx (lVar 85) (lVar 113)) (aCons (eLit (.int 0)) aNil)))))
noncomputable def lw30 : DS := (sAsg (.one 44) (dcF (iAny (eVar 86)) (.one 113) bTrue (eVar 113) (eTup (aCons (eLit (.int 0)) (aCons (eIdx (lVar 86) (lVar 113)) aNil)))))
noncomputable def lw31 : DS := (sAsg (.one 87) (eApp d_add_callers (aCons (eVar 43) (aCons (eVar 44) aNil))))
noncomputable def lw32 : DS := (sIf (bOr (bCmp .ne (lVar 87) (lE (dcF (iAny (eVar 65)) (.one 113) bTrue (eVar 113) (eTup (aCons (eIdx (lVar 65) (lVar 113)) (aCons (eIdx (lVar 65) (lVar 113)) aNil)))))) (bCmp .ne (lE (eApp d_add_callers (aCons (eVar 44) (aCons (eVar 43) aNil)))) (lVar 87))) (sThen (sRet (eLit (.bool false)))
  sNil) sNil)
noncomputable def lw33 : DS := (sIf (bCmp .ne (lE (eApp d_count_calls (aCons (eVar 65) aNil))) (lE (eBin .mul (lE (eBin .mul (lE (eBin .mul (lE (eIdx (lVar 34) (lE (eLit (.int 0))))) (lE (eIdx (lVar 34) (lE (eLit (.int 1))))))) (lE (eIdx (lVar 34) (lE (eLit (.int 2))))))) (lE (eIdx (lVar 34) (lE (eLit (.int 3)))))))) (sThen (sRet (eLit (.bool false)))
  sNil) sNil)
noncomputable def lw34 : DS := (sIf (bCmp .ne (lE (eCut (lVar 84) none (some (eLit (.int 4))))) (lE (eTup (aCons (eApp d_count_calls (aCons (eIdx (lVar 84) (lE (eLit (.int 4)))) aNil)) (aCons (eApp sumD (aCons (eVar 82) aNil)) (aCons (eApp sumD (aCons (eVar 81) aNil)) (aCons (eApp sumD (aCons (lcF (iZip (eVar 81) (eVar 82)) (.many [121, 122]) bTrue (eBin .mul (lVar 121) (lVar 122))) aNil)) aNil))))))) (sThen (sRet (eLit (.bool false)))
  sNil) sNil)
noncomputable def lw35 : DS := (sRet (eCmp .eq (lE (eIdx (lVar 84) (lE (eLit (.int 4))))) (lE (dcF (iAny (eIdx (lVar 84) (lE (eLit (.int 4))))) (.one 113) bTrue (eBin .add (lE (eBin .mul (lE (eBin .mod (lVar 113) (lE (eLit (.int 8))))) (lE (eLit (.int 8))))) (lE (eBin .fdiv (lVar 113) (lE (eLit (.int 8)))))) (eIdx (lE (eIdx (lVar 84) (lE (eLit (.int 4))))) (lVar 113))))))
theorem lawD_eq : lawD = (sThen lw0 (sThen lw1 (sThen lw2 (sThen lw3 (sThen lw4 (sThen lw5 (sThen lw6 (sThen lw7 (sThen lw8 (sThen lw9 (sThen lw10 (sThen lw11 (sThen lw12 (sThen lw13 (sThen lw14 (sThen lw15 (sThen lw16 (sThen lw17 (sThen lw18 (sThen lw19 (sThen lw20 (sThen lw21 (sThen lw22 (sThen lw23 (sThen lw24 (sThen lw25 (sThen lw26 (sThen lw27 (sThen lw28 (sThen lw29 (sThen lw30 (sThen lw31 (sThen lw32 (sThen lw33 (sThen lw34 (sThen lw35 sNil)))))))))))))))))))))))))))))))))))) := rfl
noncomputable def lwR : DS := (sThen lw26 (sThen lw27 (sThen lw28 (sThen lw29 (sThen lw30 (sThen lw31 (sThen lw32 (sThen lw33 (sThen lw34 (sThen lw35 sNil))))))))))
end Mine
namespace Mine
open PySem PySem.W PySem.Calls PyProof.Rows

/-! the loop over the ways -/
noncomputable def wayF (P tot : D) : Option (Nat × Nat × D) := match d__law_links [P, .bool true], d__law_links [P, .bool false] with
  | some (.lst a), some (.lst b) => match d__law_most [.lst a], d__law_most [.lst b] with
    | some (.int x), some (.int y) => match d_add_func_stats [tot, .tup [.int 1, .int (a.length : Nat), .int (b.length : Nat), .int (((a.length : Nat) : Int) * ((b.length : Nat) : Int)), .dct [8 * x + y] [.int 1]]] with
      | some t => if a.length ≤ 100 ∧ b.length ≤ 100 then some (a.length, b.length, t) else none
      | none => none
    | _, _ => none
  | _, _ => none
noncomputable def runW : List D → D → Option (List Nat × List Nat × D)
  | [], tot => some ([], [], tot)
  | P :: ws, tot => match wayF P tot with
    | some (a, b, t) => match runW ws t with
      | some (as, bs, t') => some (a :: as, b :: bs, t')
      | none => none
    | none => none
noncomputable def foundF (R : D) : List D → List Nat → Int → Option Int
  | P :: ws, b :: bs, f => match cmpD .eq P R with
    | some true => foundF R ws bs b
    | some false => foundF R ws bs f
    | none => none
  | [], [], f => some f
  | _, _, _ => none
noncomputable def natD (l : List Nat) : List D := l.map fun n => .int (n : Nat)

/-- the store of the loop -/
noncomputable def SW (x35 x34 x76 x77 x78 x79 x80 x65 : LV) (cr wi : List D) (f : Int) (tot : D) (T : Sto) : Sto :=
  [(35, x35), (34, x34), (76, x76), (77, x77), (78, x78), (79, x79), (80, x80), (65, x65), (81, .o (.lst cr)), (82, .o (.lst wi)), (83, .v (.int f)), (84, .v tot)] ++ T
noncomputable def T4 (T : Sto) : Prop := T = [] ∨ ∃ a b c d, T = [(36, .v a), (110, .v b), (111, .v c), (112, .v d)]

theorem small_nat {n : Nat} (h : n ≤ 100) : small (n : Int) = true := by unfold small; simp; omega
theorem neg1 {σ : Sto} : eNeg (eLit (.int 1)) σ = some (.int (-1)) := rfl
theorem idx_last {l : List D} {d : D} (hl : l.length ≤ 1000) : idxD (.lst (l ++ [d])) (.int (-1)) = some d := by
  simp only [idxD, idxI]
  rw [if_pos (Nat.le_trans (show (l ++ [d]).length ≤ 1001 by simp; omega) (by decide))]
  have : seqIndex? (-1) (l ++ [d]).length = some l.length := by
    unfold seqIndex?
    simp only [List.length_append, List.length_cons, List.length_nil]
    rw [if_pos (by simp; omega)]
    simp
    omega
  rw [this]
  simp

section
variable {x35 x34 x77 x78 x79 x80 x65 : LV} {R : D}
theorem way_body {P tot t : D} {cr wi : List D} {f : Int} {a b : Nat} {T : Sto} (hw : wayF P tot = some (a, b, t)) (hc : cr.length ≤ 900) (hwi : wi.length ≤ 900) {q : Bool} (hq : cmpD .eq P R = some q)
    (hT : T = [(36, .v P)] ∨ ∃ d1 d2 d3, T = [(36, .v P), (110, .v d1), (111, .v d2), (112, .v d3)]) :
    ∃ d1 d2 d3, lw24B (SW x35 x34 (.v R) x77 x78 x79 x80 x65 cr wi f tot T) = some (.next, SW x35 x34 (.v R) x77 x78 x79 x80 x65 (cr ++ [.int a]) (wi ++ [.int b]) (if q then b else f) t [(36, .v P), (110, .v d1), (111, .v d2), (112, .v d3)]) := by
  unfold wayF at hw
  refine hide fun GG kk => ?_
  split at hw
  case h_2 => cases hw
  rename_i la lb hla hlb
  split at hw
  case h_2 => cases hw
  rename_i x y hx hy
  split at hw
  case h_2 => cases hw
  rename_i tt htt
  split at hw
  case isFalse => cases hw
  rename_i hsz
  cases hw
  refine kk ?_
  clear kk GG
  refine ⟨.lst la, .lst lb, .int (8 * x + y), ?_⟩
  have key : ∀ σ : Sto, σ.get 36 = some (.v P) → σ.get 76 = some (.v R) → σ.get 81 = some (.o (.lst cr)) → σ.get 82 = some (.o (.lst wi)) → σ.get 84 = some (.v tot) →
      lw24B σ = some (.next, if q then (((((((σ.put 110 (.v (.lst la))).put 111 (.v (.lst lb))).put 81 (.o (.lst (cr ++ [.int la.length])))).put 82 (.o (.lst (wi ++ [.int lb.length])))).put 112 (.v (.int (8 * x + y)))).put 84 (.v t))).put 83 (.v (.int lb.length))
        else ((((((σ.put 110 (.v (.lst la))).put 111 (.v (.lst lb))).put 81 (.o (.lst (cr ++ [.int la.length])))).put 82 (.o (.lst (wi ++ [.int lb.length])))).put 112 (.v (.int (8 * x + y)))).put 84 (.v t))) := by
    intro σ g36 g76 g81 g82 g84
    unfold lw24B
    have gp : ∀ {σ : Sto} {i j : Nat} {v : LV} {r : Option LV}, σ.get j = r → j ≠ i → (σ.put i v).get j = r := fun h hn => by rw [Sto.get_put, if_neg hn]; exact h
    have gs : ∀ {σ : Sto} {i : Nat} {v : LV}, (σ.put i v).get i = some v := by intros; rw [Sto.get_put, if_pos rfl]
    rw [ev_then (show lw24b0 σ = some (.next, σ.put 110 (.v (.lst la))) from ev_asg ((ev_app (ev_cons (ev_var g36) (ev_cons rfl rfl))).trans hla))]
    rw [ev_then (show lw24b1 (σ.put 110 (.v (.lst la))) = some (.next, (σ.put 110 (.v (.lst la))).put 111 (.v (.lst lb))) from ev_asg ((ev_app (ev_cons (ev_var (gp g36 (by decide))) (ev_cons rfl rfl))).trans hlb))]
    generalize hs1 : (σ.put 110 (.v (.lst la))).put 111 (.v (.lst lb)) = σ1
    have a110 : σ1.get 110 = some (.v (.lst la)) := by rw [← hs1]; exact gp gs (by decide)
    have a111 : σ1.get 111 = some (.v (.lst lb)) := by rw [← hs1]; exact gs
    have a36 : σ1.get 36 = some (.v P) := by rw [← hs1]; exact gp (gp g36 (by decide)) (by decide)
    have a76 : σ1.get 76 = some (.v R) := by rw [← hs1]; exact gp (gp g76 (by decide)) (by decide)
    have a81 : σ1.get 81 = some (.o (.lst cr)) := by rw [← hs1]; exact gp (gp g81 (by decide)) (by decide)
    have a82 : σ1.get 82 = some (.o (.lst wi)) := by rw [← hs1]; exact gp (gp g82 (by decide)) (by decide)
    have a84 : σ1.get 84 = some (.v tot) := by rw [← hs1]; exact gp (gp g84 (by decide)) (by decide)
    have len : ∀ l : List D, l.length ≤ 100 → lenD [.lst l] = some (.int l.length) := fun l h => by unfold lenD; exact if_pos (Nat.le_trans h (by decide))
    rw [ev_then (show lw24b2 σ1 = some (.next, σ1.put 81 (.o (.lst (cr ++ [.int la.length])))) from ev_sapp ((ev_app (ev_cons (ev_var a110) rfl)).trans (len _ hsz.1)) a81 (by omega))]
    rw [ev_then (show lw24b3 (σ1.put 81 (.o (.lst (cr ++ [.int la.length])))) = some (.next, (σ1.put 81 (.o (.lst (cr ++ [.int la.length])))).put 82 (.o (.lst (wi ++ [.int lb.length])))) from ev_sapp ((ev_app (ev_cons (ev_var (gp a111 (by decide))) rfl)).trans (len _ hsz.2)) (gp a82 (by decide)) (by omega))]
    generalize hs2 : (σ1.put 81 (.o (.lst (cr ++ [.int la.length])))).put 82 (.o (.lst (wi ++ [.int lb.length]))) = σ2
    have b110 : σ2.get 110 = some (.v (.lst la)) := by rw [← hs2]; exact gp (gp a110 (by decide)) (by decide)
    have b111 : σ2.get 111 = some (.v (.lst lb)) := by rw [← hs2]; exact gp (gp a111 (by decide)) (by decide)
    have b36 : σ2.get 36 = some (.v P) := by rw [← hs2]; exact gp (gp a36 (by decide)) (by decide)
    have b76 : σ2.get 76 = some (.v R) := by rw [← hs2]; exact gp (gp a76 (by decide)) (by decide)
    have b81 : σ2.get 81 = some (.o (.lst (cr ++ [.int la.length]))) := by rw [← hs2]; exact gp gs (by decide)
    have b82 : σ2.get 82 = some (.o (.lst (wi ++ [.int lb.length]))) := by rw [← hs2]; exact gs
    have b84 : σ2.get 84 = some (.v tot) := by rw [← hs2]; exact gp (gp a84 (by decide)) (by decide)
    rw [ev_then (show lw24b4 σ2 = some (.next, σ2.put 112 (.v (.int (8 * x + y)))) from ev_asg (ev_bin (ev_lE (ev_bin (ev_lE rfl) (ev_lE ((ev_app (ev_cons (ev_var b110) rfl)).trans hx)) (bin_mul rfl))) (ev_lE ((ev_app (ev_cons (ev_var b111) rfl)).trans hy)) (bin_add _ _)))]
    have l81 : ∀ {σ : Sto}, σ.get 81 = some (.o (.lst (cr ++ [.int la.length]))) → eIdx (lVar 81) (lE (eNeg (eLit (.int 1)))) σ = some (.int la.length) := fun h => ev_idx h (ev_lE neg1) (idx_last (by omega))
    have l82 : ∀ {σ : Sto}, σ.get 82 = some (.o (.lst (wi ++ [.int lb.length]))) → eIdx (lVar 82) (lE (eNeg (eLit (.int 1)))) σ = some (.int lb.length) := fun h => ev_idx h (ev_lE neg1) (idx_last (by omega))
    have c81 : (σ2.put 112 (.v (.int (8 * x + y)))).get 81 = some (.o (.lst (cr ++ [.int la.length]))) := gp b81 (by decide)
    have c82 : (σ2.put 112 (.v (.int (8 * x + y)))).get 82 = some (.o (.lst (wi ++ [.int lb.length]))) := gp b82 (by decide)
    rw [ev_then (show lw24b5 (σ2.put 112 (.v (.int (8 * x + y)))) = some (.next, (σ2.put 112 (.v (.int (8 * x + y)))).put 84 (.v t)) from ev_asg ((ev_app (ev_cons (ev_var (gp b84 (by decide))) (ev_cons (ev_tup (l := [.int 1, .int (la.length : Nat), .int (lb.length : Nat), .int (((la.length : Nat) : Int) * ((lb.length : Nat) : Int)), .dct [8 * x + y] [.int 1]])
        (ev_cons rfl (ev_cons (l81 c81) (ev_cons (l82 c82) (ev_cons (ev_bin (ev_lE (l81 c81)) (ev_lE (l82 c82)) (bin_mul (small_nat hsz.1))) (ev_cons (by unfold eDct1; rw [ev_var gs]; rfl) rfl))))) (by simp)) rfl))).trans htt))]
    generalize hs3 : (σ2.put 112 (.v (.int (8 * x + y)))).put 84 (.v t) = σ3
    have d36 : σ3.get 36 = some (.v P) := by rw [← hs3]; exact gp (gp b36 (by decide)) (by decide)
    have d76 : σ3.get 76 = some (.v R) := by rw [← hs3]; exact gp (gp b76 (by decide)) (by decide)
    have d82 : σ3.get 82 = some (.o (.lst (wi ++ [.int lb.length]))) := by rw [← hs3]; exact gp c82 (by decide)
    cases q with
    | true =>
      have e6 : lw24b6 σ3 = some (.next, σ3.put 83 (.v (.int lb.length))) := by
        unfold lw24b6
        rw [ev_if_t (ev_bcmp d36 d76 hq), ev_then (ev_asg (l82 d82))]; rfl
      rw [ev_then e6, if_pos rfl]; rfl
    | false =>
      have e6 : lw24b6 σ3 = some (.next, σ3) := by
        unfold lw24b6
        rw [ev_if_f (ev_bcmp d36 d76 hq)]; rfl
      rw [ev_then e6, if_neg (by decide)]; rfl
  rcases hT with rfl | ⟨d1, d2, d3, rfl⟩
  · rw [key _ rfl rfl rfl rfl rfl]; cases q <;> rfl
  · rw [key _ rfl rfl rfl rfl rfl]; cases q <;> rfl

noncomputable def F4 (T : Sto) : Prop := ∃ a b c d, T = [(36, .v a), (110, .v b), (111, .v c), (112, .v d)]
theorem ways_loop : ∀ (ws : List D) (tot : D) (cr wi : List D) (f : Int) (T : Sto) {as bs : List Nat} {t : D} {f' : Int}, runW ws tot = some (as, bs, t) → foundF R ws bs f = some f' → cr.length + ws.length ≤ 900 → wi.length + ws.length ≤ 900 → T4 T →
    ∃ T', (ws = [] ∧ T' = T ∨ F4 T') ∧ goFor (.one 36) lw24B ws (SW x35 x34 (.v R) x77 x78 x79 x80 x65 cr wi f tot T) = some (.next, SW x35 x34 (.v R) x77 x78 x79 x80 x65 (cr ++ natD as) (wi ++ natD bs) f' t T')
  | [], tot, cr, wi, f, T, as, bs, t, f', hr, hf, _, _, hT => by
    refine hide fun GG kk => ?_
    cases hr
    cases hf
    refine kk ?_
    clear kk GG
    exact ⟨T, .inl ⟨rfl, rfl⟩, by simp [goFor, natD]⟩
  | P :: ws, tot, cr, wi, f, T, as, bs, t, f', hr, hf, hc, hw, hT => by
    unfold runW at hr
    refine hide fun GG kk => ?_
    split at hr
    case h_2 => cases hr
    rename_i a b t1 h1
    split at hr
    case h_2 => cases hr
    rename_i as1 bs1 t2 h2
    cases hr
    refine kk ?_
    clear kk GG
    simp only [List.length_cons] at hc hw
    have step : ∀ q : Bool, cmpD .eq P R = some q → foundF R ws bs1 (if q then b else f) = some f' → ∃ T', (P :: ws = [] ∧ T' = T ∨ F4 T') ∧ goFor (.one 36) lw24B (P :: ws) (SW x35 x34 (.v R) x77 x78 x79 x80 x65 cr wi f tot T) = some (.next, SW x35 x34 (.v R) x77 x78 x79 x80 x65 (cr ++ natD (a :: as1)) (wi ++ natD (b :: bs1)) f' t T') := by
      intro q hq hf'
      obtain ⟨T1, e1, hT1⟩ : ∃ T1, bindP (.one 36) P (SW x35 x34 (.v R) x77 x78 x79 x80 x65 cr wi f tot T) = some (SW x35 x34 (.v R) x77 x78 x79 x80 x65 cr wi f tot T1) ∧ (T1 = [(36, .v P)] ∨ ∃ d1 d2 d3, T1 = [(36, .v P), (110, .v d1), (111, .v d2), (112, .v d3)]) := by
        rcases hT with rfl | ⟨d0, d1, d2, d3, rfl⟩
        · exact ⟨_, rfl, .inl rfl⟩
        · exact ⟨_, rfl, .inr ⟨d1, d2, d3, rfl⟩⟩
      obtain ⟨d1, d2, d3, e2⟩ := way_body (cr := cr) (wi := wi) (tot := tot) (x35 := x35) (x34 := x34) (x77 := x77) (x78 := x78) (x79 := x79) (x80 := x80) (x65 := x65) (f := f) h1 (by omega) (by omega) hq hT1
      obtain ⟨T', hT', e3⟩ := ways_loop ws t1 (cr ++ [.int a]) (wi ++ [.int b]) (if q then b else f) [(36, .v P), (110, .v d1), (111, .v d2), (112, .v d3)] h2 hf' (by simp; omega) (by simp; omega) (.inr ⟨_, _, _, _, rfl⟩)
      refine ⟨T', .inr (hT'.elim (fun h => ⟨_, _, _, _, h.2⟩) id), ?_⟩
      simp only [goFor, e1, e2]
      rw [e3]
      simp [natD]
    unfold foundF at hf
    split at hf
    · rename_i hq; exact step true hq hf
    · rename_i hq; exact step false hq hf
    · cases hf
end
end Mine
namespace Mine
open PySem PySem.W PySem.Calls PyProof.Rows

noncomputable def bl (l : List Bool) : List D := l.map .bool
noncomputable def il (l : List Int) : List D := l.map .int
noncomputable def pr (l : List (Int × Int)) : D := .lst (l.map fun p => .tup [.int p.1, .int p.2])
noncomputable def toldE : DE := (eApp sumD (aCons (lcF2 (iAny (eVar 76)) (.one 132) bTrue (iAny (eVar 76)) (.one 133) bTrue (eBin .mul (lE (eCmpr (eVar 78) (eVar 132) (eVar 133))) (lE (eCmpr (eVar 79) (eVar 132) (eVar 133))))) aNil))
theorem lw18_eq : lw18 = sAsg (.one 80) toldE := rfl
noncomputable def cm (a b : Int) : D := .cmpr (.tup [.tup [.int a, .int b]])
noncomputable def chkEv (os : List Bool) (hs : List Int) (ws : List D) (bs : List Nat) (R : D) (way : Int) : Bool := match toldE [(35, .v (.lst (bl os))), (34, .v (.lst (il hs))), (76, .v R), (77, .v (.int way)), (78, .v (cm 0 1)), (79, .v (cm 1 way))] with
  | some (.int told) => match foundF R ws bs (-1) with
    | some f => decide (told = way * (12 - 4 * f))
    | none => false
  | _ => false
noncomputable def tot0 : D := .tup [.int 0, .int 0, .int 0, .int 0, .dct [] []]
/-- what is known of a shape -/
structure Shape (os : List Bool) (hs : List Int) (ws : List D) (as bs : List Nat) (tb tot : D) : Prop where
  ways : d__law_ways [.lst (bl os)] = some (.lst ws)
  few : ws.length ≤ 100
  some_ : ws ≠ []
  table : d__law_table [.lst (il hs)] = some tb
  run : runW ws tot0 = some (as, bs, tot)
  rest : ∀ (x76 x77 x78 x79 x80 : LV) (f : Int) (a b c d : D), (lwR (SW (.v (.lst (bl os))) (.v (.lst (il hs))) x76 x77 x78 x79 x80 (.v tb) (natD as) (natD bs) f tot [(36, .v a), (110, .v b), (111, .v c), (112, .v d)])).map Prod.fst = some (.ret (.bool true))
  evs : (ws.all fun R => chkEv os hs ws bs R 1 && chkEv os hs ws bs R (-1)) = true

theorem tail_ok {os : List Bool} {hs : List Int} {ws : List D} {as bs : List Nat} {tb tot R : D} {way : Int} (S : Shape os hs ws as bs tb tot) (hR : R ∈ ws) (hway : way = 1 ∨ way = -1) {σ : Sto}
    (hσ : dropL [40, 72, 73, 57, 30, 62, 22, 63, 106, 74, 75] σ = [(35, .v (.lst (bl os))), (34, .v (.lst (il hs))), (76, .v R), (77, .v (.int way))]) :
    ∃ σ', (sThen lw16 (sThen lw17 (sThen lw18 (sThen lw19 (sThen lw20 (sThen lw21 (sThen lw22 (sThen lw23 (sThen lw24 (sThen lw25 lwR)))))))))) σ = some (.ret (.bool true), σ') := by
  have hev : chkEv os hs ws bs R way = true := by
    have := List.all_eq_true.mp S.evs R hR
    simp only [Bool.and_eq_true] at this
    rcases hway with rfl | rfl
    · exact this.1
    · exact this.2
  unfold chkEv at hev
  refine hide fun GG kk => ?_
  split at hev
  case h_2 => cases hev
  rename_i told ht
  split at hev
  case h_2 => cases hev
  rename_i f hf
  refine kk ?_
  clear kk GG
  have hev := of_decide_eq_true hev
  have hsm : small way = true := by rcases hway with rfl | rfl <;> rfl
  have e16 : lw16 σ = some (.next, [(35, .v (.lst (bl os))), (34, .v (.lst (il hs))), (76, .v R), (77, .v (.int way)), (78, .v (cm 0 1))]) := by
    unfold lw16 sDrop
    rw [hσ]; rfl
  rw [ev_then e16]
  rw [ev_then (show lw17 _ = some (.next, [(35, .v (.lst (bl os))), (34, .v (.lst (il hs))), (76, .v R), (77, .v (.int way)), (78, .v (cm 0 1)), (79, .v (cm 1 way))]) from rfl)]
  rw [lw18_eq, ev_then (ev_asg ht)]
  have e19 : lw19 (Sto.put [(35, .v (.lst (bl os))), (34, .v (.lst (il hs))), (76, .v R), (77, .v (.int way)), (78, .v (cm 0 1)), (79, .v (cm 1 way))] 80 (.v (.int told))) = some (.next, [(35, .v (.lst (bl os))), (34, .v (.lst (il hs))), (76, .v R), (77, .v (.int way)), (78, .v (cm 0 1)), (79, .v (cm 1 way)), (80, .v (.int told)), (65, .v tb)]) :=
    ev_asg ((ev_app (l := [.lst (il hs)]) rfl).trans S.table)
  rw [ev_then e19]
  rw [ev_then (show lw20 _ = some (.next, [(35, .v (.lst (bl os))), (34, .v (.lst (il hs))), (76, .v R), (77, .v (.int way)), (78, .v (cm 0 1)), (79, .v (cm 1 way)), (80, .v (.int told)), (65, .v tb), (81, .o (.lst []))]) from rfl)]
  rw [ev_then (show lw21 _ = some (.next, [(35, .v (.lst (bl os))), (34, .v (.lst (il hs))), (76, .v R), (77, .v (.int way)), (78, .v (cm 0 1)), (79, .v (cm 1 way)), (80, .v (.int told)), (65, .v tb), (81, .o (.lst [])), (82, .o (.lst []))]) from rfl)]
  rw [ev_then (show lw22 _ = some (.next, [(35, .v (.lst (bl os))), (34, .v (.lst (il hs))), (76, .v R), (77, .v (.int way)), (78, .v (cm 0 1)), (79, .v (cm 1 way)), (80, .v (.int told)), (65, .v tb), (81, .o (.lst [])), (82, .o (.lst [])), (83, .v (.int (-1)))]) from rfl)]
  rw [ev_then (show lw23 _ = some (.next, SW (.v (.lst (bl os))) (.v (.lst (il hs))) (.v R) (.v (.int way)) (.v (cm 0 1)) (.v (cm 1 way)) (.v (.int told)) (.v tb) [] [] (-1) tot0 []) from rfl)]
  refine hide fun GG kk => ?_
  obtain ⟨T', hT', e24⟩ := ways_loop (x35 := .v (.lst (bl os))) (x34 := .v (.lst (il hs))) (x77 := .v (.int way)) (x78 := .v (cm 0 1)) (x79 := .v (cm 1 way)) (x80 := .v (.int told)) (x65 := .v tb) ws tot0 [] [] (-1) [] S.run hf (by have := S.few; simp; omega) (by have := S.few; simp; omega) (.inl rfl)
  obtain ⟨a, b, c, d, rfl⟩ : F4 T' := hT'.elim (fun h => absurd h.1 S.some_) id
  refine kk ?_
  clear kk GG
  rw [List.nil_append, List.nil_append] at e24
  have e24' : lw24 (SW (.v (.lst (bl os))) (.v (.lst (il hs))) (.v R) (.v (.int way)) (.v (cm 0 1)) (.v (cm 1 way)) (.v (.int told)) (.v tb) [] [] (-1) tot0 []) = some (.next, SW (.v (.lst (bl os))) (.v (.lst (il hs))) (.v R) (.v (.int way)) (.v (cm 0 1)) (.v (cm 1 way)) (.v (.int told)) (.v tb) (natD as) (natD bs) f tot [(36, .v a), (110, .v b), (111, .v c), (112, .v d)]) :=
    (ev_for (ev_iAny ((ev_app (l := [.lst (bl os)]) rfl).trans S.ways) (by have := S.few; omega))).trans e24
  rw [ev_then e24']
  have e25 : ∀ T, lw25 (SW (.v (.lst (bl os))) (.v (.lst (il hs))) (.v R) (.v (.int way)) (.v (cm 0 1)) (.v (cm 1 way)) (.v (.int told)) (.v tb) (natD as) (natD bs) f tot T) = some (.next, SW (.v (.lst (bl os))) (.v (.lst (il hs))) (.v R) (.v (.int way)) (.v (cm 0 1)) (.v (cm 1 way)) (.v (.int told)) (.v tb) (natD as) (natD bs) f tot T) := fun T => by
    unfold lw25
    rw [ev_if_f (ev_bcmp (x := .v (.int told)) (y := .v (.int (way * (12 - 4 * f)))) (q := false) rfl (ev_lE (ev_bin (x := .v (.int way)) (y := .v (.int (12 - 4 * f))) rfl (ev_lE (ev_bin (x := .v (.int 12)) (y := .v (.int (4 * f))) rfl (ev_lE (ev_bin (x := .v (.int 4)) (y := .v (.int f)) rfl rfl (bin_mul rfl))) (bin_sub _ _))) (bin_mul hsm))) ((ne_int told (way * (12 - 4 * f))).trans (by rw [hev]; simp)))]
    rfl
  rw [ev_then (e25 _)]
  have hrest := S.rest (.v R) (.v (.int way)) (.v (cm 0 1)) (.v (cm 1 way)) (.v (.int told)) f a b c d
  generalize lwR _ = r at hrest ⊢
  match r, hrest with
  | some (fl, σ'), h =>
    simp only [Option.map_some, Option.some.injEq] at h
    exact ⟨σ', by rw [h]⟩
end Mine
namespace Mine
open PySem PySem.W PySem.Calls PyProof.Rows

/-! the fourteen shapes (printed by genshape.py) -/
noncomputable def ws0 : List (List (Int × Int)) := [[(0, 4), (1, 5), (2, 6), (3, 7)], [(0, 4), (1, 5), (2, 7), (3, 6)], [(0, 4), (1, 6), (2, 5), (3, 7)], [(0, 4), (1, 7), (2, 5), (3, 6)], [(0, 4), (1, 6), (2, 7), (3, 5)], [(0, 4), (1, 7), (2, 6), (3, 5)], [(0, 5), (1, 4), (2, 6), (3, 7)], [(0, 5), (1, 4), (2, 7), (3, 6)], [(0, 6), (1, 4), (2, 5), (3, 7)], [(0, 7), (1, 4), (2, 5), (3, 6)], [(0, 6), (1, 4), (2, 7), (3, 5)], [(0, 7), (1, 4), (2, 6), (3, 5)], [(0, 5), (1, 6), (2, 4), (3, 7)], [(0, 5), (1, 7), (2, 4), (3, 6)], [(0, 6), (1, 5), (2, 4), (3, 7)], [(0, 7), (1, 5), (2, 4), (3, 6)], [(0, 6), (1, 7), (2, 4), (3, 5)], [(0, 7), (1, 6), (2, 4), (3, 5)], [(0, 5), (1, 6), (2, 7), (3, 4)], [(0, 5), (1, 7), (2, 6), (3, 4)], [(0, 6), (1, 5), (2, 7), (3, 4)], [(0, 7), (1, 5), (2, 6), (3, 4)], [(0, 6), (1, 7), (2, 5), (3, 4)], [(0, 7), (1, 6), (2, 5), (3, 4)]]
theorem shape0 : Shape [true, true, true, true, false, false, false, false] [4, 3, 2, 1] (ws0.map pr) [6, 5, 5, 4, 4, 3, 5, 4, 4, 3, 3, 2, 4, 3, 3, 2, 2, 1, 3, 2, 2, 1, 1, 0] [0, 1, 1, 2, 2, 3, 1, 2, 2, 3, 3, 4, 2, 3, 3, 4, 4, 5, 3, 4, 4, 5, 5, 6] (.dct [0, 1, 2, 3, 4, 5, 6] [.int 1, .int 3, .int 5, .int 6, .int 5, .int 3, .int 1]) (.tup [.int 24, .int 72, .int 72, .int 164, .dct [33, 26, 19, 18, 12] [.int 1, .int 9, .int 9, .int 4, .int 1]]) where
  ways := by kernel_rfl
  few := by decide
  some_ := by simp [ws0]
  table := by kernel_rfl
  run := by kernel_rfl
  rest := fun _ _ _ _ _ _ _ _ _ _ => by kernel_rfl
  evs := by kernel_rfl
noncomputable def ws1 : List (List (Int × Int)) := [[(0, 3), (1, 5), (2, 6), (4, 7)], [(0, 3), (1, 5), (2, 7), (4, 6)], [(0, 3), (1, 6), (2, 5), (4, 7)], [(0, 3), (1, 7), (2, 5), (4, 6)], [(0, 3), (1, 6), (2, 7), (4, 5)], [(0, 3), (1, 7), (2, 6), (4, 5)], [(0, 5), (1, 3), (2, 6), (4, 7)], [(0, 5), (1, 3), (2, 7), (4, 6)], [(0, 6), (1, 3), (2, 5), (4, 7)], [(0, 7), (1, 3), (2, 5), (4, 6)], [(0, 6), (1, 3), (2, 7), (4, 5)], [(0, 7), (1, 3), (2, 6), (4, 5)], [(0, 5), (1, 6), (2, 3), (4, 7)], [(0, 5), (1, 7), (2, 3), (4, 6)], [(0, 6), (1, 5), (2, 3), (4, 7)], [(0, 7), (1, 5), (2, 3), (4, 6)], [(0, 6), (1, 7), (2, 3), (4, 5)], [(0, 7), (1, 6), (2, 3), (4, 5)]]
theorem shape1 : Shape [true, true, true, false, true, false, false, false] [3, 3, 2, 1] (ws1.map pr) [5, 4, 4, 3, 3, 2, 4, 3, 3, 2, 2, 1, 3, 2, 2, 1, 1, 0] [0, 1, 1, 2, 2, 3, 1, 2, 2, 3, 3, 4, 2, 3, 3, 4, 4, 5] (.dct [0, 1, 2, 3, 4, 5] [.int 1, .int 3, .int 5, .int 5, .int 3, .int 1]) (.tup [.int 18, .int 45, .int 45, .int 84, .dct [25, 26, 18, 19, 11] [.int 1, .int 4, .int 8, .int 4, .int 1]]) where
  ways := by kernel_rfl
  few := by decide
  some_ := by simp [ws1]
  table := by kernel_rfl
  run := by kernel_rfl
  rest := fun _ _ _ _ _ _ _ _ _ _ => by kernel_rfl
  evs := by kernel_rfl
noncomputable def ws2 : List (List (Int × Int)) := [[(0, 3), (1, 4), (2, 6), (5, 7)], [(0, 3), (1, 4), (2, 7), (5, 6)], [(0, 3), (1, 6), (2, 4), (5, 7)], [(0, 3), (1, 7), (2, 4), (5, 6)], [(0, 4), (1, 3), (2, 6), (5, 7)], [(0, 4), (1, 3), (2, 7), (5, 6)], [(0, 6), (1, 3), (2, 4), (5, 7)], [(0, 7), (1, 3), (2, 4), (5, 6)], [(0, 4), (1, 6), (2, 3), (5, 7)], [(0, 4), (1, 7), (2, 3), (5, 6)], [(0, 6), (1, 4), (2, 3), (5, 7)], [(0, 7), (1, 4), (2, 3), (5, 6)]]
theorem shape2 : Shape [true, true, true, false, false, true, false, false] [3, 2, 2, 1] (ws2.map pr) [4, 3, 3, 2, 3, 2, 2, 1, 2, 1, 1, 0] [0, 1, 1, 2, 1, 2, 2, 3, 2, 3, 3, 4] (.dct [0, 1, 2, 3, 4] [.int 1, .int 3, .int 4, .int 3, .int 1]) (.tup [.int 12, .int 24, .int 24, .int 34, .dct [25, 26, 18, 19, 11] [.int 1, .int 1, .int 8, .int 1, .int 1]]) where
  ways := by kernel_rfl
  few := by decide
  some_ := by simp [ws2]
  table := by kernel_rfl
  run := by kernel_rfl
  rest := fun _ _ _ _ _ _ _ _ _ _ => by kernel_rfl
  evs := by kernel_rfl
noncomputable def ws3 : List (List (Int × Int)) := [[(0, 3), (1, 4), (2, 5), (6, 7)], [(0, 3), (1, 5), (2, 4), (6, 7)], [(0, 4), (1, 3), (2, 5), (6, 7)], [(0, 5), (1, 3), (2, 4), (6, 7)], [(0, 4), (1, 5), (2, 3), (6, 7)], [(0, 5), (1, 4), (2, 3), (6, 7)]]
theorem shape3 : Shape [true, true, true, false, false, false, true, false] [3, 2, 1, 1] (ws3.map pr) [3, 2, 2, 1, 1, 0] [0, 1, 1, 2, 2, 3] (.dct [0, 1, 2, 3] [.int 1, .int 2, .int 2, .int 1]) (.tup [.int 6, .int 9, .int 9, .int 8, .dct [25, 18, 11] [.int 1, .int 4, .int 1]]) where
  ways := by kernel_rfl
  few := by decide
  some_ := by simp [ws3]
  table := by kernel_rfl
  run := by kernel_rfl
  rest := fun _ _ _ _ _ _ _ _ _ _ => by kernel_rfl
  evs := by kernel_rfl
noncomputable def ws4 : List (List (Int × Int)) := [[(0, 2), (1, 5), (3, 6), (4, 7)], [(0, 2), (1, 5), (3, 7), (4, 6)], [(0, 2), (1, 6), (3, 5), (4, 7)], [(0, 2), (1, 7), (3, 5), (4, 6)], [(0, 2), (1, 6), (3, 7), (4, 5)], [(0, 2), (1, 7), (3, 6), (4, 5)], [(0, 5), (1, 2), (3, 6), (4, 7)], [(0, 5), (1, 2), (3, 7), (4, 6)], [(0, 6), (1, 2), (3, 5), (4, 7)], [(0, 7), (1, 2), (3, 5), (4, 6)], [(0, 6), (1, 2), (3, 7), (4, 5)], [(0, 7), (1, 2), (3, 6), (4, 5)]]
theorem shape4 : Shape [true, true, false, true, true, false, false, false] [2, 3, 2, 1] (ws4.map pr) [4, 3, 3, 2, 2, 1, 3, 2, 2, 1, 1, 0] [0, 1, 1, 2, 2, 3, 1, 2, 2, 3, 3, 4] (.dct [0, 1, 2, 3, 4] [.int 1, .int 3, .int 4, .int 3, .int 1]) (.tup [.int 12, .int 24, .int 24, .int 34, .dct [25, 18, 19, 26, 11] [.int 1, .int 8, .int 1, .int 1, .int 1]]) where
  ways := by kernel_rfl
  few := by decide
  some_ := by simp [ws4]
  table := by kernel_rfl
  run := by kernel_rfl
  rest := fun _ _ _ _ _ _ _ _ _ _ => by kernel_rfl
  evs := by kernel_rfl
noncomputable def ws5 : List (List (Int × Int)) := [[(0, 2), (1, 4), (3, 6), (5, 7)], [(0, 2), (1, 4), (3, 7), (5, 6)], [(0, 2), (1, 6), (3, 4), (5, 7)], [(0, 2), (1, 7), (3, 4), (5, 6)], [(0, 4), (1, 2), (3, 6), (5, 7)], [(0, 4), (1, 2), (3, 7), (5, 6)], [(0, 6), (1, 2), (3, 4), (5, 7)], [(0, 7), (1, 2), (3, 4), (5, 6)]]
theorem shape5 : Shape [true, true, false, true, false, true, false, false] [2, 2, 2, 1] (ws5.map pr) [3, 2, 2, 1, 2, 1, 1, 0] [0, 1, 1, 2, 1, 2, 2, 3] (.dct [0, 1, 2, 3] [.int 1, .int 3, .int 3, .int 1]) (.tup [.int 8, .int 12, .int 12, .int 12, .dct [17, 18, 10] [.int 1, .int 6, .int 1]]) where
  ways := by kernel_rfl
  few := by decide
  some_ := by simp [ws5]
  table := by kernel_rfl
  run := by kernel_rfl
  rest := fun _ _ _ _ _ _ _ _ _ _ => by kernel_rfl
  evs := by kernel_rfl
noncomputable def ws6 : List (List (Int × Int)) := [[(0, 2), (1, 4), (3, 5), (6, 7)], [(0, 2), (1, 5), (3, 4), (6, 7)], [(0, 4), (1, 2), (3, 5), (6, 7)], [(0, 5), (1, 2), (3, 4), (6, 7)]]
theorem shape6 : Shape [true, true, false, true, false, false, true, false] [2, 2, 1, 1] (ws6.map pr) [2, 1, 1, 0] [0, 1, 1, 2] (.dct [0, 1, 2] [.int 1, .int 2, .int 1]) (.tup [.int 4, .int 4, .int 4, .int 2, .dct [17, 18, 10] [.int 1, .int 2, .int 1]]) where
  ways := by kernel_rfl
  few := by decide
  some_ := by simp [ws6]
  table := by kernel_rfl
  run := by kernel_rfl
  rest := fun _ _ _ _ _ _ _ _ _ _ => by kernel_rfl
  evs := by kernel_rfl
noncomputable def ws7 : List (List (Int × Int)) := [[(0, 2), (1, 3), (4, 6), (5, 7)], [(0, 2), (1, 3), (4, 7), (5, 6)], [(0, 3), (1, 2), (4, 6), (5, 7)], [(0, 3), (1, 2), (4, 7), (5, 6)]]
theorem shape7 : Shape [true, true, false, false, true, true, false, false] [2, 1, 2, 1] (ws7.map pr) [2, 1, 1, 0] [0, 1, 1, 2] (.dct [0, 1, 2] [.int 1, .int 2, .int 1]) (.tup [.int 4, .int 4, .int 4, .int 2, .dct [17, 18, 10] [.int 1, .int 2, .int 1]]) where
  ways := by kernel_rfl
  few := by decide
  some_ := by simp [ws7]
  table := by kernel_rfl
  run := by kernel_rfl
  rest := fun _ _ _ _ _ _ _ _ _ _ => by kernel_rfl
  evs := by kernel_rfl
noncomputable def ws8 : List (List (Int × Int)) := [[(0, 2), (1, 3), (4, 5), (6, 7)], [(0, 3), (1, 2), (4, 5), (6, 7)]]
theorem shape8 : Shape [true, true, false, false, true, false, true, false] [2, 1, 1, 1] (ws8.map pr) [1, 0] [0, 1] (.dct [0, 1] [.int 1, .int 1]) (.tup [.int 2, .int 1, .int 1, .int 0, .dct [17, 10] [.int 1, .int 1]]) where
  ways := by kernel_rfl
  few := by decide
  some_ := by simp [ws8]
  table := by kernel_rfl
  run := by kernel_rfl
  rest := fun _ _ _ _ _ _ _ _ _ _ => by kernel_rfl
  evs := by kernel_rfl
noncomputable def ws9 : List (List (Int × Int)) := [[(0, 1), (2, 5), (3, 6), (4, 7)], [(0, 1), (2, 5), (3, 7), (4, 6)], [(0, 1), (2, 6), (3, 5), (4, 7)], [(0, 1), (2, 7), (3, 5), (4, 6)], [(0, 1), (2, 6), (3, 7), (4, 5)], [(0, 1), (2, 7), (3, 6), (4, 5)]]
theorem shape9 : Shape [true, false, true, true, true, false, false, false] [1, 3, 2, 1] (ws9.map pr) [3, 2, 2, 1, 1, 0] [0, 1, 1, 2, 2, 3] (.dct [0, 1, 2, 3] [.int 1, .int 2, .int 2, .int 1]) (.tup [.int 6, .int 9, .int 9, .int 8, .dct [25, 18, 11] [.int 1, .int 4, .int 1]]) where
  ways := by kernel_rfl
  few := by decide
  some_ := by simp [ws9]
  table := by kernel_rfl
  run := by kernel_rfl
  rest := fun _ _ _ _ _ _ _ _ _ _ => by kernel_rfl
  evs := by kernel_rfl
noncomputable def ws10 : List (List (Int × Int)) := [[(0, 1), (2, 4), (3, 6), (5, 7)], [(0, 1), (2, 4), (3, 7), (5, 6)], [(0, 1), (2, 6), (3, 4), (5, 7)], [(0, 1), (2, 7), (3, 4), (5, 6)]]
theorem shape10 : Shape [true, false, true, true, false, true, false, false] [1, 2, 2, 1] (ws10.map pr) [2, 1, 1, 0] [0, 1, 1, 2] (.dct [0, 1, 2] [.int 1, .int 2, .int 1]) (.tup [.int 4, .int 4, .int 4, .int 2, .dct [17, 18, 10] [.int 1, .int 2, .int 1]]) where
  ways := by kernel_rfl
  few := by decide
  some_ := by simp [ws10]
  table := by kernel_rfl
  run := by kernel_rfl
  rest := fun _ _ _ _ _ _ _ _ _ _ => by kernel_rfl
  evs := by kernel_rfl
noncomputable def ws11 : List (List (Int × Int)) := [[(0, 1), (2, 4), (3, 5), (6, 7)], [(0, 1), (2, 5), (3, 4), (6, 7)]]
theorem shape11 : Shape [true, false, true, true, false, false, true, false] [1, 2, 1, 1] (ws11.map pr) [1, 0] [0, 1] (.dct [0, 1] [.int 1, .int 1]) (.tup [.int 2, .int 1, .int 1, .int 0, .dct [17, 10] [.int 1, .int 1]]) where
  ways := by kernel_rfl
  few := by decide
  some_ := by simp [ws11]
  table := by kernel_rfl
  run := by kernel_rfl
  rest := fun _ _ _ _ _ _ _ _ _ _ => by kernel_rfl
  evs := by kernel_rfl
noncomputable def ws12 : List (List (Int × Int)) := [[(0, 1), (2, 3), (4, 6), (5, 7)], [(0, 1), (2, 3), (4, 7), (5, 6)]]
theorem shape12 : Shape [true, false, true, false, true, true, false, false] [1, 1, 2, 1] (ws12.map pr) [1, 0] [0, 1] (.dct [0, 1] [.int 1, .int 1]) (.tup [.int 2, .int 1, .int 1, .int 0, .dct [17, 10] [.int 1, .int 1]]) where
  ways := by kernel_rfl
  few := by decide
  some_ := by simp [ws12]
  table := by kernel_rfl
  run := by kernel_rfl
  rest := fun _ _ _ _ _ _ _ _ _ _ => by kernel_rfl
  evs := by kernel_rfl
noncomputable def ws13 : List (List (Int × Int)) := [[(0, 1), (2, 3), (4, 5), (6, 7)]]
theorem shape13 : Shape [true, false, true, false, true, false, true, false] [1, 1, 1, 1] (ws13.map pr) [0] [0] (.dct [0] [.int 1]) (.tup [.int 1, .int 0, .int 0, .int 0, .dct [9] [.int 1]]) where
  ways := by kernel_rfl
  few := by decide
  some_ := by simp [ws13]
  table := by kernel_rfl
  run := by kernel_rfl
  rest := fun _ _ _ _ _ _ _ _ _ _ => by kernel_rfl
  evs := by kernel_rfl
end Mine
namespace Mine
open PySem PySem.W PySem.Calls PyProof.Rows

/-! a session's name -/
noncomputable def ltr (k : Nat) (up : Bool) : Nat := if up then 65 + k else 97 + k
noncomputable def sgn (q : Nat) : Nat := match q with
  | 0 => 40 | 1 => 41 | 2 => 34 | 3 => 92 | _ => 120
noncomputable def nmS (k : Nat) (up : Bool) (q1 q2 : Nat) : Str := ⟨#[ltr k up, sgn q1, sgn q2]⟩

noncomputable def isStr (r : Option D) (x : Str) : Bool := match r with
  | some (.str y) => y == x
  | _ => false
theorem isStr_eq {r : Option D} {x : Str} (h : isStr r x = true) : r = some (.str x) := by
  unfold isStr at h
  split at h
  · rw [beq_iff_eq.mp h]
  · cases h
theorem upper_all : ((List.range 20).all fun k => isStr (upperD [.str ⟨#[97 + k]⟩]) ⟨#[65 + k]⟩) = true := by kernel_rfl
theorem upper_l {k : Nat} (h : k < 20) : upperD [.str ⟨#[97 + k]⟩] = some (.str ⟨#[65 + k]⟩) := isStr_eq (List.all_eq_true.mp upper_all k (List.mem_range.mpr h))
theorem lower_all : ((List.range 20).all fun k => isStr (lowerD [.str ⟨#[97 + k]⟩]) ⟨#[97 + k]⟩ && isStr (lowerD [.str ⟨#[65 + k]⟩]) ⟨#[97 + k]⟩) = true := by kernel_rfl
theorem lower_l {k : Nat} (h : k < 20) (up : Bool) : lowerD [.str ⟨#[ltr k up]⟩] = some (.str ⟨#[97 + k]⟩) := by
  have := List.all_eq_true.mp lower_all k (List.mem_range.mpr h)
  simp only [Bool.and_eq_true] at this
  cases up
  · exact isStr_eq this.1
  · exact isStr_eq this.2
theorem sign_all : ((List.range 5).all fun q => isStr (idxD (.str "()\"\\x") (.int (q : Nat))) ⟨#[sgn q]⟩) = true := by kernel_rfl
theorem sign_l {q : Nat} (h : q < 5) : idxD (.str "()\"\\x") (.int (q : Nat)) = some (.str ⟨#[sgn q]⟩) := isStr_eq (List.all_eq_true.mp sign_all q (List.mem_range.mpr h))

noncomputable def nmR (v : Int) : Nat := (v.fmod 5).toNat
noncomputable def nmU (v : Int) (o : Bool) : Bool := o != decide ((v.fdiv 5).fmod 2 = 0)
noncomputable def nmX (v : Int) (o : Bool) : Int := if o then v.fdiv 10 else v.fdiv 250
noncomputable def nmQ1 (v : Int) (o : Bool) : Nat := ((nmX v o).fmod 5).toNat
noncomputable def nmQ2 (v : Int) (o : Bool) : Nat := (((nmX v o).fdiv 5).fmod 5).toNat
theorem fmod5 (v : Int) : ∃ r : Nat, r < 5 ∧ v.fmod 5 = (r : Int) := by
  have h1 := Int.fmod_nonneg_of_pos v (show (0 : Int) < 5 by decide)
  have h2 := Int.fmod_lt_of_pos v (show (0 : Int) < 5 by decide)
  exact ⟨(v.fmod 5).toNat, by omega, by omega⟩

theorem name_val (v : Int) {s : Nat} (hs : s < 4) (o : Bool) : d__law_name [.int v, .int s, .bool o] = some (.str (nmS (5 * s + nmR v) (nmU v o) (nmQ1 v o) (nmQ2 v o))) := by
  refine hide fun GG kk => ?_
  obtain ⟨r, hr, er⟩ := fmod5 v
  obtain ⟨q1, hq1, eq1⟩ := fmod5 (nmX v o)
  obtain ⟨q2, hq2, eq2⟩ := fmod5 ((nmX v o).fdiv 5)
  refine kk ?_
  clear kk GG
  have e1 : nmR v = r := by unfold nmR; omega
  have e2 : nmQ1 v o = q1 := by unfold nmQ1; omega
  have e3 : nmQ2 v o = q2 := by unfold nmQ2; omega
  rw [e1, e2, e3]
  have hk : 5 * s + r < 20 := by omega
  have body : den__law_name [(27, .v (.int v)), (28, .v (.int s)), (29, .v (.bool o))] = some (.ret (.str (nmS (5 * s + r) (nmU v o) q1 q2)), [(27, .v (.int v)), (28, .v (.int s)), (29, .v (.bool o)), (60, .v (.str ⟨#[ltr (5 * s + r) (nmU v o)]⟩)), (61, .v (.int (nmX v o)))]) := by
    unfold den__law_name
    have c1 : chrD [.int (97 + 5 * (s : Int) + (r : Int))] = some (.str ⟨#[97 + (5 * s + r)]⟩) := by
      simp only [chrD]
      rw [if_pos (by simp; omega)]
      congr 5
      omega
    rw [ev_then (ev_asg ((ev_app (ev_cons (ev_bin (ev_lE (ev_bin (ev_lE rfl) (ev_lE (ev_bin (x := .v (.int 5)) (y := .v (.int s)) rfl rfl (bin_mul rfl))) (bin_add _ _))) (ev_lE (ev_bin (x := .v (.int v)) (y := .v (.int 5)) rfl rfl ((bin_mod rfl).trans (by rw [er])))) (bin_add _ _)) rfl)).trans c1))]
    have t1 : ∀ x, bCmp .ne (lVar 29) (lE (eCmp .eq (lE (eBin .mod (lE (eBin .fdiv (lVar 27) (lE (eLit (.int 5))))) (lE (eLit (.int 2))))) (lE (eLit (.int 0))))) [(27, .v (.int v)), (28, .v (.int s)), (29, .v (.bool o)), (60, x)] = some (nmU v o) := fun x =>
      ev_bcmp (x := .v (.bool o)) rfl (ev_lE (ev_cmp (x := .v (.int ((v.fdiv 5).fmod 2))) (y := .v (.int 0)) (ev_lE (ev_bin (x := .v (.int (v.fdiv 5))) (y := .v (.int 2)) (ev_lE (ev_bin (x := .v (.int v)) (y := .v (.int 5)) rfl rfl (bin_fdiv rfl))) rfl (bin_mod rfl))) rfl (eq_int _ _))) (ne_bool _ _)
    have s2 : sIf (bCmp .ne (lVar 29) (lE (eCmp .eq (lE (eBin .mod (lE (eBin .fdiv (lVar 27) (lE (eLit (.int 5))))) (lE (eLit (.int 2))))) (lE (eLit (.int 0)))))) (sThen (sAsg (.one 60) (eMeth upperD (eVar 60) aNil)) sNil) sNil [(27, .v (.int v)), (28, .v (.int s)), (29, .v (.bool o)), (60, .v (.str ⟨#[97 + (5 * s + r)]⟩))]
        = some (.next, [(27, .v (.int v)), (28, .v (.int s)), (29, .v (.bool o)), (60, .v (.str ⟨#[ltr (5 * s + r) (nmU v o)]⟩))]) := by
      cases hu : nmU v o with
      | true => rw [ev_if_t ((t1 _).trans (by rw [hu])), ev_then (ev_asg ((ev_meth (ev_var rfl) rfl).trans (upper_l hk)))]; rfl
      | false => rw [ev_if_f ((t1 _).trans (by rw [hu]))]; rfl
    rw [show (Sto.put [(27, LV.v (D.int v)), (28, LV.v (D.int s)), (29, LV.v (D.bool o))] 60 (LV.v (D.str ⟨#[97 + (5 * s + r)]⟩))) = [(27, .v (.int v)), (28, .v (.int s)), (29, .v (.bool o)), (60, .v (.str ⟨#[97 + (5 * s + r)]⟩))] from rfl]
    rw [ev_then s2]
    have s3 : (eIte (bVal (eVar 29)) (eBin .fdiv (lVar 27) (lE (eLit (.int 10)))) (eBin .fdiv (lVar 27) (lE (eLit (.int 250))))) [(27, .v (.int v)), (28, .v (.int s)), (29, .v (.bool o)), (60, .v (.str ⟨#[ltr (5 * s + r) (nmU v o)]⟩))] = some (.int (nmX v o)) := by
      unfold nmX
      cases o with
      | true => rw [ev_ite_t rfl]; exact ev_bin (x := .v (.int v)) (y := .v (.int 10)) rfl rfl (bin_fdiv rfl)
      | false => rw [ev_ite_f rfl]; exact ev_bin (x := .v (.int v)) (y := .v (.int 250)) rfl rfl (bin_fdiv rfl)
    rw [ev_then (ev_asg s3)]
    refine ev_ret_then (ev_ret ?_)
    refine ev_bin (ev_lE (ev_bin (x := .v (.str ⟨#[ltr (5 * s + r) (nmU v o)]⟩)) rfl (ev_lE (ev_idx (x := .v (.str "()\"\\x")) (y := .v (.int (q1 : Nat))) rfl (ev_lE (ev_bin (x := .v (.int (nmX v o))) (y := .v (.int 5)) rfl rfl ((bin_mod rfl).trans (by rw [eq1])))) (sign_l hq1))) (bin_str (Nat.le_of_ble_eq_true rfl)))) 
      (ev_lE (ev_idx (x := .v (.str "()\"\\x")) (y := .v (.int (q2 : Nat))) rfl (ev_lE (ev_bin (x := .v (.int ((nmX v o).fdiv 5))) (y := .v (.int 5)) (ev_lE (ev_bin (x := .v (.int (nmX v o))) (y := .v (.int 5)) rfl rfl (bin_fdiv rfl))) rfl ((bin_mod rfl).trans (by rw [eq2])))) (sign_l hq2))) (bin_str (Nat.le_of_ble_eq_true rfl))
  show fnOf [27, 28, 29] den__law_name _ = _
  unfold fnOf
  rw [show bindLs [27, 28, 29] [D.int v, D.int s, D.bool o] [] = some [(27, .v (.int v)), (28, .v (.int s)), (29, .v (.bool o))] from rfl]
  dsimp only
  rw [body]
end Mine
namespace Mine
open PySem PySem.W PySem.Calls PyProof.Rows

/-! a name as a list's item, and the depth that it makes -/
theorem foldC3 {i : Nat} {f : DE} {σ : Sto} {d1 d2 d3 r1 r2 r3 : D} (h1 : f (σ.put i (.v d1)) = some r1) (h2 : f (σ.put i (.v d2)) = some r2) (h3 : f (σ.put i (.v d3)) = some r3) :
    foldC (.one i) bTrue (appF f) σ [d1, d2, d3] (.lst []) = some (.lst [r1, r2, r3]) := by
  simp only [foldC, bindP, bTrue, appF, h1, h2, h3]
  rfl
theorem u8_id {X : Array Nat} (h : X.all (· < 128) = true) : (X.map (·.toUInt8)).map (·.toNat) = X := by
  rw [Array.map_map]
  apply Array.ext
  · simp
  · intro i h1 h2
    have := Array.all_eq_true.mp h i h2
    simp at this
    simp
    omega
theorem body_ord {t : Array Nat} {k p : Nat} (hl : p < t.size) (h1 : tc t p ≠ 34) (h2 : tc t p ≠ 92) : body t (k + 1) p = body t k (p + 1) := by
  rw [body, if_pos hl, if_neg h1, if_neg h2]

noncomputable def esc (q : Nat) : Array Nat := match q with
  | 0 => #[40] | 1 => #[41] | 2 => #[92, 34] | 3 => #[92, 92] | _ => #[120]
noncomputable def preA (o : Bool) : Array Nat := if o then #[34, 47, 34, 40, 34] else #[34, 47, 34, 34]
noncomputable def posA (o : Bool) : Array Nat := if o then #[34] else #[34, 41]
noncomputable def pieceA (c q1 q2 : Nat) (o : Bool) : Array Nat := preA o ++ #[c] ++ esc q1 ++ esc q2 ++ posA o

theorem eq25 {α : Type} {f g : Nat → Nat → α} (h : (List.range 25).map (fun k => f (k / 5) (k % 5)) = (List.range 25).map (fun k => g (k / 5) (k % 5))) : ∀ q1 < 5, ∀ q2 < 5, f q1 q2 = g q1 q2 := by
  intro q1 h1 q2 h2
  have := List.map_inj_left.mp h (5 * q1 + q2) (List.mem_range.mpr (by omega))
  rwa [show (5 * q1 + q2) / 5 = q1 by omega, show (5 * q1 + q2) % 5 = q2 by omega] at this
noncomputable def chE : DE := eIte (bCmp .inn (lVar 134) (lE (eLit (.str "\"\\")))) (eBin .add (lE (eLit (.str "\\"))) (lVar 134)) (eVar 134)
noncomputable def chS (q q' : Nat) : Option D := chE [(134, .v (.str ⟨#[sgn q]⟩))]
noncomputable def chR (q q' : Nat) : Option D := some (.str ⟨esc q⟩)
theorem chE_eq {σ τ : Sto} (h : σ.get 134 = τ.get 134) : chE σ = chE τ := by
  have e1 : lVar 134 σ = lVar 134 τ := h
  have e2 : eVar 134 σ = eVar 134 τ := by unfold eVar; rw [h]
  unfold chE eIte bCmp eBin
  rw [e1, e2]
  rfl
theorem ch_val : ∀ q < 5, ∀ q' < 5, chS q q' = chR q q' := eq25 (by kernel_rfl)
noncomputable def jnL (c q1 q2 : Nat) : Option D := joinD [.str "", .lst [.str ⟨#[c]⟩, .str ⟨esc q1⟩, .str ⟨esc q2⟩]]
noncomputable def jnR (c q1 q2 : Nat) : Option D := some (.str ⟨#[c] ++ esc q1 ++ esc q2⟩)
theorem jn_val (c : Nat) : ∀ q1 < 5, ∀ q2 < 5, jnL c q1 q2 = jnR c q1 q2 := eq25 (f := jnL c) (g := jnR c) (by kernel_rfl)
theorem esc_lt (q : Nat) : (esc q).all (· < 128) = true := by unfold esc; split <;> simp
theorem esc_sz (q : Nat) : (esc q).size ≤ 2 := by unfold esc; split <;> decide
theorem sgn_lt (q : Nat) : sgn q < 128 := by unfold sgn; split <;> decide
theorem pieceA_lt {c : Nat} (hc : c < 128) (q1 q2 : Nat) (o : Bool) : (pieceA c q1 q2 o).all (· < 128) = true := by
  unfold pieceA
  rw [Array.all_append, Array.all_append, Array.all_append, Array.all_append, esc_lt, esc_lt]
  cases o <;> simp [preA, posA, hc]
theorem pieceA_sz (c q1 q2 : Nat) (o : Bool) : (pieceA c q1 q2 o).size ≤ 60 := by
  have h1 := esc_sz q1
  have h2 := esc_sz q2
  have h3 : (preA o).size ≤ 5 := by cases o <;> decide
  have h4 : (posA o).size ≤ 2 := by cases o <;> decide
  unfold pieceA
  simp only [Array.size_append]
  simp
  omega
theorem sq : ("\"" : Str) = ⟨#[34]⟩ := by kernel_rfl
theorem sq3 : ("\"/\"" : Str) = ⟨#[34, 47, 34]⟩ := by kernel_rfl
theorem sop : ("(" : Str) = ⟨#[40]⟩ := by kernel_rfl
theorem scl : (")" : Str) = ⟨#[41]⟩ := by kernel_rfl
theorem app_str (a b : Array Nat) : (⟨a⟩ : Str) ++ (⟨b⟩ : Str) = ⟨a ++ b⟩ := rfl
theorem bin_arr {a b r : Array Nat} (h : a.size + b.size ≤ 1000) (e : a ++ b = r) : binD .add (.str ⟨a⟩) (.str ⟨b⟩) = some (.str ⟨r⟩) := by
  rw [bin_str (by exact h), app_str, e]

theorem den_piece_eq : den__law_piece = sThen (sAsg (.one 64) (eBin .add (lE (eBin .add (lE (eLit (.str "\""))) (lE (eMeth joinD (eLit (.str "")) (aCons (lcF (iAny (eVar 33)) (.one 134) bTrue chE) aNil))))) (lE (eLit (.str "\"")))))
    (sThen (sRet (eMeth encodeD (eBin .add (lE (eLit (.str "\"/\""))) (lE (eIte (bVal (eVar 29)) (eBin .add (lE (eLit (.str "("))) (lVar 64)) (eBin .add (lVar 64) (lE (eLit (.str ")"))))))) aNil)) sNil) := rfl
theorem piece_val {c : Nat} (hc : c < 128) (hin : cmpD .inn (.str ⟨#[c]⟩) (.str "\"\\") = some false) (o : Bool) : ∀ q1 < 5, ∀ q2 < 5,
    d__law_piece [.str ⟨#[c, sgn q1, sgn q2]⟩, .bool o] = some (.byt ((pieceA c q1 q2 o).map (·.toUInt8))) := by
  intro q1 hq1 q2 hq2
  have s1 := esc_sz q1
  have s2 := esc_sz q2
  have hal : (#[c, sgn q1, sgn q2] : Array Nat).all (· < 128) = true := by simp [hc, sgn_lt]
  have hit : iAny (eVar 33) [(33, .v (.str ⟨#[c, sgn q1, sgn q2]⟩)), (29, .v (.bool o))] = some [.str ⟨#[c]⟩, .str ⟨#[sgn q1]⟩, .str ⟨#[sgn q2]⟩] := by
    unfold iAny
    rw [ev_var rfl]
    exact if_pos hal
  have hcomp : lcF (iAny (eVar 33)) (.one 134) bTrue chE [(33, .v (.str ⟨#[c, sgn q1, sgn q2]⟩)), (29, .v (.bool o))] = some (.lst [.str ⟨#[c]⟩, .str ⟨esc q1⟩, .str ⟨esc q2⟩]) := by
    unfold lcF
    rw [hit]
    refine foldC3 ?_ ((chE_eq rfl).trans (ch_val q1 hq1 0 (by decide))) ((chE_eq rfl).trans (ch_val q2 hq2 0 (by decide)))
    unfold chE
    rw [ev_ite_f (ev_bcmp (x := .v (.str ⟨#[c]⟩)) (y := .v (.str "\"\\")) rfl rfl hin)]; rfl
  show fnOf [33, 29] den__law_piece _ = _
  unfold fnOf
  rw [show bindLs [33, 29] [D.str ⟨#[c, sgn q1, sgn q2]⟩, .bool o] [] = some [(33, .v (.str ⟨#[c, sgn q1, sgn q2]⟩)), (29, .v (.bool o))] from rfl]
  dsimp only
  rw [den_piece_eq]
  have h1 : binD .add (.str "\"") (.str ⟨#[c] ++ esc q1 ++ esc q2⟩) = some (.str ⟨#[34] ++ (#[c] ++ esc q1 ++ esc q2)⟩) := by rw [sq]; exact bin_arr (by simp; omega) rfl
  have h2 : binD .add (.str ⟨#[34] ++ (#[c] ++ esc q1 ++ esc q2)⟩) (.str "\"") = some (.str ⟨#[34] ++ (#[c] ++ esc q1 ++ esc q2) ++ #[34]⟩) := by rw [sq]; exact bin_arr (by simp; omega) rfl
  rw [ev_then (ev_asg (ev_bin (ev_lE (ev_bin (x := .v (.str "\"")) rfl (ev_lE ((ev_meth (d := .str "") rfl (ev_cons hcomp rfl)).trans (jn_val c q1 hq1 q2 hq2))) h1)) (ev_lE rfl) h2))]
  rw [show Sto.put [(33, LV.v (D.str ⟨#[c, sgn q1, sgn q2]⟩)), (29, .v (.bool o))] 64 (.v (.str ⟨#[34] ++ (#[c] ++ esc q1 ++ esc q2) ++ #[34]⟩)) = [(33, .v (.str ⟨#[c, sgn q1, sgn q2]⟩)), (29, .v (.bool o)), (64, .v (.str ⟨#[34] ++ (#[c] ++ esc q1 ++ esc q2) ++ #[34]⟩))] from rfl]
  have he : encodeD [.str ⟨pieceA c q1 q2 o⟩] = some (.byt ((pieceA c q1 q2 o).map (·.toUInt8))) := by
    simp only [encodeD]
    rw [if_pos ⟨pieceA_lt hc q1 q2 o, pieceA_sz c q1 q2 o⟩]
  have hx : eBin .add (lE (eLit (.str "\"/\""))) (lE (eIte (bVal (eVar 29)) (eBin .add (lE (eLit (.str "("))) (lVar 64)) (eBin .add (lVar 64) (lE (eLit (.str ")")))))) [(33, .v (.str ⟨#[c, sgn q1, sgn q2]⟩)), (29, .v (.bool o)), (64, .v (.str ⟨#[34] ++ (#[c] ++ esc q1 ++ esc q2) ++ #[34]⟩))] = some (.str ⟨pieceA c q1 q2 o⟩) := by
    cases o with
    | true =>
      refine ev_bin (x := .v (.str "\"/\"")) (y := LV.v (D.str ⟨#[40] ++ (#[34] ++ (#[c] ++ esc q1 ++ esc q2) ++ #[34])⟩)) rfl (ev_lE ((ev_ite_t rfl).trans (ev_bin (x := .v (.str "(")) (y := .v (.str ⟨#[34] ++ (#[c] ++ esc q1 ++ esc q2) ++ #[34]⟩)) rfl rfl ?_))) ?_
      · rw [sop]; exact bin_arr (by simp; omega) rfl
      · rw [sq3]; exact bin_arr (by simp; omega) (by apply Array.ext'; simp [pieceA, preA, posA])
    | false =>
      refine ev_bin (x := .v (.str "\"/\"")) (y := LV.v (D.str ⟨(#[34] ++ (#[c] ++ esc q1 ++ esc q2) ++ #[34]) ++ #[41]⟩)) rfl (ev_lE ((ev_ite_f rfl).trans (ev_bin (x := .v (.str ⟨#[34] ++ (#[c] ++ esc q1 ++ esc q2) ++ #[34]⟩)) (y := .v (.str ")")) rfl rfl ?_))) ?_
      · rw [scl]; exact bin_arr (by simp; omega) rfl
      · rw [sq3]; exact bin_arr (by simp; omega) (by apply Array.ext'; simp [pieceA, preA, posA])
  rw [ev_ret_then (ev_ret ((ev_meth hx rfl).trans he))]
end Mine
namespace Mine
open PySem PySem.W PySem.Calls PyProof.Rows
open PySem.Builtin.Bytes

theorem cut8_of {b : Array UInt8} {X : Array Nat} (h : b.map (·.toNat) = X) (i j : Nat) : cut8 b i j = (X.extract i j).map (·.toUInt8) := by unfold cut8; rw [h]
theorem open_of {b : Array UInt8} {X : Array Nat} (h : b.map (·.toNat) = X) (hb : b.size ≤ 1000) (h0 : tc X 0 = 34) (b0 : body X 100 1 = some 2) (h3 : tc X 3 = 40) (h4 : tc X 4 = 34) (b4 : body X 100 5 = some (X.size - 1)) (hc : X.extract 3 4 = #[40]) :
    subB qcode b = some (joined #[] [#[], #[40], #[]]) := by
  have := sub_open hb (by rw [h]; exact h0) (by rw [h]; exact b0) (by rw [h, h3]; decide) (by rw [h]; exact h4) (by rw [h]; exact b4)
  rw [this, cut8_of h, hc, show (#[40] : Array Nat).map (·.toUInt8) = #[40] by kernel_rfl]
theorem close_of {b : Array UInt8} {X : Array Nat} (h : b.map (·.toNat) = X) (hb : b.size ≤ 1000) (h0 : tc X 0 = 34) (b0 : body X 100 1 = some 2) (h3 : tc X 3 = 34) (hs : 2 ≤ X.size) (b4 : body X 100 4 = some (X.size - 2)) (hc : X.extract (X.size - 1) X.size = #[41]) :
    subB qcode b = some (joined #[] [#[], #[], #[41]]) := by
  have := sub_close hb (by rw [h]; exact h0) (by rw [h]; exact b0) (by rw [h]; exact h3) (by rw [h]; exact hs) (by rw [h]; exact b4)
  rw [this, cut8_of h, h, hc, show (#[41] : Array Nat).map (·.toUInt8) = #[41] by kernel_rfl]
theorem cnt1 : countD [.byt (joined #[] [#[], #[40], #[]]), .byt ([40] : List UInt8).toArray] = some (.int 1) := by kernel_rfl
theorem cnt2 : countD [.byt (joined #[] [#[], #[40], #[]]), .byt ([41] : List UInt8).toArray] = some (.int 0) := by kernel_rfl
theorem cnt3 : countD [.byt (joined #[] [#[], #[], #[41]]), .byt ([40] : List UInt8).toArray] = some (.int 0) := by kernel_rfl
theorem cnt4 : countD [.byt (joined #[] [#[], #[], #[41]]), .byt ([41] : List UInt8).toArray] = some (.int 1) := by kernel_rfl
theorem paren_of {b r : Array UInt8} {d m n : Int} (hs : subB qcode b = some r) (h1 : countD [.byt r, .byt ([40] : List UInt8).toArray] = some (.int m)) (h2 : countD [.byt r, .byt ([41] : List UInt8).toArray] = some (.int n)) :
    d__paren_depth [.byt b, .int d] = some (.int (d + m - n)) := by
  show fnOf [21, 22] den__paren_depth _ = _
  unfold fnOf
  rw [show bindLs [21, 22] [D.byt b, .int d] [] = some [(21, .v (.byt b)), (22, .v (.int d))] from rfl]
  dsimp only
  unfold den__paren_depth
  have e : eSub (eVar 21) [(21, .v (.byt b)), (22, .v (.int d))] = some (.byt r) := by
    unfold eSub
    rw [ev_var rfl]
    dsimp only
    rw [hs]
  rw [ev_then (ev_asg e), show Sto.put [(21, LV.v (D.byt b)), (22, .v (.int d))] 21 (.v (.byt r)) = [(21, .v (.byt r)), (22, .v (.int d))] from rfl]
  rw [ev_ret_then (ev_ret (ev_bin (ev_lE (ev_bin (x := .v (.int d)) rfl (ev_lE ((ev_meth (ev_var rfl) (ev_cons rfl rfl)).trans h1)) (bin_add _ _))) (ev_lE ((ev_meth (ev_var rfl) (ev_cons rfl rfl)).trans h2)) (bin_sub _ _)))]

noncomputable def opT (c q1 q2 : Nat) : (Nat × Option Nat × Nat × Nat) × (Bool × Nat × Option Nat × Array Nat) :=
  let X := pieceA c q1 q2 true
  ((tc X 0, body X 100 1, tc X 3, tc X 4), (Nat.ble 6 X.size, tc X 5, body X 99 6, X.extract 3 4))
noncomputable def opR (c q1 q2 : Nat) : (Nat × Option Nat × Nat × Nat) × (Bool × Nat × Option Nat × Array Nat) :=
  ((34, some 2, 40, 34), (true, c, some ((pieceA c q1 q2 true).size - 1), #[40]))
noncomputable def clT (c q1 q2 : Nat) : (Nat × Option Nat × Nat) × (Bool × Nat × Option Nat × Array Nat) :=
  let X := pieceA c q1 q2 false
  ((tc X 0, body X 100 1, tc X 3), (Nat.ble 5 X.size, tc X 4, body X 99 5, X.extract (X.size - 1) X.size))
noncomputable def clR (c q1 q2 : Nat) : (Nat × Option Nat × Nat) × (Bool × Nat × Option Nat × Array Nat) :=
  ((34, some 2, 34), (true, c, some ((pieceA c q1 q2 false).size - 2), #[41]))
theorem op_val (c : Nat) : ∀ q1 < 5, ∀ q2 < 5, opT c q1 q2 = opR c q1 q2 := eq25 (f := opT c) (g := opR c) (by kernel_rfl)
theorem cl_val (c : Nat) : ∀ q1 < 5, ∀ q2 < 5, clT c q1 q2 = clR c q1 q2 := eq25 (f := clT c) (g := clR c) (by kernel_rfl)
theorem depth_val {c : Nat} (hc : c < 128) (h34 : c ≠ 34) (h92 : c ≠ 92) (o : Bool) (d : Int) : ∀ q1 < 5, ∀ q2 < 5,
    d__paren_depth [.byt ((pieceA c q1 q2 o).map (·.toUInt8)), .int d] = some (.int (if o then d + 1 else d - 1)) := by
  intro q1 h1 q2 h2
  have hm := u8_id (pieceA_lt hc q1 q2 o)
  have hs := pieceA_sz c q1 q2 o
  have hb : ((pieceA c q1 q2 o).map (·.toUInt8)).size ≤ 1000 := by rw [Array.size_map]; omega
  cases o with
  | true =>
    have e := op_val c q1 h1 q2 h2
    simp only [opT, opR, Prod.mk.injEq] at e
    refine hide fun GG kk => ?_
    obtain ⟨⟨a0, a1, a3, a4⟩, a5, a6, a7, a8⟩ := e
    refine kk ?_
    clear kk GG
    rw [paren_of (open_of hm hb a0 a1 a3 a4 ((body_ord (Nat.le_of_ble_eq_true a5) (by rw [a6]; exact h34) (by rw [a6]; exact h92)).trans a7) a8) cnt1 cnt2, if_pos rfl, Int.sub_zero]
  | false =>
    have e := cl_val c q1 h1 q2 h2
    simp only [clT, clR, Prod.mk.injEq] at e
    refine hide fun GG kk => ?_
    obtain ⟨⟨a0, a1, a3⟩, a5, a6, a7, a8⟩ := e
    refine kk ?_
    clear kk GG
    have a5' := Nat.le_of_ble_eq_true a5
    rw [paren_of (close_of hm hb a0 a1 a3 (by omega) ((body_ord a5' (by rw [a6]; exact h34) (by rw [a6]; exact h92)).trans a7) a8) cnt3 cnt4, if_neg (by decide), Int.add_zero]
end Mine
namespace Mine
open PySem PySem.W PySem.Calls PyProof.Rows

/-! a name in a reply -/
noncomputable def dbl (q : Nat) : Array Nat := match q with
  | 0 => #[40] | 1 => #[41] | 2 => #[34, 34] | 3 => #[92] | _ => #[120]
theorem repl_all : ((List.range 20).all fun k => [true, false].all fun up => (List.range 5).all fun q1 => (List.range 5).all fun q2 => Txt.replace (nmS k up q1 q2) "\"" "\"\"" == (⟨#[ltr k up] ++ dbl q1 ++ dbl q2⟩ : Str)) = true := by kernel_rfl
theorem repl_val {k q1 q2 : Nat} (up : Bool) (hk : k < 20) (h1 : q1 < 5) (h2 : q2 < 5) : Txt.replace (nmS k up q1 q2) "\"" "\"\"" = ⟨#[ltr k up] ++ dbl q1 ++ dbl q2⟩ := by
  have a := List.all_eq_true.mp repl_all k (List.mem_range.mpr hk)
  have b := List.all_eq_true.mp a up (by cases up <;> simp)
  have c := List.all_eq_true.mp b q1 (List.mem_range.mpr h1)
  exact beq_iff_eq.mp (List.all_eq_true.mp c q2 (List.mem_range.mpr h2))
noncomputable def isB (r : Option Bool) (b : Bool) : Bool := match r with
  | some x => x == b
  | none => false
theorem isB_eq {r : Option Bool} {b : Bool} (h : isB r b = true) : r = some b := by
  unfold isB at h
  split at h
  · rw [beq_iff_eq.mp h]
  · cases h
theorem ltr_all : ((List.range 20).all fun k => [true, false].all fun up => isB (cmpD .inn (.str ⟨#[ltr k up]⟩) (.str "\"\\")) false && isB (cmpD .eq (.str ⟨#[ltr k up]⟩) (.str "\"")) false) = true := by kernel_rfl
theorem ltr_val {k : Nat} (up : Bool) (hk : k < 20) : cmpD .inn (.str ⟨#[ltr k up]⟩) (.str "\"\\") = some false ∧ cmpD .eq (.str ⟨#[ltr k up]⟩) (.str "\"") = some false := by
  have a := List.all_eq_true.mp ltr_all k (List.mem_range.mpr hk)
  have b := List.all_eq_true.mp a up (by cases up <;> simp)
  simp only [Bool.and_eq_true] at b
  exact ⟨isB_eq b.1, isB_eq b.2⟩

noncomputable def r257 (c q1 q2 : Nat) : Str := ⟨#[50, 53, 55, 32, 34, c] ++ dbl q1 ++ dbl q2 ++ #[34, 32, 116, 111, 108, 100]⟩
noncomputable def pC : DB := (bCmp .lt (lVar 55) (lVar 56))
noncomputable def pB : DS := (sThen (sAsg (.one 99) (eIdx (lVar 20) (lVar 55)))
  (sThen (sAsg (.one 55) (eBin .add (lVar 55) (lE (eLit (.int 1)))))
  (sThen (sIf (bCmp .eq (lVar 99) (lE (eLit (.str "\"")))) (sThen (sIf (bOr (bCmp .ge (lVar 55) (lVar 56)) (bCmp .ne (lE (eIdx (lVar 20) (lVar 55))) (lE (eLit (.str "\""))))) (sThen sBrk
  sNil) sNil)
  (sThen (sAsg (.one 55) (eBin .add (lVar 55) (lE (eLit (.int 1)))))
  sNil)) sNil)
  (sThen (sAsg (.one 54) (eBin .add (lVar 54) (lVar 99)))
  sNil))))
noncomputable def after (r : Option (Fl × Sto)) : Option LV := match r with
  | some (.next, σ) => σ.get 54
  | _ => none
theorem parse_go {x n : Str} {L : Nat} (h0 : c257 [(20, .v (.str x))] = some false)
    (h1 : bCmp .ne (lE (eCut (lVar 20) none (some (eLit (.int 3))))) (lE (eLit (.str "257"))) [(20, .v (.str x))] = some false)
    (h2 : bCmp .ne (lE (eCut (lVar 20) (some (eLit (.int 3))) (some (eLit (.int 5))))) (lE (eLit (.str " \""))) [(20, .v (.str x))] = some false)
    (h3 : lenD [.str x] = some (.int L))
    (h4 : after (goWhile pC pB 40 [(20, .v (.str x)), (54, .v (.str "")), (55, .v (.int 5)), (56, .v (.int L))]) = some (.v (.str n))) : readF [.str x] = some (.str n) := by
  unfold readF
  rw [show bindLs [20] [D.str x] [] = some [(20, .v (.str x))] from rfl]
  dsimp only
  rw [h0]
  dsimp only
  unfold fnOf
  rw [show bindLs [20] [D.str x] [] = some [(20, .v (.str x))] from rfl]
  dsimp only
  unfold den_parse257
  rw [ev_then ((ev_if_f h1).trans rfl), ev_then ((ev_if_f h2).trans rfl), ev_then (ev_asg rfl), ev_then (ev_asg rfl)]
  rw [ev_then (ev_asg ((ev_app (ev_cons (ev_var rfl) rfl)).trans h3))]
  rw [show Sto.put (Sto.put (Sto.put [(20, LV.v (D.str x))] 54 (.v (.str ""))) 55 (.v (.int 5))) 56 (.v (.int L)) = [(20, .v (.str x)), (54, .v (.str "")), (55, .v (.int 5)), (56, .v (.int L))] from rfl]
  have key : ∀ r : Option (Fl × Sto), after r = some (.v (.str n)) → (match (match r with
    | some (.next, σ') => sThen (sRet (eVar 54)) sNil σ'
    | r => r) with
    | some (.ret d, _) => some d
    | some (.next, _) => some D.none
    | _ => none) = some (.str n) := by
    intro r hr
    match r, hr with
    | some (.next, σ), hr =>
      dsimp only
      rw [ev_ret_then (ev_ret (ev_var hr))]
  exact key _ h4
theorem parse_first {x : Str} {c L : Nat} {n : Str} (hL : 5 < L) (hi : idxD (.str x) (.int 5) = some (.str ⟨#[c]⟩)) (he : cmpD .eq (.str ⟨#[c]⟩) (.str "\"") = some false)
    (h : after (goWhile pC pB 39 [(20, .v (.str x)), (54, .v (.str ⟨#[c]⟩)), (55, .v (.int 6)), (56, .v (.int L)), (99, .v (.str ⟨#[c]⟩))]) = some (.v (.str n))) :
    after (goWhile pC pB 40 [(20, .v (.str x)), (54, .v (.str "")), (55, .v (.int 5)), (56, .v (.int L))]) = some (.v (.str n)) := by
  have hc : pC [(20, .v (.str x)), (54, .v (.str "")), (55, .v (.int 5)), (56, .v (.int L))] = some true := ev_bcmp (x := .v (.int 5)) (y := .v (.int L)) rfl rfl (by show some (decide ((5 : Int) < (L : Int))) = some true; rw [decide_eq_true (by omega)])
  have hB : pB [(20, .v (.str x)), (54, .v (.str "")), (55, .v (.int 5)), (56, .v (.int L))] = some (.next, [(20, .v (.str x)), (54, .v (.str ⟨#[c]⟩)), (55, .v (.int 6)), (56, .v (.int L)), (99, .v (.str ⟨#[c]⟩))]) := by
    unfold pB
    rw [ev_then (ev_asg (ev_idx (x := .v (.str x)) (y := .v (.int 5)) rfl rfl hi))]
    rw [ev_then (show sAsg (.one 55) _ _ = some (.next, [(20, .v (.str x)), (54, .v (.str "")), (55, .v (.int 6)), (56, .v (.int L)), (99, .v (.str ⟨#[c]⟩))]) from rfl)]
    rw [ev_then ((ev_if_f (ev_bcmp (x := .v (.str ⟨#[c]⟩)) (y := .v (.str "\"")) rfl rfl he)).trans rfl)]
    rw [ev_then (ev_asg (ev_bin (x := .v (.str "")) (y := .v (.str ⟨#[c]⟩)) rfl rfl (show binD .add (.str "") (.str ⟨#[c]⟩) = some (.str ⟨#[c]⟩) by kernel_rfl)))]
    rfl
  rw [goWhile, hc]
  dsimp only
  rw [hB]
  exact h
noncomputable def rdT (c q1 q2 : Nat) : (Option Bool × Option Bool × Option Bool) × (Option D × Bool × Option D × Option LV) :=
  let x := r257 c q1 q2
  let L := x.length
  ((c257 [(20, .v (.str x))], bCmp .ne (lE (eCut (lVar 20) none (some (eLit (.int 3))))) (lE (eLit (.str "257"))) [(20, .v (.str x))], bCmp .ne (lE (eCut (lVar 20) (some (eLit (.int 3))) (some (eLit (.int 5))))) (lE (eLit (.str " \""))) [(20, .v (.str x))]),
   (lenD [.str x], Nat.ble 6 L, idxD (.str x) (.int 5), after (goWhile pC pB 39 [(20, .v (.str x)), (54, .v (.str ⟨#[c]⟩)), (55, .v (.int 6)), (56, .v (.int (L : Nat))), (99, .v (.str ⟨#[c]⟩))])))
noncomputable def rdR (c q1 q2 : Nat) : (Option Bool × Option Bool × Option Bool) × (Option D × Bool × Option D × Option LV) :=
  ((some false, some false, some false), (some (.int ((r257 c q1 q2).length : Nat)), true, some (.str ⟨#[c]⟩), some (.v (.str ⟨#[c, sgn q1, sgn q2]⟩))))
theorem rd_val (c : Nat) : ∀ q1 < 5, ∀ q2 < 5, rdT c q1 q2 = rdR c q1 q2 := eq25 (f := rdT c) (g := rdR c) (by kernel_rfl)
theorem read_val {c : Nat} (he : cmpD .eq (.str ⟨#[c]⟩) (.str "\"") = some false) : ∀ q1 < 5, ∀ q2 < 5, readF [.str (r257 c q1 q2)] = some (.str ⟨#[c, sgn q1, sgn q2]⟩) := by
  intro q1 h1 q2 h2
  have e := rd_val c q1 h1 q2 h2
  simp only [rdT, rdR, Prod.mk.injEq] at e
  obtain ⟨⟨a1, a2, a3⟩, a4, a5, a6, a7⟩ := e
  exact parse_go a1 a2 a3 a4 (parse_first (Nat.le_of_ble_eq_true a5) a6 he a7)
theorem refused_val (c a b : Nat) : readF [.str ((("226 \"(" : Str) ++ (⟨#[c, a, b]⟩ : Str)) ++ ("\" done" : Str))] = some (.str "refused") := by
  unfold readF
  rw [show bindLs [20] [D.str ((("226 \"(" : Str) ++ (⟨#[c, a, b]⟩ : Str)) ++ ("\" done" : Str))] [] = some [(20, .v (.str ((("226 \"(" : Str) ++ (⟨#[c, a, b]⟩ : Str)) ++ ("\" done" : Str))))] from rfl]
  dsimp only
  rw [show c257 [(20, .v (.str ((("226 \"(" : Str) ++ (⟨#[c, a, b]⟩ : Str)) ++ ("\" done" : Str))))] = some true by kernel_rfl]
end Mine
namespace Mine
open PySem PySem.W PySem.Calls PyProof.Rows

/-! the events -/
structure PS where
  bg : Nat
  wt : List Nat
  ev : List (Nat × Bool)
noncomputable def evD (ev : List (Nat × Bool)) : List D := ev.map fun e => .tup [.int (e.1 : Nat), .bool e.2]
noncomputable def wtD (wt : List Nat) : List D := wt.map fun n => .int (n : Nat)
noncomputable def openP (P : PS) : PS := ⟨P.bg + 1, P.wt ++ [P.bg], P.ev ++ [(P.bg, true)]⟩
noncomputable def closeP (P : PS) (i : Nat) : PS := ⟨P.bg, P.wt.take i ++ P.wt.drop (i + 1), P.ev ++ [(P.wt.getD i 0, false)]⟩
noncomputable def succs (P : PS) : List PS := (if P.bg < 4 then [openP P] else []) ++ (List.range P.wt.length).map (closeP P)
noncomputable def lv : Nat → PS → List PS
  | 0, P => [P]
  | n + 1, P => (succs P).flatMap (lv n)
structure St (σ : Sto) (b c : Int) (P : PS) : Prop where
  g25 : σ.get 25 = some (.v (.int b))
  g26 : σ.get 26 = some (.v (.int c))
  g57 : σ.get 57 = some (.o (.lst (evD P.ev)))
  g58 : σ.get 58 = some (.v (.lst (wtD P.wt)))
  g59 : σ.get 59 = some (.v (.int (P.bg : Nat)))

theorem gp {σ : Sto} {i j : Nat} {v : LV} {r : Option LV} (h : σ.get j = r) (hn : j ≠ i) : (σ.put i v).get j = r := by rw [Sto.get_put, if_neg hn]; exact h
theorem gs {σ : Sto} {i : Nat} {v : LV} : (σ.put i v).get i = some v := by rw [Sto.get_put, if_pos rfl]
theorem wt_atoms (wt : List Nat) : (wtD wt).all atom = true := by simp [wtD, atom]
theorem eq_nil (wt : List Nat) : cmpD .eq (.lst (wtD wt)) (.lst []) = some (wt.isEmpty) := by
  have e : cmpD .eq (.lst (wtD wt)) (.lst []) = if (okE (.lst (wtD wt)) && okE (.lst [])) = true then some (PyData.eqv (D.lst (wtD wt)).toPy (D.lst []).toPy) else none := rfl
  rw [e, okE_atoms (wt_atoms wt), if_pos (by rfl)]
  cases wt <;> rfl
theorem ne_nil (wt : List Nat) : cmpD .ne (.lst (wtD wt)) (.lst []) = some (!wt.isEmpty) := by
  show (cmpD .eq (.lst (wtD wt)) (.lst [])).map _ = _
  rw [eq_nil]; rfl
theorem lt_int (a b : Int) : cmpD .lt (.int a) (.int b) = some (decide (a < b)) := rfl
theorem ev_asgT {l : List Nat} {f : DE} {σ σ' : Sto} {ds : List D} (h : f σ = some (.tup ds)) (hb : bindLs l ds σ = some σ') : sAsg (.many l) f σ = some (.next, σ') := by
  unfold sAsg; rw [h]; dsimp only [bindP]; rw [hb]
theorem ev_and_f {f g : DB} {σ : Sto} (h : f σ = some false) : bAnd f g σ = some false := by unfold bAnd; rw [h]
theorem ev_and_t {f g : DB} {σ : Sto} (h : f σ = some true) : bAnd f g σ = g σ := by unfold bAnd; rw [h]
theorem ev_or_t {f g : DB} {σ : Sto} (h : f σ = some true) : bOr f g σ = some true := by unfold bOr; rw [h]
theorem ev_lst {g : Sto → Option (List D)} {σ : Sto} {l : List D} (h : g σ = some l) (hl : l.length ≤ 100) : eLst g σ = some (.lst l) := by unfold eLst; rw [h]; dsimp only; rw [if_pos (Nat.le_trans hl (by decide))]
theorem bin_lst {a b : List D} (h : a.length + b.length ≤ 1000) : binD .add (.lst a) (.lst b) = some (.lst (a ++ b)) := if_pos (Nat.le_trans h (by decide))
theorem lenD_lst {l : List D} (h : l.length ≤ 1000) : lenD [.lst l] = some (.int (l.length : Nat)) := by unfold lenD; exact if_pos (Nat.le_trans h (by decide))
theorem cut_to {l : List D} {n : Nat} (h : l.length ≤ 1000) : cutD (.lst l) none (some (n : Int)) = some (.lst (l.take n)) := by
  simp only [cutD, cutL]
  rw [if_pos]
  · simp
  · have : l.length ≤ line := Nat.le_trans h (by decide)
    simp [this]
theorem cut_from {l : List D} {n : Nat} (h : l.length ≤ 1000) (hn : n ≤ l.length) : cutD (.lst l) (some (n : Int)) none = some (.lst (l.drop n)) := by
  simp only [cutD, cutL]
  rw [if_pos]
  · simp
  · have : l.length ≤ line := Nat.le_trans h (by decide)
    simp [this]
    omega
theorem ev_cut_to {f : DL} {g : DE} {σ : Sto} {x : LV} {b : Int} {r : D} (hf : f σ = some x) (hg : g σ = some (.int b)) (h : cutD x.d none (some b) = some r) : eCut f none (some g) σ = some r := by
  unfold eCut; rw [hf]; dsimp only [oInt]; rw [hg]; exact h
theorem ev_cut_from {f : DL} {g : DE} {σ : Sto} {x : LV} {b : Int} {r : D} (hf : f σ = some x) (hg : g σ = some (.int b)) (h : cutD x.d (some b) none = some r) : eCut f (some g) none σ = some r := by
  unfold eCut; rw [hf]; dsimp only [oInt]; rw [hg]; exact h

noncomputable def eC : DB := (bOr (bCmp .lt (lVar 59) (lE (eLit (.int 4)))) (bCmp .ne (lVar 58) (lE (eLst aNil))))
noncomputable def eT : DB := (bAnd (bCmp .lt (lVar 59) (lE (eLit (.int 4)))) (bOr (bCmp .eq (lVar 58) (lE (eLst aNil))) (bCmp .eq (lVar 118) (lE (eLit (.int 1))))))
noncomputable def eOp : DS := (sThen (sApp 57 (eTup (aCons (eVar 59) (aCons (eLit (.bool true)) aNil))))
  (sThen (sAsg (.one 58) (eBin .add (lVar 58) (lE (eLst (aCons (eVar 59) aNil)))))
  (sThen (sAsg (.one 59) (eBin .add (lVar 59) (lE (eLit (.int 1)))))
  sNil)))
noncomputable def eCl : DS := (sThen (sAsg (.many [26, 127]) (eApp divmodD (aCons (eVar 26) (aCons (eApp lenD (aCons (eVar 58) aNil)) aNil))))
  (sThen (sApp 57 (eTup (aCons (eIdx (lVar 58) (lVar 127)) (aCons (eLit (.bool false)) aNil))))
  (sThen (sAsg (.one 58) (eBin .add (lE (eCut (lVar 58) none (some (eVar 127)))) (lE (eCut (lVar 58) (some (eBin .add (lVar 127) (lE (eLit (.int 1))))) none))))
  sNil)))
noncomputable def eB : DS := (sThen (sAsg (.many [25, 118]) (eApp divmodD (aCons (eVar 25) (aCons (eLit (.int 2)) aNil))))
  (sThen (sIf eT eOp eCl) sNil))
theorem den_events_eq : den__law_events = sThen (sNewL 57) (sThen (sAsg (.one 58) (eLst aNil)) (sThen (sAsg (.one 59) (eLit (.int 0))) (sThen (sWhile 9 eC eB) (sThen (sTry (sRet (eVar 57))) sNil)))) := rfl

theorem op_go {σ : Sto} {b c : Int} {P : PS} (S : St σ b c P) (hw : P.wt.length ≤ 100) (he : P.ev.length ≤ 100) : ∃ σ', eOp σ = some (.next, σ') ∧ St σ' b c (openP P) := by
  refine ⟨((σ.put 57 (.o (.lst (evD (P.ev ++ [(P.bg, true)]))))).put 58 (.v (.lst (wtD (P.wt ++ [P.bg]))))).put 59 (.v (.int ((P.bg + 1 : Nat) : Int))), ?_, ?_⟩
  · unfold eOp
    have e1 : sApp 57 (eTup (aCons (eVar 59) (aCons (eLit (.bool true)) aNil))) σ = some (.next, σ.put 57 (.o (.lst (evD (P.ev ++ [(P.bg, true)]))))) := by
      rw [ev_sapp (d := .tup [.int (P.bg : Nat), .bool true]) (l := evD P.ev) (ev_tup (ev_cons (ev_var S.g59) (ev_cons rfl rfl)) (by simp)) S.g57 (by simp [evD]; omega)]
      simp [evD]
    rw [ev_then e1]
    have e2 : eBin .add (lVar 58) (lE (eLst (aCons (eVar 59) aNil))) (σ.put 57 (.o (.lst (evD (P.ev ++ [(P.bg, true)]))))) = some (.lst (wtD (P.wt ++ [P.bg]))) := by
      rw [ev_bin (x := .v (.lst (wtD P.wt))) (r := .lst (wtD P.wt ++ [.int (P.bg : Nat)])) (gp S.g58 (by decide)) (ev_lE (ev_lst (ev_cons (ev_var (gp S.g59 (by decide))) rfl) (by simp))) (bin_lst (by simp [wtD]; omega))]
      simp [wtD]
    rw [ev_then (ev_asg e2)]
    rw [ev_then (ev_asg (ev_bin (x := .v (.int (P.bg : Nat))) (y := .v (.int 1)) (gp (gp S.g59 (by decide)) (by decide)) rfl (bin_add _ _)))]
    rfl
  · exact ⟨gp (gp (gp S.g25 (by decide)) (by decide)) (by decide), gp (gp (gp S.g26 (by decide)) (by decide)) (by decide), gp (gp gs (by decide)) (by decide), gp gs (by decide), gs⟩

theorem cl_go {σ : Sto} {b c : Int} {P : PS} (S : St σ b c P) (hw : P.wt.length ≤ 100) (he : P.ev.length ≤ 100) (hn : P.wt ≠ []) : ∃ σ' c' i, i < P.wt.length ∧ eCl σ = some (.next, σ') ∧ St σ' b c' (closeP P i) := by
  have hpos : 0 < P.wt.length := List.length_pos_iff.mpr hn
  have h1 := Int.fmod_nonneg_of_pos c (show (0 : Int) < (P.wt.length : Int) by omega)
  have h2 := Int.fmod_lt_of_pos c (show (0 : Int) < (P.wt.length : Int) by omega)
  obtain ⟨i, hi⟩ : ∃ i : Nat, c.fmod (P.wt.length : Int) = (i : Int) := ⟨(c.fmod (P.wt.length : Int)).toNat, by omega⟩
  have hil : i < P.wt.length := by omega
  refine ⟨(((σ.put 26 (.v (.int (c.fdiv (P.wt.length : Int))))).put 127 (.v (.int (i : Int)))).put 57 (.o (.lst (evD (P.ev ++ [(P.wt.getD i 0, false)]))))).put 58 (.v (.lst (wtD (P.wt.take i ++ P.wt.drop (i + 1))))), c.fdiv (P.wt.length : Int), i, hil, ?_, ?_⟩
  · unfold eCl
    have hlen : (wtD P.wt).length = P.wt.length := by simp [wtD]
    have e0 : eApp divmodD (aCons (eVar 26) (aCons (eApp lenD (aCons (eVar 58) aNil)) aNil)) σ = some (.tup [.int (c.fdiv (P.wt.length : Int)), .int (i : Int)]) := by
      have elen : eApp lenD (aCons (eVar 58) aNil) σ = some (.int (P.wt.length : Nat)) := by
        rw [ev_app (ev_cons (ev_var S.g58) rfl), lenD_lst (by rw [hlen]; omega), hlen]
      rw [ev_app (l := [.int c, .int (P.wt.length : Nat)]) (ev_cons (ev_var S.g26) (ev_cons elen rfl))]
      simp only [divmodD]
      rw [if_pos (by simp [small, hn]; omega), hi]
    rw [ev_then (ev_asgT e0 rfl)]
    generalize hs1 : (σ.put 26 (.v (.int (c.fdiv (P.wt.length : Int))))).put 127 (.v (.int (i : Int))) = σ1
    have a58 : σ1.get 58 = some (.v (.lst (wtD P.wt))) := by rw [← hs1]; exact gp (gp S.g58 (by decide)) (by decide)
    have a57 : σ1.get 57 = some (.o (.lst (evD P.ev))) := by rw [← hs1]; exact gp (gp S.g57 (by decide)) (by decide)
    have a127 : σ1.get 127 = some (.v (.int (i : Int))) := by rw [← hs1]; exact gs
    have ei : idxD (.lst (wtD P.wt)) (.int (i : Int)) = some (.int ((P.wt.getD i 0 : Nat) : Int)) := idx_lst (by rw [hlen]; omega) (by simp [wtD, hil])
    have e1 : sApp 57 (eTup (aCons (eIdx (lVar 58) (lVar 127)) (aCons (eLit (.bool false)) aNil))) σ1 = some (.next, σ1.put 57 (.o (.lst (evD (P.ev ++ [(P.wt.getD i 0, false)]))))) := by
      rw [ev_sapp (d := .tup [.int ((P.wt.getD i 0 : Nat) : Int), .bool false]) (l := evD P.ev) (ev_tup (l := [.int ((P.wt.getD i 0 : Nat) : Int), .bool false]) (ev_cons (ev_idx (f := lVar 58) (g := lVar 127) (x := .v (.lst (wtD P.wt))) (y := .v (.int (i : Int))) a58 a127 ei) (ev_cons rfl rfl)) (by simp)) a57 (by simp [evD]; omega)]
      simp [evD]
    rw [ev_then e1]
    have b58 : (σ1.put 57 (.o (.lst (evD (P.ev ++ [(P.wt.getD i 0, false)]))))).get 58 = some (.v (.lst (wtD P.wt))) := gp a58 (by decide)
    have b127 : (σ1.put 57 (.o (.lst (evD (P.ev ++ [(P.wt.getD i 0, false)]))))).get 127 = some (.v (.int (i : Int))) := gp a127 (by decide)
    have e2 : eBin .add (lE (eCut (lVar 58) none (some (eVar 127)))) (lE (eCut (lVar 58) (some (eBin .add (lVar 127) (lE (eLit (.int 1))))) none)) (σ1.put 57 (.o (.lst (evD (P.ev ++ [(P.wt.getD i 0, false)]))))) = some (.lst (wtD (P.wt.take i ++ P.wt.drop (i + 1)))) := by
      have c1 : eBin .add (lVar 127) (lE (eLit (.int 1))) (σ1.put 57 (.o (.lst (evD (P.ev ++ [(P.wt.getD i 0, false)]))))) = some (.int ((i + 1 : Nat) : Int)) := ev_bin (x := .v (.int (i : Int))) (y := .v (.int 1)) b127 rfl (bin_add _ _)
      rw [ev_bin (r := .lst ((wtD P.wt).take i ++ (wtD P.wt).drop (i + 1))) (ev_lE (ev_cut_to (f := lVar 58) (x := .v (.lst (wtD P.wt))) b58 (ev_var b127) (cut_to (l := wtD P.wt) (n := i) (by rw [hlen]; omega)))) (ev_lE (ev_cut_from (f := lVar 58) (x := .v (.lst (wtD P.wt))) b58 c1 (cut_from (l := wtD P.wt) (n := i + 1) (by rw [hlen]; omega) (by rw [hlen]; omega)))) (bin_lst (by simp [wtD]; omega))]
      simp [wtD, List.map_take, List.map_drop]
    rw [ev_then (ev_asg e2), ← hs1]
    rfl
  · exact ⟨gp (gp (gp (gp S.g25 (by decide)) (by decide)) (by decide)) (by decide), gp (gp (gp gs (by decide)) (by decide)) (by decide), gp gs (by decide), gs, gp (gp (gp (gp S.g59 (by decide)) (by decide)) (by decide)) (by decide)⟩

theorem turn_go {σ : Sto} {b c : Int} {P : PS} (S : St σ b c P) (hw : P.wt.length ≤ 100) (he : P.ev.length ≤ 100) (hn : P.bg < 4 ∨ P.wt ≠ []) : ∃ σ' b' c' P', eB σ = some (.next, σ') ∧ St σ' b' c' P' ∧ P' ∈ succs P := by
  unfold eB
  have e0 : eApp divmodD (aCons (eVar 25) (aCons (eLit (.int 2)) aNil)) σ = some (.tup [.int (b.fdiv 2), .int (b.fmod 2)]) := by
    rw [ev_app (l := [.int b, .int 2]) (ev_cons (ev_var S.g25) (ev_cons rfl rfl))]
    simp only [divmodD]
    rw [if_pos (by rfl)]
  rw [ev_then (ev_asgT e0 rfl)]
  generalize hs1 : (σ.put 25 (.v (.int (b.fdiv 2)))).put 118 (.v (.int (b.fmod 2))) = σ1
  have S1 : St σ1 (b.fdiv 2) c P := by
    rw [← hs1]
    exact ⟨gp gs (by decide), gp (gp S.g26 (by decide)) (by decide), gp (gp S.g57 (by decide)) (by decide), gp (gp S.g58 (by decide)) (by decide), gp (gp S.g59 (by decide)) (by decide)⟩
  have a118 : σ1.get 118 = some (.v (.int (b.fmod 2))) := by rw [← hs1]; exact gs
  have t1 : bCmp .lt (lVar 59) (lE (eLit (.int 4))) σ1 = some (decide ((P.bg : Int) < 4)) := ev_bcmp (x := .v (.int (P.bg : Nat))) (y := .v (.int 4)) S1.g59 rfl (lt_int _ _)
  have t2 : bCmp .eq (lVar 58) (lE (eLst aNil)) σ1 = some P.wt.isEmpty := ev_bcmp (x := .v (.lst (wtD P.wt))) (y := .v (.lst [])) S1.g58 rfl (eq_nil _)
  have t3 : bCmp .eq (lVar 118) (lE (eLit (.int 1))) σ1 = some (decide (b.fmod 2 = 1)) := ev_bcmp (x := .v (.int (b.fmod 2))) (y := .v (.int 1)) a118 rfl (eq_int _ _)
  have fin_op : P.bg < 4 → eT σ1 = some true → ∃ σ' b' c' P', sThen (sIf eT eOp eCl) sNil σ1 = some (.next, σ') ∧ St σ' b' c' P' ∧ P' ∈ succs P := by
    intro h ht
    obtain ⟨σ', e, S'⟩ := op_go S1 hw he
    exact ⟨σ', _, _, _, by rw [ev_then ((ev_if_t ht).trans e)]; rfl, S', by unfold succs; rw [if_pos h]; simp⟩
  have fin_cl : P.wt ≠ [] → eT σ1 = some false → ∃ σ' b' c' P', sThen (sIf eT eOp eCl) sNil σ1 = some (.next, σ') ∧ St σ' b' c' P' ∧ P' ∈ succs P := by
    intro h ht
    obtain ⟨σ', c', i, hi, e, S'⟩ := cl_go S1 hw he h
    exact ⟨σ', _, _, _, by rw [ev_then ((ev_if_f ht).trans e)]; rfl, S', by
      unfold succs
      exact List.mem_append_right _ (List.mem_map.mpr ⟨i, List.mem_range.mpr hi, rfl⟩)⟩
  by_cases h4 : P.bg < 4
  · have t1' : bCmp .lt (lVar 59) (lE (eLit (.int 4))) σ1 = some true := t1.trans (by rw [decide_eq_true (by omega)])
    by_cases hE : P.wt = []
    · exact fin_op h4 ((ev_and_t t1').trans (ev_or_t (t2.trans (by rw [hE]; rfl))))
    · have t2' : bCmp .eq (lVar 58) (lE (eLst aNil)) σ1 = some false := t2.trans (by cases hq : P.wt with | nil => exact absurd hq hE | cons => rfl)
      have tt : eT σ1 = some (decide (b.fmod 2 = 1)) := (ev_and_t t1').trans ((ev_or_f t2').trans t3)
      by_cases hb : b.fmod 2 = 1
      · exact fin_op h4 (tt.trans (by rw [decide_eq_true hb]))
      · exact fin_cl hE (tt.trans (by rw [decide_eq_false hb]))
  · have hE : P.wt ≠ [] := hn.resolve_left h4
    exact fin_cl hE (ev_and_f (t1.trans (by rw [decide_eq_false (by omega)])))

noncomputable def rem (P : PS) : Nat := 2 * (4 - P.bg) + P.wt.length
theorem succ_rem {P P' : PS} (h : P' ∈ succs P) (hb : P.bg ≤ 4) : rem P' + 1 = rem P ∧ P'.bg ≤ 4 ∧ P'.wt.length ≤ P.wt.length + 1 ∧ P'.ev.length = P.ev.length + 1 := by
  unfold succs at h
  rcases List.mem_append.mp h with h | h
  · split at h
    · rename_i h4
      simp only [List.mem_singleton] at h
      subst h
      simp [rem, openP]
      omega
    · cases h
  · obtain ⟨i, hi, rfl⟩ := List.mem_map.mp h
    have hi := List.mem_range.mp hi
    simp [rem, closeP]
    omega
theorem loop_go : ∀ (n : Nat) (P : PS) (σ : Sto) (b c : Int), rem P = n → P.bg ≤ 4 → P.wt.length + n ≤ 100 → P.ev.length + n ≤ 100 → St σ b c P → ∃ σ' b' c' P', goWhile eC eB (n + 1) σ = some (.next, σ') ∧ St σ' b' c' P' ∧ P' ∈ lv n P
  | 0, P, σ, b, c, hr, hb, _, _, S => by
    have h1 : P.bg = 4 := by unfold rem at hr; omega
    have h2 : P.wt = [] := List.length_eq_zero_iff.mp (by unfold rem at hr; omega)
    have hc : eC σ = some false := (ev_or_f (ev_bcmp (x := .v (.int (P.bg : Nat))) (y := .v (.int 4)) S.g59 rfl ((lt_int _ _).trans (by rw [decide_eq_false (by omega)])))).trans (ev_bcmp (x := .v (.lst (wtD P.wt))) (y := .v (.lst [])) S.g58 rfl ((ne_nil _).trans (by rw [h2]; rfl)))
    exact ⟨σ, b, c, P, by rw [goWhile, hc], S, .head _⟩
  | n + 1, P, σ, b, c, hr, hb, hw, he, S => by
    have hn : P.bg < 4 ∨ P.wt ≠ [] := by
      by_cases h4 : P.bg < 4
      · exact .inl h4
      · refine .inr fun q => ?_
        unfold rem at hr
        rw [q] at hr
        simp at hr
        omega
    have hc : eC σ = some true := by
      by_cases h4 : P.bg < 4
      · exact ev_or_t (ev_bcmp (x := .v (.int (P.bg : Nat))) (y := .v (.int 4)) S.g59 rfl ((lt_int _ _).trans (by rw [decide_eq_true (by omega)])))
      · refine (ev_or_f (ev_bcmp (x := .v (.int (P.bg : Nat))) (y := .v (.int 4)) S.g59 rfl ((lt_int _ _).trans (by rw [decide_eq_false (by omega)])))).trans (ev_bcmp (x := .v (.lst (wtD P.wt))) (y := .v (.lst [])) S.g58 rfl ((ne_nil _).trans ?_))
        cases hq : P.wt with
        | nil => exact absurd hq (hn.resolve_left h4)
        | cons => rfl
    refine hide fun GG kk => ?_
    obtain ⟨σ1, b1, c1, P1, e1, S1, m1⟩ := turn_go S (by omega) (by omega) hn
    obtain ⟨r1, r2, r3, r4⟩ := succ_rem m1 hb
    obtain ⟨σ', b', c', P', e2, S2, m2⟩ := loop_go n P1 σ1 b1 c1 (by omega) r2 (by omega) (by omega) S1
    refine kk ?_
    clear kk GG
    exact ⟨σ', b', c', P', by rw [goWhile, hc]; dsimp only; rw [e1]; exact e2, S2, List.mem_flatMap.mpr ⟨P1, m1, m2⟩⟩
noncomputable def P0 : PS := ⟨0, [], []⟩
theorem events_val (b c : Int) : ∃ P ∈ lv 8 P0, d__law_events [.int b, .int c] = some (.lst (evD P.ev)) := by
  have S0 : St [(25, .v (.int b)), (26, .v (.int c)), (57, .o (.lst [])), (58, .v (.lst [])), (59, .v (.int 0))] b c P0 := ⟨rfl, rfl, rfl, rfl, rfl⟩
  refine hide fun GG kk => ?_
  obtain ⟨σ', b', c', P, e, S, m⟩ := loop_go 8 P0 _ b c rfl (by decide) (by decide) (by decide) S0
  refine kk ?_
  clear kk GG
  refine ⟨P, m, ?_⟩
  show fnOf [25, 26] den__law_events _ = _
  unfold fnOf
  rw [show bindLs [25, 26] [D.int b, .int c] [] = some [(25, .v (.int b)), (26, .v (.int c))] from rfl]
  dsimp only
  rw [den_events_eq, ev_then rfl, ev_then rfl, ev_then rfl]
  rw [show (((Sto.put [(25, LV.v (D.int b)), (26, .v (.int c))] 57 (.o (.lst []))).put 58 (.v (.lst []))).put 59 (.v (.int 0))) = [(25, .v (.int b)), (26, .v (.int c)), (57, .o (.lst [])), (58, .v (.lst [])), (59, .v (.int 0))] from rfl]
  rw [ev_then (show sWhile 9 eC eB _ = some (.next, σ') from e)]
  have er : sTry (sRet (eVar 57)) σ' = some (.ret (.lst (evD P.ev)), σ'.frz) := by
    have e1 : sRet (eVar 57) σ' = none := by unfold sRet eVar; rw [S.g57]
    unfold sTry
    rw [e1]
    dsimp only
    exact ev_ret (ev_var (by rw [Sto.get_frz, S.g57]; rfl))
  rw [ev_ret_then er]
end Mine
namespace Mine
open PySem PySem.W PySem.Calls PyProof.Rows

/-! the talk -/
noncomputable def NmOk (n : Str) : Prop := ∃ k up q1 q2, k < 20 ∧ q1 < 5 ∧ q2 < 5 ∧ n = nmS k up q1 q2
noncomputable def TOK (t : D) : Prop := ∃ x y, t = .tup [.str x, .str y] ∧ readF [.str x] = some (.str y) ∧ PyData.strOk y = true
noncomputable def stT (c q1 q2 : Nat) : Option D × Option D := (binD .add (.str "257 \"") (.str ⟨#[c] ++ dbl q1 ++ dbl q2⟩), binD .add (.str ⟨#[50, 53, 55, 32, 34, c] ++ dbl q1 ++ dbl q2⟩) (.str "\" told"))
noncomputable def stR (c q1 q2 : Nat) : Option D × Option D := (some (.str ⟨#[50, 53, 55, 32, 34, c] ++ dbl q1 ++ dbl q2⟩), some (.str (r257 c q1 q2)))
theorem st_val (c : Nat) : ∀ q1 < 5, ∀ q2 < 5, stT c q1 q2 = stR c q1 q2 := eq25 (f := stT c) (g := stR c) (by kernel_rfl)
theorem str257 (c : Nat) (q1 : Nat) (h1 : q1 < 5) (q2 : Nat) (h2 : q2 < 5) : binD .add (.str "257 \"") (.str ⟨#[c] ++ dbl q1 ++ dbl q2⟩) = some (.str ⟨#[50, 53, 55, 32, 34, c] ++ dbl q1 ++ dbl q2⟩) ∧ binD .add (.str ⟨#[50, 53, 55, 32, 34, c] ++ dbl q1 ++ dbl q2⟩) (.str "\" told") = some (.str (r257 c q1 q2)) := by
  have e := st_val c q1 h1 q2 h2
  simp only [stT, stR, Prod.mk.injEq] at e
  exact e
theorem nmS_ok {k q1 q2 : Nat} (up : Bool) (hk : k < 20) : PyData.strOk (nmS k up q1 q2) = true := by
  have h1 : ltr k up < 1114112 := by unfold ltr; split <;> omega
  have h2 : ∀ q, sgn q < 1114112 := fun q => by unfold sgn; split <;> omega
  unfold PyData.strOk nmS
  simp [h1, h2]
theorem NmOk.str {n : Str} (h : NmOk n) : PyData.strOk n = true := by
  obtain ⟨k, up, q1, q2, hk, _, _, rfl⟩ := h
  exact nmS_ok up hk
noncomputable def tkB0 : DS := (sApp 62 (eTup (aCons (eBin .add (lE (eBin .add (lE (eLit (.str "257 \""))) (lE (eRepl "\"" "\"\"" (eIdx (lVar 30) (lVar 63)))))) (lE (eLit (.str "\" told")))) (aCons (eIdx (lVar 30) (lVar 63)) aNil))))
noncomputable def tkC : DB := (bCmp .eq (lE (eBin .mod (lE (eBin .fdiv (lVar 31) (lE (eBin .pow (lE (eLit (.int 2))) (lVar 63))))) (lE (eLit (.int 2))))) (lE (eLit (.int 1))))
noncomputable def tkB1 : DS := (sApp 62 (eTup (aCons (eBin .add (lE (eBin .add (lE (eLit (.str "226 \"("))) (lE (eIdx (lVar 30) (lVar 63))))) (lE (eLit (.str "\" done")))) (aCons (eLit (.str "refused")) aNil))))
theorem den_talk_eq : den__law_talk = sThen (sNewL 62) (sThen (sFor (.one 63) (iRng1 (eLit (.int 8))) (sThen tkB0 (sThen (sIf tkC (sThen tkB1 sNil) sNil) sNil))) (sThen (sTry (sRet (eVar 62))) sNil)) := rfl
structure TS (N : List D) (z : Int) (k : Nat) (σ : Sto) : Prop where
  g30 : σ.get 30 = some (.v (.lst N))
  g31 : σ.get 31 = some (.v (.int z))
  g62 : ∃ tk, σ.get 62 = some (.o (.lst tk)) ∧ tk.length ≤ 2 * k ∧ ∀ t ∈ tk, TOK t
theorem rng8 {j : Nat} {d : D} (h : (rngD 0 8)[j]? = some d) : j < 8 ∧ d = .int (j : Nat) := by
  unfold rngD at h
  rw [List.getElem?_map] at h
  obtain ⟨i, hi, rfl⟩ := Option.map_eq_some_iff.mp h
  rw [List.getElem?_eq_some_iff] at hi
  obtain ⟨hl, he⟩ := hi
  simp at hl he
  subst he
  exact ⟨hl, by simp⟩
theorem pow8 : ∀ k < 8, ∃ p : Int, binD .pow (.int 2) (.int (k : Nat)) = some (.int p) ∧ (p != 0 && small p) = true := by
  intro k hk
  match k, hk with
  | 0, _ => exact ⟨1, by kernel_rfl, by rfl⟩
  | 1, _ => exact ⟨2, by kernel_rfl, by rfl⟩
  | 2, _ => exact ⟨4, by kernel_rfl, by rfl⟩
  | 3, _ => exact ⟨8, by kernel_rfl, by rfl⟩
  | 4, _ => exact ⟨16, by kernel_rfl, by rfl⟩
  | 5, _ => exact ⟨32, by kernel_rfl, by rfl⟩
  | 6, _ => exact ⟨64, by kernel_rfl, by rfl⟩
  | 7, _ => exact ⟨128, by kernel_rfl, by rfl⟩
theorem done_len (a b c : Nat) : binD .add (.str "226 \"(") (.str ⟨#[a, b, c]⟩) = some (.str (("226 \"(" : Str) ++ (⟨#[a, b, c]⟩ : Str))) ∧ binD .add (.str (("226 \"(" : Str) ++ (⟨#[a, b, c]⟩ : Str))) (.str "\" done") = some (.str ((("226 \"(" : Str) ++ (⟨#[a, b, c]⟩ : Str)) ++ ("\" done" : Str))) := ⟨by kernel_rfl, by kernel_rfl⟩
theorem talk_val {N : List D} (z : Int) (hl : N.length = 8) (hN : ∀ k < 8, ∃ n, N[k]? = some (.str n) ∧ NmOk n) : ∃ tk, d__law_talk [.lst N, .int z] = some (.lst tk) ∧ tk.length ≤ 16 ∧ ∀ t ∈ tk, TOK t := by
  have I0 : TS N z 0 [(30, .v (.lst N)), (31, .v (.int z)), (62, .o (.lst []))] := ⟨rfl, rfl, [], rfl, by simp, fun _ h => (nomatch h)⟩
  obtain ⟨σ', e, I8⟩ := goFor_inv (p := .one 63) (f := sThen tkB0 (sThen (sIf tkC (sThen tkB1 sNil) sNil) sNil)) (TS N z) (rngD 0 8) 0 _ I0 (fun j d σ hd hI => by
    obtain ⟨hj, rfl⟩ := rng8 hd
    rw [Nat.zero_add] at hI ⊢
    obtain ⟨g30, g31, tk, g62, hlen, htk⟩ := hI
    obtain ⟨n, hn, k, up, q1, q2, hk, h1, h2, rfl⟩ := hN j hj
    refine ⟨σ.put 63 (.v (.int (j : Nat))), ?_⟩
    generalize hs : σ.put 63 (.v (.int (j : Nat))) = σ1
    have b30 : σ1.get 30 = some (.v (.lst N)) := by rw [← hs]; exact gp g30 (by decide)
    have b31 : σ1.get 31 = some (.v (.int z)) := by rw [← hs]; exact gp g31 (by decide)
    have b62 : σ1.get 62 = some (.o (.lst tk)) := by rw [← hs]; exact gp g62 (by decide)
    have b63 : σ1.get 63 = some (.v (.int (j : Nat))) := by rw [← hs]; exact gs
    have en : ∀ {σ : Sto}, σ.get 30 = some (.v (.lst N)) → σ.get 63 = some (.v (.int (j : Nat))) → eIdx (lVar 30) (lVar 63) σ = some (.str (nmS k up q1 q2)) := fun a b => ev_idx (f := lVar 30) (g := lVar 63) (x := .v (.lst N)) (y := .v (.int (j : Nat))) a b (idx_lst (by omega) hn)
    have er : eRepl "\"" "\"\"" (eIdx (lVar 30) (lVar 63)) σ1 = some (.str ⟨#[ltr k up] ++ dbl q1 ++ dbl q2⟩) := by
      unfold eRepl
      rw [en b30 b63]
      dsimp only
      rw [if_pos ⟨Nat.le_of_ble_eq_true rfl, by kernel_rfl, Nat.le_of_ble_eq_true (by kernel_rfl)⟩, repl_val up hk h1 h2]
    obtain ⟨s1, s2⟩ := str257 (ltr k up) q1 h1 q2 h2
    obtain ⟨hin, heq⟩ := ltr_val up hk
    have t1 : TOK (.tup [.str (r257 (ltr k up) q1 q2), .str (nmS k up q1 q2)]) := ⟨_, _, rfl, read_val heq q1 h1 q2 h2, nmS_ok up hk⟩
    have e1 : tkB0 σ1 = some (.next, σ1.put 62 (.o (.lst (tk ++ [.tup [.str (r257 (ltr k up) q1 q2), .str (nmS k up q1 q2)]])))) := ev_sapp (ev_tup (ev_cons (ev_bin (ev_lE (ev_bin (x := .v (.str "257 \"")) rfl (ev_lE er) s1)) (ev_lE rfl) s2) (ev_cons (en b30 b63) rfl)) (by simp)) b62 (by omega)
    generalize hs2 : σ1.put 62 (.o (.lst (tk ++ [.tup [.str (r257 (ltr k up) q1 q2), .str (nmS k up q1 q2)]]))) = σ2 at e1
    have c30 : σ2.get 30 = some (.v (.lst N)) := by rw [← hs2]; exact gp b30 (by decide)
    have c31 : σ2.get 31 = some (.v (.int z)) := by rw [← hs2]; exact gp b31 (by decide)
    have c62 : σ2.get 62 = some (.o (.lst (tk ++ [.tup [.str (r257 (ltr k up) q1 q2), .str (nmS k up q1 q2)]]))) := by rw [← hs2]; exact gs
    have c63 : σ2.get 63 = some (.v (.int (j : Nat))) := by rw [← hs2]; exact gp b63 (by decide)
    obtain ⟨p, hp1, hp2⟩ := pow8 j hj
    obtain ⟨q, hq⟩ : ∃ q, tkC σ2 = some q := ⟨_, ev_bcmp (y := .v (.int 1)) (ev_lE (ev_bin (y := .v (.int 2)) (ev_lE (ev_bin (f := lVar 31) (x := .v (.int z)) c31 (ev_lE (ev_bin (x := .v (.int 2)) (y := .v (.int (j : Nat))) rfl c63 hp1)) (bin_fdiv hp2))) rfl (bin_mod rfl))) rfl (eq_int _ _)⟩
    have m1 : ∀ t ∈ tk ++ [.tup [.str (r257 (ltr k up) q1 q2), .str (nmS k up q1 q2)]], TOK t := fun t ht => by
      rcases List.mem_append.mp ht with h | h
      · exact htk t h
      · simp only [List.mem_singleton] at h; subst h; exact t1
    cases q with
    | false =>
      refine ⟨σ2, by rw [← hs]; rfl, ?_, c30, c31, _, c62, by simp; omega, m1⟩
      rw [ev_then e1, ev_then ((ev_if_f hq).trans rfl)]; rfl
    | true =>
      have t2 : TOK (.tup [.str ((("226 \"(" : Str) ++ (nmS k up q1 q2 : Str)) ++ ("\" done" : Str)), .str "refused"]) := ⟨_, _, rfl, refused_val _ _ _, by kernel_rfl⟩
      obtain ⟨w1, w2⟩ := done_len (ltr k up) (sgn q1) (sgn q2)
      have e2 : tkB1 σ2 = some (.next, σ2.put 62 (.o (.lst ((tk ++ [.tup [.str (r257 (ltr k up) q1 q2), .str (nmS k up q1 q2)]]) ++ [.tup [.str ((("226 \"(" : Str) ++ (nmS k up q1 q2 : Str)) ++ ("\" done" : Str)), .str "refused"]])))) :=
        ev_sapp (ev_tup (ev_cons (ev_bin (ev_lE (ev_bin (x := .v (.str "226 \"(")) rfl (ev_lE (en c30 c63)) w1)) (ev_lE rfl) w2) (ev_cons rfl rfl)) (by simp)) c62 (by simp; omega)
      refine ⟨_, by rw [← hs]; rfl, ?_, gp c30 (by decide), gp c31 (by decide), ((tk ++ [.tup [.str (r257 (ltr k up) q1 q2), .str (nmS k up q1 q2)]]) ++ [.tup [.str ((("226 \"(" : Str) ++ (nmS k up q1 q2 : Str)) ++ ("\" done" : Str)), .str "refused"]]), gs, by simp; omega, fun t ht => ?_⟩
      · rw [ev_then e1, ev_then ((ev_if_t hq).trans (ev_then e2))]; rfl
      · rcases List.mem_append.mp ht with h | h
        · exact m1 t h
        · simp only [List.mem_singleton] at h; subst h; exact t2)
  obtain ⟨h30, h31, tk, h62, hlen, htk⟩ := I8
  refine ⟨tk, ?_, by have h8 : (rngD 0 8).length = 8 := rfl; omega, htk⟩
  show fnOf [30, 31] den__law_talk _ = _
  unfold fnOf
  rw [show bindLs [30, 31] [D.lst N, .int z] [] = some [(30, .v (.lst N)), (31, .v (.int z))] from rfl]
  dsimp only
  rw [den_talk_eq, ev_then rfl]
  rw [show (Sto.put [(30, LV.v (D.lst N)), (31, .v (.int z))] 62 (.o (.lst []))) = [(30, .v (.lst N)), (31, .v (.int z)), (62, .o (.lst []))] from rfl]
  rw [ev_then ((ev_for (ds := rngD 0 8) rfl).trans e)]
  have er : sTry (sRet (eVar 62)) σ' = some (.ret (.lst tk), σ'.frz) := by
    have e1 : sRet (eVar 62) σ' = none := by unfold sRet eVar; rw [h62]
    unfold sTry
    rw [e1]
    dsimp only
    exact ev_ret (ev_var (by rw [Sto.get_frz, h62]; rfl))
  rw [ev_ret_then er]
end Mine
namespace Mine
open PySem PySem.W PySem.Calls PyProof.Rows

/-! the cost of two letters -/
theorem leq_all : ((List.range 20).all fun k => [true, false].all fun up => (List.range 20).all fun k' => [true, false].all fun up' => isB (cmpD .eq (.str ⟨#[ltr k up]⟩) (.str ⟨#[ltr k' up']⟩)) (k == k' && up == up')) = true := by kernel_rfl
theorem leq_val {k k' : Nat} (up up' : Bool) (hk : k < 20) (hk' : k' < 20) : cmpD .eq (.str ⟨#[ltr k up]⟩) (.str ⟨#[ltr k' up']⟩) = some (k == k' && up == up') := by
  have a := List.all_eq_true.mp leq_all k (List.mem_range.mpr hk)
  have b := List.all_eq_true.mp a up (by cases up <;> simp)
  have c := List.all_eq_true.mp b k' (List.mem_range.mpr hk')
  exact isB_eq (List.all_eq_true.mp c up' (by cases up' <;> simp))
theorem cost_val {k k' : Nat} {up up' : Bool} (hk : k < 20) (hk' : k' < 20) (hu : k = k' → up ≠ up') : d__substitution_cost [.str ⟨#[ltr k up]⟩, .str ⟨#[ltr k' up']⟩] = some (.int (if k = k' then 1 else 2)) := by
  show fnOf [23, 24] den__substitution_cost _ = _
  unfold fnOf
  rw [show bindLs [23, 24] [D.str ⟨#[ltr k up]⟩, .str ⟨#[ltr k' up']⟩] [] = some [(23, .v (.str ⟨#[ltr k up]⟩)), (24, .v (.str ⟨#[ltr k' up']⟩))] from rfl]
  dsimp only
  unfold den__substitution_cost
  have h1 : bCmp .eq (lVar 23) (lVar 24) [(23, .v (.str ⟨#[ltr k up]⟩)), (24, .v (.str ⟨#[ltr k' up']⟩))] = some false := by
    refine ev_bcmp (x := .v (.str ⟨#[ltr k up]⟩)) (y := .v (.str ⟨#[ltr k' up']⟩)) rfl rfl ((leq_val up up' hk hk').trans ?_)
    by_cases e : k = k'
    · simp [hu e]
    · simp [e]
  rw [ev_then ((ev_if_f h1).trans rfl)]
  have h2 : bCmp .eq (lE (eMeth lowerD (eVar 23) aNil)) (lE (eMeth lowerD (eVar 24) aNil)) [(23, .v (.str ⟨#[ltr k up]⟩)), (24, .v (.str ⟨#[ltr k' up']⟩))] = some (k == k') := by
    refine ev_bcmp (x := .v (.str ⟨#[97 + k]⟩)) (y := .v (.str ⟨#[97 + k']⟩)) (ev_lE ((ev_meth (ev_var rfl) rfl).trans (lower_l hk up))) (ev_lE ((ev_meth (ev_var rfl) rfl).trans (lower_l hk' up'))) ?_
    exact (leq_val false false hk hk').trans (by simp)
  by_cases e : k = k'
  · rw [ev_ret_then ((ev_if_t (h2.trans (by simp [e]))).trans (ev_ret_then (ev_ret rfl))), if_pos e]
  · rw [ev_then ((ev_if_f (h2.trans (by simp [e]))).trans rfl), ev_ret_then (ev_ret rfl), if_neg e]

/-! the depths -/
noncomputable def dptL : List Bool → Int → Int
  | [], d => d
  | o :: r, d => dptL r (if o then d + 1 else d - 1)
noncomputable def hgtL : List Bool → Int → List Int
  | [], _ => []
  | o :: r, d => (if o then [] else [d]) ++ hgtL r (if o then d + 1 else d - 1)
theorem dptL_snoc : ∀ (xs : List Bool) (o : Bool) (d : Int), dptL (xs ++ [o]) d = if o then dptL xs d + 1 else dptL xs d - 1
  | [], o, d => rfl
  | x :: xs, o, d => dptL_snoc xs o _
theorem hgtL_snoc : ∀ (xs : List Bool) (o : Bool) (d : Int), hgtL (xs ++ [o]) d = hgtL xs d ++ (if o then [] else [dptL xs d])
  | [], o, d => by simp [hgtL, dptL]
  | x :: xs, o, d => by
    simp only [List.cons_append, hgtL, dptL]
    rw [hgtL_snoc xs o _, List.append_assoc]

noncomputable def PSt (x40 x72 x73 x57 x30 x62 : D) (dep : Int) (sg hs : List D) (T : Sto) : Sto :=
  [(40, .v x40), (72, .v x72), (73, .v x73), (57, .v x57), (30, .v x30), (62, .v x62), (22, .v (.int dep)), (35, .o (.lst sg)), (34, .o (.lst hs))] ++ T
section
variable {x40 x72 x73 x62 : D}
theorem par_body {E N sg hs : List D} {dep : Int} {j s : Nat} {o : Bool} {n : Str} {b : Array UInt8} {T : Sto} (hN : N[j]? = some (.str n)) (hE : E[j]? = some (.tup [.int (s : Nat), .bool o])) (lN : N.length ≤ 1000) (lE' : E.length ≤ 1000) (lsg : sg.length ≤ 900) (lhs : hs.length ≤ 900)
    (hp : d__law_piece [.str n, .bool o] = some (.byt b)) (hd : d__paren_depth [.byt b, .int dep] = some (.int (if o then dep + 1 else dep - 1)))
    (hT : T = [(63, .v (.int (j : Nat)))] ∨ ∃ c, T = [(63, .v (.int (j : Nat))), (106, .v c)]) :
    ∃ a b, lw9B (PSt x40 x72 x73 (.lst E) (.lst N) x62 dep sg hs T) = some (.next, PSt x40 x72 x73 (.lst E) (.lst N) x62 (if o then dep + 1 else dep - 1) (sg ++ [.bool o]) (hs ++ if o then [] else [.int dep]) [(63, .v a), (106, .v b)]) := by
  refine ⟨.int (j : Nat), .int (if o then dep + 1 else dep - 1), ?_⟩
  have key : ∀ σ : Sto, σ.get 30 = some (.v (.lst N)) → σ.get 57 = some (.v (.lst E)) → σ.get 63 = some (.v (.int (j : Nat))) → σ.get 22 = some (.v (.int dep)) → σ.get 35 = some (.o (.lst sg)) → σ.get 34 = some (.o (.lst hs)) →
      lw9B σ = some (.next, (if o then ((σ.put 106 (.v (.int (if o then dep + 1 else dep - 1)))).put 35 (.o (.lst (sg ++ [.bool o])))) else (((σ.put 106 (.v (.int (if o then dep + 1 else dep - 1)))).put 35 (.o (.lst (sg ++ [.bool o])))).put 34 (.o (.lst (hs ++ [.int dep]))))).put 22 (.v (.int (if o then dep + 1 else dep - 1)))) := by
    intro σ g30 g57 g63 g22 g35 g34
    unfold lw9B
    have en : eIdx (lVar 30) (lVar 63) σ = some (.str n) := ev_idx (f := lVar 30) (g := lVar 63) (x := .v (.lst N)) (y := .v (.int (j : Nat))) g30 g63 (idx_lst lN hN)
    have eo : eIdx (lE (eIdx (lVar 57) (lVar 63))) (lE (eLit (.int 1))) σ = some (.bool o) := ev_idx (x := .v (.tup [.int (s : Nat), .bool o])) (y := .v (.int ((1 : Nat) : Int))) (ev_lE (ev_idx (f := lVar 57) (g := lVar 63) (x := .v (.lst E)) (y := .v (.int (j : Nat))) g57 g63 (idx_lst lE' hE))) rfl (idx_tup (by simp) rfl)
    rw [ev_then (show lw9b0 σ = _ from ev_asg ((ev_app (ev_cons ((ev_app (ev_cons en (ev_cons eo rfl))).trans hp) (ev_cons (ev_var g22) rfl))).trans hd))]
    generalize hr : (if o = true then dep + 1 else dep - 1) = r
    have h2 : lw9b1 (σ.put 106 (.v (.int r))) = some (.next, (σ.put 106 (.v (.int r))).put 35 (.o (.lst (sg ++ [.bool o])))) := by
      refine ev_sapp (ev_cmp (f := lVar 106) (x := .v (.int r)) (y := .v (.int (dep + 1))) gs (ev_lE (ev_bin (f := lVar 22) (x := .v (.int dep)) (y := .v (.int 1)) (gp g22 (by decide)) rfl (bin_add _ _))) ((eq_int _ _).trans ?_)) (gp g35 (by decide)) (by omega)
      cases o
      · rw [decide_eq_false (by simp at hr; omega)]
      · rw [decide_eq_true (by simp at hr; omega)]
    rw [ev_then h2]
    generalize hs1 : (σ.put 106 (.v (.int r))).put 35 (.o (.lst (sg ++ [.bool o]))) = σ1
    have a35 : σ1.get 35 = some (.o (.lst (sg ++ [.bool o]))) := by rw [← hs1]; exact gs
    have a106 : σ1.get 106 = some (.v (.int r)) := by rw [← hs1]; exact gp gs (by decide)
    have a22 : σ1.get 22 = some (.v (.int dep)) := by rw [← hs1]; exact gp (gp g22 (by decide)) (by decide)
    have a34 : σ1.get 34 = some (.o (.lst hs)) := by rw [← hs1]; exact gp (gp g34 (by decide)) (by decide)
    have t3 : bNot (bVal (eIdx (lVar 35) (lE (eNeg (eLit (.int 1)))))) σ1 = some (!o) := by
      have q : eIdx (lVar 35) (lE (eNeg (eLit (.int 1)))) σ1 = some (.bool o) := by
        refine ev_idx (f := lVar 35) (g := lE (eNeg (eLit (.int 1)))) (x := LV.o (D.lst (sg ++ [D.bool o]))) (y := .v (.int (-1))) a35 (ev_lE neg1) ?_
        exact idx_last (l := sg) (d := .bool o) (by omega)
      exact ev_not (ev_val q)
    cases o with
    | true =>
      rw [ev_then (show lw9b2 σ1 = some (.next, σ1) from (ev_if_f t3).trans rfl), ev_then (show lw9b3 σ1 = _ from ev_asg (ev_var a106))]; rfl
    | false =>
      rw [ev_then (show lw9b2 σ1 = some (.next, σ1.put 34 (.o (.lst (hs ++ [.int dep])))) from (ev_if_t t3).trans (ev_then (ev_sapp (ev_var a22) a34 (by omega)))), ev_then (show lw9b3 (σ1.put 34 (.o (.lst (hs ++ [.int dep])))) = _ from ev_asg (ev_var (gp a106 (by decide))))]; rfl
  rcases hT with rfl | ⟨c, rfl⟩
  · rw [key _ rfl rfl rfl rfl rfl rfl]; cases o <;> simp [PSt, Sto.put]
  · rw [key _ rfl rfl rfl rfl rfl rfl]; cases o <;> simp [PSt, Sto.put]
end
end Mine
namespace Mine
open PySem PySem.W PySem.Calls PyProof.Rows

/-! the draws -/
noncomputable def ownL : List Int := [352, 4289, 60, 2376, 4635, 2]
noncomputable def drw (l : List Int) : List Int := (l.take 6).map (fun x => x.fmod 1000000) ++ ownL.drop (l.take 6).length
theorem drw_len (l : List Int) : (drw l).length = 6 := by
  unfold drw
  simp [ownL]
  omega
noncomputable def modD (d : D) : D := match d with
  | .int x => .int (x.fmod 1000000)
  | d => d
theorem lw1_val (l : List Int) (hl : l.length ≤ 63) : lw1 [(40, .v (.lst (il l))), (72, .v (.lst (il ownL)))] = some (.next, [(40, .v (.lst (il l))), (72, .v (.lst (il ownL))), (73, .v (.lst (il (drw l))))]) := by
  have c6 : eCut (lVar 40) none (some (eLit (.int 6))) [(40, .v (.lst (il l))), (72, .v (.lst (il ownL)))] = some (.lst ((il l).take 6)) := ev_cut_to (f := lVar 40) (x := .v (.lst (il l))) (b := ((6 : Nat) : Int)) rfl rfl (cut_to (by simp [il]; omega))
  have e1 : lcF (iAny (eCut (lVar 40) none (some (eLit (.int 6))))) (.one 129) bTrue (eBin .mod (lVar 129) (lE (eLit (.int 1000000)))) [(40, .v (.lst (il l))), (72, .v (.lst (il ownL)))] = some (.lst (((il l).take 6).map modD)) := by
    refine ev_lc (ev_iAny c6 (by simp [il]; omega)) (by simp [il]; omega) fun d hd => ?_
    have hd' := List.mem_of_mem_take hd
    simp only [il, List.mem_map] at hd'
    obtain ⟨x, _, rfl⟩ := hd'
    exact ⟨_, rfl, ev_bin (f := lVar 129) (x := .v (.int x)) (y := .v (.int 1000000)) rfl rfl (bin_mod rfl)⟩
  have e2 : eCut (lVar 72) (some (eApp lenD (aCons (eCut (lVar 40) none (some (eLit (.int 6)))) aNil))) none [(40, .v (.lst (il l))), (72, .v (.lst (il ownL)))] = some (.lst ((il ownL).drop ((il l).take 6).length)) :=
    ev_cut_from (f := lVar 72) (x := .v (.lst (il ownL))) rfl ((ev_app (ev_cons c6 rfl)).trans (lenD_lst (by simp [il]; omega))) (cut_from (by simp [il, ownL]) (by simp [il, ownL]; omega))
  have e3 : lw1 [(40, .v (.lst (il l))), (72, .v (.lst (il ownL)))] = some (.next, Sto.put [(40, .v (.lst (il l))), (72, .v (.lst (il ownL)))] 73 (.v (.lst (((il l).take 6).map modD ++ (il ownL).drop ((il l).take 6).length)))) :=
    ev_asg (ev_bin (ev_lE e1) (ev_lE e2) (bin_lst (by simp [il, ownL]; omega)))
  rw [e3]
  have e4 : ((il l).take 6).map modD ++ (il ownL).drop ((il l).take 6).length = il (drw l) := by
    unfold il drw
    rw [← List.map_take, ← List.map_drop, List.length_map, List.map_append, List.map_map, List.map_map]
    rfl
  rw [e4]
  rfl

/-! the names -/
noncomputable def nmf (dr : Nat → Int) (e : Nat × Bool) : Str := nmS (5 * e.1 + nmR (dr e.1)) (nmU (dr e.1) e.2) (nmQ1 (dr e.1) e.2) (nmQ2 (dr e.1) e.2)
theorem nmR_lt (v : Int) : nmR v < 5 := by obtain ⟨r, hr, e⟩ := fmod5 v; unfold nmR; omega
theorem nmQ_lt (v : Int) (o : Bool) : nmQ1 v o < 5 ∧ nmQ2 v o < 5 := by
  obtain ⟨r, hr, e⟩ := fmod5 (nmX v o)
  obtain ⟨r', hr', e'⟩ := fmod5 ((nmX v o).fdiv 5)
  unfold nmQ1 nmQ2
  omega
theorem nmf_ok (dr : Nat → Int) {e : Nat × Bool} (h : e.1 < 4) : NmOk (nmf dr e) := ⟨_, _, _, _, by have := nmR_lt (dr e.1); omega, (nmQ_lt _ _).1, (nmQ_lt _ _).2, rfl⟩
noncomputable def nmD (dr : Nat → Int) (d : D) : D := match d with
  | .tup [.int s, .bool o] => .str (nmf dr (s.toNat, o))
  | d => d
noncomputable def namesD (dr : Nat → Int) (ev : List (Nat × Bool)) : List D := ev.map fun e => .str (nmf dr e)
noncomputable def sndD (d : D) : D := match d with
  | .tup [_, x] => x
  | d => d
noncomputable def drD (dr : Nat → Int) : D := .lst [.int (dr 0), .int (dr 1), .int (dr 2), .int (dr 3), .int (dr 4), .int (dr 5)]

section
variable {x40 x72 : D} {dr : Nat → Int} {ev : List (Nat × Bool)}
theorem lw2_val : ∃ P ∈ lv 8 P0, lw2 [(40, .v x40), (72, .v x72), (73, .v (drD dr))] = some (.next, [(40, .v x40), (72, .v x72), (73, .v (drD dr)), (57, .v (.lst (evD P.ev)))]) := by
  obtain ⟨P, hP, e⟩ := events_val (dr 4) (dr 5)
  refine ⟨P, hP, ?_⟩
  have h : eApp d__law_events (aCons (eIdx (lVar 73) (lE (eLit (.int 4)))) (aCons (eIdx (lVar 73) (lE (eLit (.int 5)))) aNil)) [(40, .v x40), (72, .v x72), (73, .v (drD dr))] = some (.lst (evD P.ev)) := (ev_app (l := [.int (dr 4), .int (dr 5)]) rfl).trans e
  exact ev_asg h
theorem lw3_val (hs : ∀ e ∈ ev, e.1 < 4) (hl : ev.length = 8) : lw3 [(40, .v x40), (72, .v x72), (73, .v (drD dr)), (57, .v (.lst (evD ev)))] = some (.next, [(40, .v x40), (72, .v x72), (73, .v (drD dr)), (57, .v (.lst (evD ev))), (30, .v (.lst (namesD dr ev)))]) := by
  have h : lcF (iLst (eVar 57)) (.many [28, 29]) bTrue (eApp d__law_name (aCons (eIdx (lVar 73) (lVar 28)) (aCons (eVar 28) (aCons (eVar 29) aNil)))) [(40, .v x40), (72, .v x72), (73, .v (drD dr)), (57, .v (.lst (evD ev)))] = some (.lst ((evD ev).map (nmD dr))) := by
    refine ev_lc (ev_iLst rfl (by simp [evD, hl])) (by simp [evD, hl]) fun d hd => ?_
    simp only [evD, List.mem_map] at hd
    obtain ⟨⟨s, o⟩, he, rfl⟩ := hd
    have hs4 : s < 4 := hs _ he
    refine ⟨[(40, .v x40), (72, .v x72), (73, .v (drD dr)), (57, .v (.lst (evD ev))), (28, .v (.int (s : Nat))), (29, .v (.bool o))], rfl, ?_⟩
    have hi : idxD (drD dr) (.int (s : Nat)) = some (.int (dr s)) := by
      refine idx_lst (by simp) ?_
      match s, hs4 with
      | 0, _ => rfl
      | 1, _ => rfl
      | 2, _ => rfl
      | 3, _ => rfl
    exact (ev_app (ev_cons (ev_idx (f := lVar 73) (g := lVar 28) (x := .v (drD dr)) (y := .v (.int (s : Nat))) rfl rfl hi) (ev_cons rfl (ev_cons rfl rfl)))).trans (name_val (dr s) hs4 o)
  have e4 : (evD ev).map (nmD dr) = namesD dr ev := by
    unfold evD namesD
    rw [List.map_map]
    rfl
  rw [e4] at h
  exact ev_asg h
theorem names_get {k : Nat} {e : Nat × Bool} (h : ev[k]? = some e) : (namesD dr ev)[k]? = some (.str (nmf dr e)) := by unfold namesD; rw [List.getElem?_map, h]; rfl
theorem lw45_val (hs : ∀ e ∈ ev, e.1 < 4) (hl : ev.length = 8) : ∃ tk : D, lw4 [(40, .v x40), (72, .v x72), (73, .v (drD dr)), (57, .v (.lst (evD ev))), (30, .v (.lst (namesD dr ev)))] = some (.next, [(40, .v x40), (72, .v x72), (73, .v (drD dr)), (57, .v (.lst (evD ev))), (30, .v (.lst (namesD dr ev))), (62, .v tk)]) ∧
    lw5 [(40, .v x40), (72, .v x72), (73, .v (drD dr)), (57, .v (.lst (evD ev))), (30, .v (.lst (namesD dr ev))), (62, .v tk)] = some (.next, [(40, .v x40), (72, .v x72), (73, .v (drD dr)), (57, .v (.lst (evD ev))), (30, .v (.lst (namesD dr ev))), (62, .v tk)]) := by
  refine hide fun GG kk => ?_
  obtain ⟨tk, e, hlen, htk⟩ := talk_val (N := namesD dr ev) ((dr 4).fdiv 256) (by simp [namesD, hl]) (fun k hk => by
    obtain ⟨e, he⟩ : ∃ e, ev[k]? = some e := ⟨_, List.getElem?_eq_getElem (by omega)⟩
    exact ⟨_, names_get he, nmf_ok dr (hs _ (List.mem_of_getElem? he))⟩)
  refine kk ?_
  clear kk GG
  refine ⟨.lst tk, ?_, ?_⟩
  · have h : eApp d__law_talk (aCons (eVar 30) (aCons (eBin .fdiv (lE (eIdx (lVar 73) (lE (eLit (.int 4))))) (lE (eLit (.int 256)))) aNil)) [(40, .v x40), (72, .v x72), (73, .v (drD dr)), (57, .v (.lst (evD ev))), (30, .v (.lst (namesD dr ev)))] = some (.lst tk) :=
      (ev_app (ev_cons rfl (ev_cons (ev_bin (x := .v (.int (dr 4))) (y := .v (.int 256)) rfl rfl (bin_fdiv rfl)) rfl))).trans e
    exact ev_asg h
  · have h1 : lcF (iLst (eVar 62)) (.many [32, 124]) bTrue (eApp readF (aCons (eVar 32) aNil)) [(40, .v x40), (72, .v x72), (73, .v (drD dr)), (57, .v (.lst (evD ev))), (30, .v (.lst (namesD dr ev))), (62, .v (.lst tk))] = some (.lst (tk.map sndD)) := by
      refine ev_lc (ev_iLst rfl (by omega)) (by omega) fun d hd => ?_
      refine hide fun GG kk => ?_
      obtain ⟨x, y, rfl, hr, _⟩ := htk d hd
      refine kk ?_
      clear kk GG
      exact ⟨_, rfl, (ev_app (l := [.str x]) rfl).trans hr⟩
    have h2 : lcF (iLst (eVar 62)) (.many [32, 124]) bTrue (eVar 124) [(40, .v x40), (72, .v x72), (73, .v (drD dr)), (57, .v (.lst (evD ev))), (30, .v (.lst (namesD dr ev))), (62, .v (.lst tk))] = some (.lst (tk.map sndD)) := by
      refine ev_lc (ev_iLst rfl (by omega)) (by omega) fun d hd => ?_
      obtain ⟨x, y, rfl, hr, _⟩ := htk d hd
      exact ⟨_, rfl, rfl⟩
    have ha : (tk.map sndD).all atom = true := by
      rw [List.all_map, List.all_eq_true]
      intro d hd
      obtain ⟨x, y, rfl, _, hy⟩ := htk d hd
      exact hy
    unfold lw5
    rw [ev_if_f (ev_bcmp (ev_lE h1) (ev_lE h2) (ne_atoms ha))]
    rfl

/-! the depths -/
theorem lw9_val {os : List Bool} {tk : D} (hs : ∀ e ∈ ev, e.1 < 4) (hl : ev.length = 8) (hos : ev.map (·.2) = os) :
    ∃ a b, lw9 (PSt x40 x72 (drD dr) (.lst (evD ev)) (.lst (namesD dr ev)) tk 0 [] [] []) = some (.next, PSt x40 x72 (drD dr) (.lst (evD ev)) (.lst (namesD dr ev)) tk (dptL os 0) (bl os) (il (hgtL os 0)) [(63, .v a), (106, .v b)]) := by
  have hosl : os.length = 8 := by rw [← hos]; simp [hl]
  refine hide fun GG kk => ?_
  obtain ⟨σ', e, T, hT, hσ⟩ := goFor_inv (p := .one 63) (f := lw9B) (fun k σ => ∃ T, ((k = 0 ∧ T = []) ∨ ∃ a b, T = [(63, .v a), (106, .v b)]) ∧ σ = PSt x40 x72 (drD dr) (.lst (evD ev)) (.lst (namesD dr ev)) tk (dptL (os.take k) 0) (bl (os.take k)) (il (hgtL (os.take k) 0)) T) (rngD 0 8) 0
    (PSt x40 x72 (drD dr) (.lst (evD ev)) (.lst (namesD dr ev)) tk 0 [] [] []) ⟨[], .inl ⟨rfl, rfl⟩, rfl⟩ (fun j d σ hd hI => by
      obtain ⟨hj, rfl⟩ := rng8 hd
      rw [Nat.zero_add] at hI ⊢
      obtain ⟨T, hT, rfl⟩ := hI
      obtain ⟨⟨s, o⟩, he⟩ : ∃ e, ev[j]? = some e := ⟨_, List.getElem?_eq_getElem (by omega)⟩
      have hs4 : s < 4 := hs _ (List.mem_of_getElem? he)
      have hoj : os[j]? = some o := by rw [← hos, List.getElem?_map, he]; rfl
      have htk : os.take (j + 1) = os.take j ++ [o] := by rw [List.take_add_one, hoj]; rfl
      have hE : (evD ev)[j]? = some (.tup [.int (s : Nat), .bool o]) := by unfold evD; rw [List.getElem?_map, he]; rfl
      have hk : 5 * s + nmR (dr s) < 20 := by have := nmR_lt (dr s); omega
      obtain ⟨hq1, hq2⟩ := nmQ_lt (dr s) o
      obtain ⟨hin, _⟩ := ltr_val (nmU (dr s) o) hk
      have hc : ltr (5 * s + nmR (dr s)) (nmU (dr s) o) < 128 ∧ ltr (5 * s + nmR (dr s)) (nmU (dr s) o) ≠ 34 ∧ ltr (5 * s + nmR (dr s)) (nmU (dr s) o) ≠ 92 := by unfold ltr; split <;> omega
      obtain ⟨T1, e1, hT1⟩ : ∃ T1, bindP (.one 63) (.int (j : Nat)) (PSt x40 x72 (drD dr) (.lst (evD ev)) (.lst (namesD dr ev)) tk (dptL (os.take j) 0) (bl (os.take j)) (il (hgtL (os.take j) 0)) T) = some (PSt x40 x72 (drD dr) (.lst (evD ev)) (.lst (namesD dr ev)) tk (dptL (os.take j) 0) (bl (os.take j)) (il (hgtL (os.take j) 0)) T1) ∧ (T1 = [(63, .v (.int (j : Nat)))] ∨ ∃ c, T1 = [(63, .v (.int (j : Nat))), (106, .v c)]) := by
        rcases hT with ⟨_, rfl⟩ | ⟨a, b, rfl⟩
        · exact ⟨_, rfl, .inl rfl⟩
        · exact ⟨_, rfl, .inr ⟨b, rfl⟩⟩
      have lh : ∀ (xs : List Bool) (d : Int), (hgtL xs d).length ≤ xs.length := by
        intro xs
        induction xs with
        | nil => intro d; simp [hgtL]
        | cons x xs ih =>
          intro d
          simp only [hgtL, List.length_append, List.length_cons]
          have := ih (if x then d + 1 else d - 1)
          cases x <;> simp at this ⊢ <;> omega
      obtain ⟨a, b, e2⟩ := par_body (x40 := x40) (x72 := x72) (x73 := drD dr) (x62 := tk) (sg := bl (os.take j)) (hs := il (hgtL (os.take j) 0)) (dep := dptL (os.take j) 0) (names_get he) hE (by simp [namesD, hl]) (by simp [evD, hl]) (by simp [bl]; omega) (by have := lh (os.take j) 0; simp [il] at this ⊢; omega)
        (piece_val hc.1 hin o _ hq1 _ hq2) (depth_val hc.1 hc.2.1 hc.2.2 o _ _ hq1 _ hq2) hT1
      refine ⟨_, _, e1, e2, [(63, .v a), (106, .v b)], .inr ⟨a, b, rfl⟩, ?_⟩
      rw [htk, dptL_snoc, hgtL_snoc]
      congr 1
      · simp [bl]
      · cases o <;> simp [il])
  rw [show 0 + (rngD 0 8).length = 8 from rfl, List.take_of_length_le (by omega)] at hσ
  obtain ⟨a, b, rfl⟩ : ∃ a b, T = [(63, .v a), (106, .v b)] := hT.elim (fun h => absurd h.1 (by decide)) id
  refine kk ?_
  clear kk GG
  exact ⟨a, b, (ev_for (ds := rngD 0 8) rfl).trans (e.trans (by rw [hσ]))⟩
end
end Mine
namespace Mine
open PySem PySem.W PySem.Calls PyProof.Rows

/-! the ties -/
noncomputable def tiesN (os : List Bool) : List (Nat × Nat) := (List.range 8).flatMap fun i => (List.range 8).filterMap fun j => if (os.getD i false && !(os.getD j false)) = true then some (i, j) else none
noncomputable def prN (l : List (Nat × Nat)) : List D := l.map fun p => .tup [.int (p.1 : Nat), .int (p.2 : Nat)]
noncomputable def sess (ev : List (Nat × Bool)) (i : Nat) : Nat := (ev.getD i (0, true)).1
noncomputable def rowsN (ev : List (Nat × Bool)) : List (Nat × Nat) := (tiesN (ev.map (·.2))).filter fun p => sess ev p.1 == sess ev p.2
noncomputable def FSt (x40 x72 x73 x57 x30 x62 : D) (sg hs : List D) (a b : D) (T : Sto) : Sto :=
  [(40, .v x40), (72, .v x72), (73, .v x73), (57, .v x57), (30, .v x30), (62, .v x62), (22, .v (.int 0)), (35, .v (.lst sg)), (34, .v (.lst hs)), (63, .v a), (106, .v b)] ++ T
noncomputable def ShTies (os : List Bool) : Prop := ∀ (x40 x72 x73 x57 x30 x62 : D) (hs : List D) (a b : D), lw11 (PSt x40 x72 x73 x57 x30 x62 0 (bl os) hs [(63, .v a), (106, .v b)]) = some (.next, FSt x40 x72 x73 x57 x30 x62 (bl os) hs a b [(74, .v (.lst (prN (tiesN os))))])
theorem ties0 : ShTies [true, true, true, true, false, false, false, false] := fun _ _ _ _ _ _ _ _ _ => by kernel_rfl
theorem ties1 : ShTies [true, true, true, false, true, false, false, false] := fun _ _ _ _ _ _ _ _ _ => by kernel_rfl
theorem ties2 : ShTies [true, true, true, false, false, true, false, false] := fun _ _ _ _ _ _ _ _ _ => by kernel_rfl
theorem ties3 : ShTies [true, true, true, false, false, false, true, false] := fun _ _ _ _ _ _ _ _ _ => by kernel_rfl
theorem ties4 : ShTies [true, true, false, true, true, false, false, false] := fun _ _ _ _ _ _ _ _ _ => by kernel_rfl
theorem ties5 : ShTies [true, true, false, true, false, true, false, false] := fun _ _ _ _ _ _ _ _ _ => by kernel_rfl
theorem ties6 : ShTies [true, true, false, true, false, false, true, false] := fun _ _ _ _ _ _ _ _ _ => by kernel_rfl
theorem ties7 : ShTies [true, true, false, false, true, true, false, false] := fun _ _ _ _ _ _ _ _ _ => by kernel_rfl
theorem ties8 : ShTies [true, true, false, false, true, false, true, false] := fun _ _ _ _ _ _ _ _ _ => by kernel_rfl
theorem ties9 : ShTies [true, false, true, true, true, false, false, false] := fun _ _ _ _ _ _ _ _ _ => by kernel_rfl
theorem ties10 : ShTies [true, false, true, true, false, true, false, false] := fun _ _ _ _ _ _ _ _ _ => by kernel_rfl
theorem ties11 : ShTies [true, false, true, true, false, false, true, false] := fun _ _ _ _ _ _ _ _ _ => by kernel_rfl
theorem ties12 : ShTies [true, false, true, false, true, true, false, false] := fun _ _ _ _ _ _ _ _ _ => by kernel_rfl
theorem ties13 : ShTies [true, false, true, false, true, false, true, false] := fun _ _ _ _ _ _ _ _ _ => by kernel_rfl
noncomputable def SHL : List (List Bool × List Int × List (List (Int × Int))) := [([true, true, true, true, false, false, false, false], [4, 3, 2, 1], ws0), ([true, true, true, false, true, false, false, false], [3, 3, 2, 1], ws1), ([true, true, true, false, false, true, false, false], [3, 2, 2, 1], ws2), ([true, true, true, false, false, false, true, false], [3, 2, 1, 1], ws3), ([true, true, false, true, true, false, false, false], [2, 3, 2, 1], ws4), ([true, true, false, true, false, true, false, false], [2, 2, 2, 1], ws5), ([true, true, false, true, false, false, true, false], [2, 2, 1, 1], ws6), ([true, true, false, false, true, true, false, false], [2, 1, 2, 1], ws7), ([true, true, false, false, true, false, true, false], [2, 1, 1, 1], ws8), ([true, false, true, true, true, false, false, false], [1, 3, 2, 1], ws9), ([true, false, true, true, false, true, false, false], [1, 2, 2, 1], ws10), ([true, false, true, true, false, false, true, false], [1, 2, 1, 1], ws11), ([true, false, true, false, true, true, false, false], [1, 1, 2, 1], ws12), ([true, false, true, false, true, false, true, false], [1, 1, 1, 1], ws13)]
theorem SH_ok : ∀ x ∈ SHL, (∃ as bs tb tot, Shape x.1 x.2.1 (x.2.2.map pr) as bs tb tot) ∧ ShTies x.1 := (List.forall_mem_cons.mpr ⟨⟨⟨_, _, _, _, shape0⟩, ties0⟩, (List.forall_mem_cons.mpr ⟨⟨⟨_, _, _, _, shape1⟩, ties1⟩, (List.forall_mem_cons.mpr ⟨⟨⟨_, _, _, _, shape2⟩, ties2⟩, (List.forall_mem_cons.mpr ⟨⟨⟨_, _, _, _, shape3⟩, ties3⟩, (List.forall_mem_cons.mpr ⟨⟨⟨_, _, _, _, shape4⟩, ties4⟩, (List.forall_mem_cons.mpr ⟨⟨⟨_, _, _, _, shape5⟩, ties5⟩, (List.forall_mem_cons.mpr ⟨⟨⟨_, _, _, _, shape6⟩, ties6⟩, (List.forall_mem_cons.mpr ⟨⟨⟨_, _, _, _, shape7⟩, ties7⟩, (List.forall_mem_cons.mpr ⟨⟨⟨_, _, _, _, shape8⟩, ties8⟩, (List.forall_mem_cons.mpr ⟨⟨⟨_, _, _, _, shape9⟩, ties9⟩, (List.forall_mem_cons.mpr ⟨⟨⟨_, _, _, _, shape10⟩, ties10⟩, (List.forall_mem_cons.mpr ⟨⟨⟨_, _, _, _, shape11⟩, ties11⟩, (List.forall_mem_cons.mpr ⟨⟨⟨_, _, _, _, shape12⟩, ties12⟩, (List.forall_mem_cons.mpr ⟨⟨⟨_, _, _, _, shape13⟩, ties13⟩, (fun _ h => nomatch h)⟩)⟩)⟩)⟩)⟩)⟩)⟩)⟩)⟩)⟩)⟩)⟩)⟩)⟩)
noncomputable def chkEvt (ev : List (Nat × Bool)) : Bool := ev.length == 8 && ev.all (fun e => decide (e.1 < 4)) && dptL (ev.map (·.2)) 0 == 0 && (tiesN (ev.map (·.2))).length == 16 &&
  SHL.any fun x => x.1 == ev.map (·.2) && x.2.1 == hgtL (ev.map (·.2)) 0 && x.2.2.contains ((rowsN ev).map fun p => ((p.1 : Int), (p.2 : Int)))
theorem evt_all : (lv 8 P0).all (fun P => chkEvt P.ev) = true := by kernel_rfl

theorem ties_mem {os : List Bool} {p : Nat × Nat} (h : p ∈ tiesN os) : p.1 < 8 ∧ p.2 < 8 ∧ os.getD p.1 false = true ∧ os.getD p.2 false = false := by
  unfold tiesN at h
  rw [List.mem_flatMap] at h
  refine hide fun GG kk => ?_
  obtain ⟨i, hi, h⟩ := h
  rw [List.mem_filterMap] at h
  obtain ⟨j, hj, h⟩ := h
  refine kk ?_
  clear kk GG
  split at h
  · rename_i q
    cases h
    simp only [Bool.and_eq_true, Bool.not_eq_true'] at q
    exact ⟨List.mem_range.mp hi, List.mem_range.mp hj, q.1, q.2⟩
  · cases h
noncomputable def costD (ev : List (Nat × Bool)) (d : D) : D := match d with
  | .tup [.int i, .int j] => .int (if sess ev i.toNat = sess ev j.toNat then 1 else 2)
  | d => d
theorem zip_map {g : D → D} : ∀ l : List D, zipD l (l.map g) = l.map fun d => .tup [d, g d]
  | [] => rfl
  | d :: l => by simp only [List.map_cons, zipD, zip_map l]
noncomputable def isOne (d : D) : Bool := match d with
  | .tup [_, .int c] => decide (c = 1)
  | _ => false
noncomputable def fstD (d : D) : D := match d with
  | .tup [x, _] => x
  | d => d

section
variable {x40 x72 x62 a b : D} {dr : Nat → Int} {ev : List (Nat × Bool)}
theorem lw10_val {hs : List D} {T : Sto} (hl : ev.length = 8) : lw10 (PSt x40 x72 (drD dr) (.lst (evD ev)) (.lst (namesD dr ev)) x62 0 (bl (ev.map (·.2))) hs T) = some (.next, PSt x40 x72 (drD dr) (.lst (evD ev)) (.lst (namesD dr ev)) x62 0 (bl (ev.map (·.2))) hs T) := by
  have h : lcF (iLst (eVar 57)) (.many [28, 29]) bTrue (eVar 29) (PSt x40 x72 (drD dr) (.lst (evD ev)) (.lst (namesD dr ev)) x62 0 (bl (ev.map (·.2))) hs T) = some (.lst ((evD ev).map sndD)) := by
    refine ev_lc (ev_iLst rfl (by simp [evD, hl])) (by simp [evD, hl]) fun d hd => ?_
    simp only [evD, List.mem_map] at hd
    obtain ⟨⟨s, o⟩, he, rfl⟩ := hd
    exact ⟨_, rfl, ev_var (gs (i := 29))⟩
  have e : (evD ev).map sndD = bl (ev.map (·.2)) := by
    unfold evD bl
    rw [List.map_map, List.map_map]
    rfl
  rw [e] at h
  have ha : (bl (ev.map (·.2))).all atom = true := by simp [bl, atom]
  unfold lw10
  have t1 : bCmp .ne (lVar 22) (lE (eLit (.int 0))) (PSt x40 x72 (drD dr) (.lst (evD ev)) (.lst (namesD dr ev)) x62 0 (bl (ev.map (·.2))) hs T) = some false := ev_bcmp (f := lVar 22) (x := .v (.int 0)) (y := .v (.int 0)) rfl rfl rfl
  rw [ev_if_f ((ev_or_f t1).trans (ev_bcmp (f := lVar 35) (x := .o (.lst (bl (ev.map (·.2))))) rfl (ev_lE h) (ne_atoms ha)))]
  rfl

theorem pair_facts (hl : ev.length = 8) (hs4 : ∀ e ∈ ev, e.1 < 4) {p : Nat × Nat} (h : p ∈ tiesN (ev.map (·.2))) : ∃ s s', ev[p.1]? = some (s, true) ∧ ev[p.2]? = some (s', false) ∧ s < 4 ∧ s' < 4 ∧ sess ev p.1 = s ∧ sess ev p.2 = s' := by
  refine hide fun GG kk => ?_
  obtain ⟨h1, h2, h3, h4⟩ := ties_mem h
  obtain ⟨⟨s, o⟩, e1⟩ : ∃ e, ev[p.1]? = some e := ⟨_, List.getElem?_eq_getElem (by omega)⟩
  obtain ⟨⟨s', o'⟩, e2⟩ : ∃ e, ev[p.2]? = some e := ⟨_, List.getElem?_eq_getElem (by omega)⟩
  have q1 : o = true := by rw [List.getD_eq_getElem?_getD, List.getElem?_map, e1] at h3; exact h3
  have q2 : o' = false := by rw [List.getD_eq_getElem?_getD, List.getElem?_map, e2] at h4; exact h4
  subst q1 q2
  refine kk ?_
  clear kk GG
  refine ⟨s, s', e1, e2, hs4 _ (List.mem_of_getElem? e1), hs4 _ (List.mem_of_getElem? e2), ?_, ?_⟩
  · unfold sess; rw [List.getD_eq_getElem?_getD, e1]; rfl
  · unfold sess; rw [List.getD_eq_getElem?_getD, e2]; rfl
theorem letter_at {s : Nat} {o : Bool} {i : Nat} (hl : ev.length = 8) (h : ev[i]? = some (s, o)) {σ : Sto} {v : Nat} (h30 : σ.get 30 = some (.v (.lst (namesD dr ev)))) (hv : σ.get v = some (.v (.int (i : Nat)))) :
    eIdx (lE (eIdx (lVar 30) (lVar v))) (lE (eLit (.int 0))) σ = some (.str ⟨#[ltr (5 * s + nmR (dr s)) (nmU (dr s) o)]⟩) :=
  ev_idx (x := .v (.str (nmf dr (s, o)))) (y := .v (.int ((0 : Nat) : Int))) (ev_lE (ev_idx (f := lVar 30) (g := lVar v) (x := .v (.lst (namesD dr ev))) (y := .v (.int (i : Nat))) h30 hv (idx_lst (by simp [namesD, hl]) (names_get h)))) rfl (idx_str (Nat.le_of_ble_eq_true rfl) rfl)
theorem sess_at {s : Nat} {o : Bool} {i : Nat} (hl : ev.length = 8) (h : ev[i]? = some (s, o)) {σ : Sto} {v : Nat} (h57 : σ.get 57 = some (.v (.lst (evD ev)))) (hv : σ.get v = some (.v (.int (i : Nat)))) :
    eIdx (lE (eIdx (lVar 57) (lVar v))) (lE (eLit (.int 0))) σ = some (.int (s : Nat)) :=
  ev_idx (x := .v (.tup [.int (s : Nat), .bool o])) (y := .v (.int ((0 : Nat) : Int))) (ev_lE (ev_idx (f := lVar 57) (g := lVar v) (x := .v (.lst (evD ev))) (y := .v (.int (i : Nat))) h57 hv (idx_lst (by simp [evD, hl]) (by unfold evD; rw [List.getElem?_map, h]; rfl)))) rfl (idx_tup (by simp) rfl)

theorem lw1214 {hs : List D} (hl : ev.length = 8) (hs4 : ∀ e ∈ ev, e.1 < 4) (h16 : (tiesN (ev.map (·.2))).length = 16) :
    ∃ c : D, lw12 (FSt x40 x72 (drD dr) (.lst (evD ev)) (.lst (namesD dr ev)) x62 (bl (ev.map (·.2))) hs a b [(74, .v (.lst (prN (tiesN (ev.map (·.2))))))]) = some (.next, FSt x40 x72 (drD dr) (.lst (evD ev)) (.lst (namesD dr ev)) x62 (bl (ev.map (·.2))) hs a b [(74, .v (.lst (prN (tiesN (ev.map (·.2)))))), (75, .v c)]) ∧
      lw13 (FSt x40 x72 (drD dr) (.lst (evD ev)) (.lst (namesD dr ev)) x62 (bl (ev.map (·.2))) hs a b [(74, .v (.lst (prN (tiesN (ev.map (·.2)))))), (75, .v c)]) = some (.next, FSt x40 x72 (drD dr) (.lst (evD ev)) (.lst (namesD dr ev)) x62 (bl (ev.map (·.2))) hs a b [(74, .v (.lst (prN (tiesN (ev.map (·.2)))))), (75, .v c)]) ∧
      lw14 (FSt x40 x72 (drD dr) (.lst (evD ev)) (.lst (namesD dr ev)) x62 (bl (ev.map (·.2))) hs a b [(74, .v (.lst (prN (tiesN (ev.map (·.2)))))), (75, .v c)]) = some (.next, FSt x40 x72 (drD dr) (.lst (evD ev)) (.lst (namesD dr ev)) x62 (bl (ev.map (·.2))) hs a b [(74, .v (.lst (prN (tiesN (ev.map (·.2)))))), (75, .v c), (76, .v (.lst (prN (rowsN ev))))]) := by
  have hpl : (prN (tiesN (ev.map (·.2)))).length = 16 := by simp [prN, h16]
  have mem : ∀ d ∈ prN (tiesN (ev.map (·.2))), ∃ p ∈ tiesN (ev.map (·.2)), d = .tup [.int (p.1 : Nat), .int (p.2 : Nat)] := fun d hd => by
    simp only [prN, List.mem_map] at hd
    obtain ⟨p, hp, rfl⟩ := hd
    exact ⟨p, hp, rfl⟩
  have c1 : lcF (iLst (eVar 74)) (.many [55, 69]) bTrue (eApp d__substitution_cost (aCons (eIdx (lE (eIdx (lVar 30) (lVar 55))) (lE (eLit (.int 0)))) (aCons (eIdx (lE (eIdx (lVar 30) (lVar 69))) (lE (eLit (.int 0)))) aNil))) (FSt x40 x72 (drD dr) (.lst (evD ev)) (.lst (namesD dr ev)) x62 (bl (ev.map (·.2))) hs a b [(74, .v (.lst (prN (tiesN (ev.map (·.2))))))])
      = some (.lst ((prN (tiesN (ev.map (·.2)))).map (costD ev))) := by
    refine ev_lc (ev_iLst rfl (by omega)) (by omega) fun d hd => ?_
    obtain ⟨p, hp, rfl⟩ := mem d hd
    obtain ⟨s, s', e1, e2, l1, l2, f1, f2⟩ := pair_facts hl hs4 hp
    refine ⟨FSt x40 x72 (drD dr) (.lst (evD ev)) (.lst (namesD dr ev)) x62 (bl (ev.map (·.2))) hs a b [(74, .v (.lst (prN (tiesN (ev.map (·.2)))))), (55, .v (.int (p.1 : Nat))), (69, .v (.int (p.2 : Nat)))], rfl, ?_⟩
    have hk : 5 * s + nmR (dr s) < 20 := by have := nmR_lt (dr s); omega
    have hk' : 5 * s' + nmR (dr s') < 20 := by have := nmR_lt (dr s'); omega
    have hiff : 5 * s + nmR (dr s) = 5 * s' + nmR (dr s') ↔ s = s' := by
      constructor
      · have := nmR_lt (dr s); have := nmR_lt (dr s'); omega
      · rintro rfl; rfl
    rw [ev_app (ev_cons (letter_at (dr := dr) hl e1 rfl rfl) (ev_cons (letter_at (dr := dr) hl e2 rfl rfl) rfl))]
    rw [cost_val hk hk' (fun q => by
      have := hiff.mp q
      subst this
      unfold nmU
      cases decide ((Int.fdiv (dr s) 5).fmod 2 = 0) <;> simp)]
    simp only [costD, Int.toNat_natCast, f1, f2, hiff]
  have c2 : ∀ c : D, lcF (iLst (eVar 74)) (.many [55, 69]) bTrue (eIte (bCmp .eq (lE (eIdx (lE (eIdx (lVar 57) (lVar 55))) (lE (eLit (.int 0))))) (lE (eIdx (lE (eIdx (lVar 57) (lVar 69))) (lE (eLit (.int 0)))))) (eLit (.int 1)) (eLit (.int 2))) (FSt x40 x72 (drD dr) (.lst (evD ev)) (.lst (namesD dr ev)) x62 (bl (ev.map (·.2))) hs a b [(74, .v (.lst (prN (tiesN (ev.map (·.2)))))), (75, .v c)])
      = some (.lst ((prN (tiesN (ev.map (·.2)))).map (costD ev))) := fun c => by
    refine ev_lc (ev_iLst rfl (by omega)) (by omega) fun d hd => ?_
    obtain ⟨p, hp, rfl⟩ := mem d hd
    obtain ⟨s, s', e1, e2, l1, l2, f1, f2⟩ := pair_facts hl hs4 hp
    refine ⟨FSt x40 x72 (drD dr) (.lst (evD ev)) (.lst (namesD dr ev)) x62 (bl (ev.map (·.2))) hs a b [(74, .v (.lst (prN (tiesN (ev.map (·.2)))))), (75, .v c), (55, .v (.int (p.1 : Nat))), (69, .v (.int (p.2 : Nat)))], rfl, ?_⟩
    have t := ev_bcmp (op := .eq) (ev_lE (sess_at hl e1 (σ := FSt x40 x72 (drD dr) (.lst (evD ev)) (.lst (namesD dr ev)) x62 (bl (ev.map (·.2))) hs a b [(74, .v (.lst (prN (tiesN (ev.map (·.2)))))), (75, .v c), (55, .v (.int (p.1 : Nat))), (69, .v (.int (p.2 : Nat)))]) (v := 55) rfl rfl)) (ev_lE (sess_at hl e2 (v := 69) rfl rfl)) (eq_int _ _)
    simp only [costD, Int.toNat_natCast, f1, f2]
    by_cases q : s = s'
    · rw [if_pos q, ev_ite_t (t.trans (by rw [q]; simp))]; rfl
    · rw [if_neg q, ev_ite_f (t.trans (by rw [decide_eq_false (by omega)]))]; rfl
  have ha : ((prN (tiesN (ev.map (·.2)))).map (costD ev)).all atom = true := by
    rw [List.all_map, List.all_eq_true]
    intro d hd
    obtain ⟨p, hp, rfl⟩ := mem d hd
    rfl
  refine ⟨.lst ((prN (tiesN (ev.map (·.2)))).map (costD ev)), ev_asg c1, ?_, ?_⟩
  · unfold lw13
    rw [ev_if_f (ev_bcmp (f := lVar 75) (x := .v (.lst ((prN (tiesN (ev.map (·.2)))).map (costD ev)))) rfl (ev_lE (c2 _)) (ne_atoms ha))]
    rfl
  · have hz : iZip (eVar 74) (eVar 75) (FSt x40 x72 (drD dr) (.lst (evD ev)) (.lst (namesD dr ev)) x62 (bl (ev.map (·.2))) hs a b [(74, .v (.lst (prN (tiesN (ev.map (·.2)))))), (75, .v (.lst ((prN (tiesN (ev.map (·.2)))).map (costD ev))))]) = some ((prN (tiesN (ev.map (·.2)))).map fun d => .tup [d, costD ev d]) := by
      rw [← zip_map]; rfl
    have c3 := ev_lcif (p := .many [107, 130]) (c := bCmp .eq (lVar 130) (lE (eLit (.int 1)))) (f := eVar 107) (g := fstD) (q := isOne) hz (by simp [hpl]) (fun d hd => by
      rw [List.mem_map] at hd
      obtain ⟨d', hd', rfl⟩ := hd
      obtain ⟨p, hp, rfl⟩ := mem d' hd'
      exact ⟨FSt x40 x72 (drD dr) (.lst (evD ev)) (.lst (namesD dr ev)) x62 (bl (ev.map (·.2))) hs a b [(74, .v (.lst (prN (tiesN (ev.map (·.2)))))), (75, .v (.lst ((prN (tiesN (ev.map (·.2)))).map (costD ev)))), (107, .v (.tup [.int (p.1 : Nat), .int (p.2 : Nat)])), (130, .v (costD ev (.tup [.int (p.1 : Nat), .int (p.2 : Nat)])))], rfl, ev_bcmp (f := lVar 130) (x := .v (costD ev (.tup [.int (p.1 : Nat), .int (p.2 : Nat)]))) (y := .v (.int 1)) rfl rfl (eq_int _ _), rfl⟩)
    have e : ((((prN (tiesN (ev.map (·.2)))).map fun d => D.tup [d, costD ev d]).filter isOne).map fstD) = prN (rowsN ev) := by
      unfold rowsN prN
      generalize tiesN (ev.map (·.2)) = l
      induction l with
      | nil => rfl
      | cons p l ih =>
        simp only [List.map_cons, List.filter_cons]
        have h1 : isOne (.tup [.tup [.int (p.1 : Nat), .int (p.2 : Nat)], costD ev (.tup [.int (p.1 : Nat), .int (p.2 : Nat)])]) = (sess ev p.1 == sess ev p.2) := by
          simp only [costD, isOne, Int.toNat_natCast]
          by_cases q : sess ev p.1 = sess ev p.2
          · simp [q]
          · simp [q]
        rw [h1]
        cases sess ev p.1 == sess ev p.2 with
        | true => simp only [if_true, List.map_cons, ih]; rfl
        | false => simp only [Bool.false_eq_true, if_false, ih]
    rw [e] at c3
    exact ev_asg c3

theorem lw15_val {hs : List D} {t c r : D} : ∃ way : Int, (way = 1 ∨ way = -1) ∧ lw15 (FSt x40 x72 (drD dr) (.lst (evD ev)) (.lst (namesD dr ev)) x62 (bl (ev.map (·.2))) hs a b [(74, .v t), (75, .v c), (76, .v r)]) = some (.next, FSt x40 x72 (drD dr) (.lst (evD ev)) (.lst (namesD dr ev)) x62 (bl (ev.map (·.2))) hs a b [(74, .v t), (75, .v c), (76, .v r), (77, .v (.int way))]) := by
  have h1 := Int.fmod_nonneg_of_pos (dr 5) (show (0 : Int) < 2 by decide)
  have h2 := Int.fmod_lt_of_pos (dr 5) (show (0 : Int) < 2 by decide)
  refine ⟨1 - 2 * (dr 5).fmod 2, by omega, ?_⟩
  exact ev_asg (ev_bin (x := .v (.int 1)) rfl (ev_lE (ev_bin (x := .v (.int 2)) rfl (ev_lE (ev_bin (x := .v (.int (dr 5))) (y := .v (.int 2)) rfl rfl (bin_mod rfl))) (bin_mul rfl))) (bin_sub _ _))
end

theorem plain_law (l : List Int) (hl63 : l.length ≤ 63) : ∃ σ, lawD [(40, .v (.lst (l.map .int)))] = some (.ret (.bool true), σ) := by
  rw [lawD_eq]
  show ∃ σ, _ = _
  rw [ev_then (show lw0 [(40, .v (.lst (l.map .int)))] = some (.next, [(40, .v (.lst (il l))), (72, .v (.lst (il ownL)))]) from rfl)]
  rw [ev_then (lw1_val l hl63)]
  obtain ⟨dr, hdr⟩ : ∃ dr : Nat → Int, D.lst (il (drw l)) = drD dr := by
    have h6 := drw_len l
    generalize drw l = d at h6
    refine ⟨fun i => d.getD i 0, ?_⟩
    match d, h6 with
    | [_, _, _, _, _, _], _ => rfl
  rw [hdr]
  generalize D.lst (il l) = x40
  generalize D.lst (il ownL) = x72
  obtain ⟨P, hP, e2⟩ := lw2_val (x40 := x40) (x72 := x72) (dr := dr)
  rw [ev_then e2]
  have hchk := List.all_eq_true.mp evt_all P hP
  generalize P.ev = ev at hchk ⊢
  simp only [chkEvt, Bool.and_eq_true, beq_iff_eq, List.all_eq_true, decide_eq_true_eq, List.any_eq_true, List.contains_iff_mem] at hchk
  refine hide fun GG kk => ?_
  obtain ⟨⟨⟨⟨hl, hs4⟩, hd0⟩, h16⟩, x, hx, ⟨hx1, hx2⟩, hx3⟩ := hchk
  refine kk ?_
  clear kk GG
  rw [ev_then (lw3_val hs4 hl)]
  obtain ⟨tk, e4, e5⟩ := lw45_val (x40 := x40) (x72 := x72) (dr := dr) hs4 hl
  rw [ev_then e4, ev_then e5]
  rw [ev_then (show lw6 _ = some (.next, [(40, .v x40), (72, .v x72), (73, .v (drD dr)), (57, .v (.lst (evD ev))), (30, .v (.lst (namesD dr ev))), (62, .v tk), (22, .v (.int 0))]) from rfl)]
  rw [ev_then (show lw7 _ = some (.next, [(40, .v x40), (72, .v x72), (73, .v (drD dr)), (57, .v (.lst (evD ev))), (30, .v (.lst (namesD dr ev))), (62, .v tk), (22, .v (.int 0)), (35, .o (.lst []))]) from rfl)]
  rw [ev_then (show lw8 _ = some (.next, PSt x40 x72 (drD dr) (.lst (evD ev)) (.lst (namesD dr ev)) tk 0 [] [] []) from rfl)]
  obtain ⟨a, b, e9⟩ := lw9_val (x40 := x40) (x72 := x72) (dr := dr) (tk := tk) hs4 hl rfl
  rw [ev_then e9, hd0, ev_then (lw10_val hl)]
  refine hide fun GG kk => ?_
  obtain ⟨⟨as, bs, tb, tot, hSh⟩, hTi⟩ := SH_ok x hx
  refine kk ?_
  clear kk GG
  rw [hx1] at hTi hSh
  rw [hx2] at hSh
  rw [ev_then (hTi _ _ _ _ _ _ _ _ _)]
  refine hide fun GG kk => ?_
  obtain ⟨c, e12, e13, e14⟩ := lw1214 (x40 := x40) (x72 := x72) (x62 := tk) (a := a) (b := b) (dr := dr) (hs := il (hgtL (ev.map (·.2)) 0)) hl hs4 h16
  refine kk ?_
  clear kk GG
  rw [ev_then e12, ev_then e13, ev_then e14]
  obtain ⟨way, hway, e15⟩ := lw15_val (x40 := x40) (x72 := x72) (x62 := tk) (a := a) (b := b) (dr := dr) (ev := ev) (hs := il (hgtL (ev.map (·.2)) 0)) (t := .lst (prN (tiesN (ev.map (·.2))))) (c := c) (r := .lst (prN (rowsN ev)))
  rw [ev_then e15]
  have hR : pr ((rowsN ev).map fun p => ((p.1 : Int), (p.2 : Int))) = .lst (prN (rowsN ev)) := by
    unfold pr prN
    rw [List.map_map]
    rfl
  exact tail_ok hSh (List.mem_map.mpr ⟨_, hx3, hR⟩) hway rfl
end Mine
theorem PySem.Challenge.cw_xg0019_01_holds : PySem.Challenge.rw_xg0019_01.Holds :=
  Mine.holds_of Mine.plain_law
