import PyProof.Rows.All
import Wide.All
import OpenK.AllK
import Wide.FinOn
import Lean
import PySem.Challenge.RW_to0078_01
set_option Elab.async false
set_option maxRecDepth 100000
set_option maxHeartbeats 0
set_option linter.unusedVariables false
section
open PySem PySem.W PyProof.Rows PySem.Calls PyProof.Rows.LCg
namespace Mine

section
variable {prog : Program} {w : World} {A : Around}

theorem loop_any {elt target iter : Expr} {ifs : List Expr} {scope : Scope} {pos : Pos} {it acc : Value} {env : Env} {R : Result → Shared → Prop} (I : Nat → Shared → Prop)
    (turn : ∀ n s, I n s → wpAny (model prog w) A (pyNext it) (fun r s₁ => match r with
      | none => R (.ok .next) s₁
      | some v => wpAny (model prog w) A (letOwnedTupleGo target it v) (fun _ s₁' => wpAny (model prog w) A (assign target env v) (fun _ s₂ =>
          wpAny (model prog w) A (forIn ifs true fun c r => if r = true then do let ok ← isTrue c env (eval c env); pure (ForInStep.yield ok) else pure (ForInStep.yield r)) (fun ok s₃ =>
            if ok = true then wpAny (model prog w) A (eval elt env) (fun x s₄ =>
              wpAny (model prog w) A (call (.builtin "list.append") [acc, x]) (fun _ s₅ => ∃ m, m < n ∧ I m s₅) (notedBy (model prog w) A env fun e s' => R (.error e) s') s₄) (notedBy (model prog w) A env fun e s' => R (.error e) s') s₃
            else ∃ m, m < n ∧ I m s₃) (notedBy (model prog w) A env fun e s' => R (.error e) s') s₂) (notedBy (model prog w) A env fun e s' => R (.error e) s') s₁') (notedBy (model prog w) A env fun e s' => R (.error e) s') s₁) (notedBy (model prog w) A env fun e s' => R (.error e) s') s)
    (n : Nat) {s : Shared} (h : I n s) :
    codeAny (model prog w) A (.compLoop (.ListComp elt [⟨target, iter, ifs, 0⟩] scope pos) 0 it acc env) R s := by
  refine codeAny_loop rfl I (fun n s hI => ?_) n h
  show wpAny _ A ((compTurn (.ListComp elt [⟨target, iter, ifs, 0⟩] scope pos) 0 it acc env).onRaise (fun x => do noteFrame x env; theTreesLotGoes x)) _ _ s
  refine wpAny_noted ?_
  rw [compTurn_list]
  refine wpAny_bind (wpAny_standAt (wpAny_bind (wpAny_mono (turn n s hI) (fun r s₁ h₁ => ?_) fun _ _ h' => h')))
  cases r with
  | none => exact wpAny_pure h₁
  | some v =>
    refine wpAny_bind (wpAny_mono h₁ (fun _ s₁' h₁' => ?_) fun _ _ h' => h')
    refine wpAny_bind (wpAny_mono h₁' (fun _ s₂ h₂ => wpAny_bind (wpAny_mono h₂ (fun ok s₃ h₃ => ?_) fun _ _ h' => h')) fun _ _ h' => h')
    cases ok with
    | false => exact wpAny_pure ⟨rfl, h₃⟩
    | true =>
      exact wpAny_bind (wpAny_bind (wpAny_mono h₃ (fun x s₄ h₄ => wpAny_bind (wpAny_mono h₄ (fun _ s₅ h₅ => wpAny_pure (wpAny_pure ⟨rfl, h₅⟩)) fun _ _ h' => h')) fun _ _ h' => h'))

structure Src (prog : Program) (w : World) (A : Around) (target : Expr) (env : Env) (I : Addr) (fp wr : List Addr) (G : Array GenState → Array GenState → Prop) (n : Nat) (B : Nat → (Str → Option Value) → Prop) (St : Nat → Shared → Prop) : Prop where
  frame : ∀ i (s : Shared) h' tk, St i s → (∀ b ∈ fp, ∀ o, s.heap.get? b = some o → h'.get? b = some o) → St i { s with heap := h', toks := tk }
  step : ∀ i (s : Shared) m (Q : Shared → Prop) (E : Value → Shared → Prop), i < n → St i s → s.heap.Ns env.locals m →
    (∀ h' g' tk m₂, B i m₂ → h'.Ns env.locals m₂ → St (i + 1) { s with heap := h', gens := g', toks := tk } → G s.gens g' → (∀ b o, b ≠ env.locals → b ∉ wr → s.heap.get? b = some o → h'.get? b = some o) → Q { s with heap := h', gens := g', toks := tk }) →
    wpAny (model prog w) A (pyNext (.ref I)) (fun r s₁ => ∃ v, r = some v ∧ wpAny (model prog w) A (letOwnedTupleGo target (.ref I) v) (fun _ s₂ => wpAny (model prog w) A (assign target env v) (fun _ s₃ => Q s₃) E s₂) E s₁) E s
  done : ∀ (s : Shared) (Q : Shared → Prop) (E : Value → Shared → Prop), St n s →
    (∀ h' g' tk, G s.gens g' → (∀ b o, b ∉ wr → s.heap.get? b = some o → h'.get? b = some o) → Q { s with heap := h', gens := g', toks := tk }) →
    wpAny (model prog w) A (pyNext (.ref I)) (fun r s₁ => r = none ∧ Q s₁) E s
  self : ∀ (s : Shared) (Q : Value → Shared → Prop) (E : Value → Shared → Prop), St 0 s → Q (.ref I) s → wpAny (model prog w) A (pyIter (.ref I)) Q E s

def MEnd (h₀ : Heap) (L : Addr) (m : Str → Option Value) (led : List (Addr × Obj)) (s : Shared) (P : Prop) (s' : Shared) : Prop :=
  ∃ h' tk, s' = { s with heap := h', toks := tk } ∧ Fr h₀ L h' m ∧ News h₀ L h' led ∧ P

theorem MEnd.mk {h₀ : Heap} {L : Addr} {m : Str → Option Value} {led : List (Addr × Obj)} {hp h' : Heap} {g : Array GenState} {d : Drawn} {t tk : Nat} {os : OsState} {P : Prop} (F : Fr h₀ L h' m) (N : News h₀ L h' led) (p : P) :
    MEnd h₀ L m led ⟨hp, g, d, t, os⟩ P ⟨h', g, d, tk, os⟩ := ⟨h', tk, rfl, F, N, p⟩

end
end Mine
end
section
open PySem PySem.W PyProof.Rows PySem.Calls PyProof.Rows.LCg
namespace Mine
section
variable {prog : Program} {w : World} {A : Around} {E : Value → Shared → Prop} {h₀ : Heap} {L : Addr} {m : Str → Option Value} {env : Env}
/-- The loop of a comprehension, its list and its names laid already. -/
theorem loop_M {elt iter target : Expr} {ifs : List Expr} {scope : Scope} {cl : List (Str × Addr)} {pos : Pos} {D C I : Addr} {fp wr : List Addr} {n : Nat} {G : Array GenState → Array GenState → Prop}
    {B : Nat → (Str → Option Value) → Prop} {St : Nat → Shared → Prop} {news : List (Addr × Obj)} {Rel : Nat → List Value → Prop} {RR : Result → Shared → Prop} {h₁ : Heap} {g₁ : Array GenState} {d : Drawn} {tk₁ : Nat} {os : OsState} {m₁ : Str → Option Value}
    (W : Src prog w A target (compEnvC scope cl C env) I fp wr G n B St)
    (hGr : ∀ a, G a a) (hGt : ∀ a b c, G a b → G b c → G a c)
    (hsub : ∀ b ∈ wr, b ∈ fp) (hsz : n ≤ sizeLine) (hwo : ∀ i s, St i s → ∀ b ∈ wr, ∃ o, s.heap.get? b = some o)
    (hDf : D ∉ fp) (hCf : C ∉ fp) (hDC : D ≠ C) (hDL : D ≠ L) (hCL : C ≠ L) (hD₀ : h₀.get? D = none) (hC₀ : h₀.get? C = none) (offC : ∀ p ∈ news, p.1 ≠ C) (offD : ∀ p ∈ news, p.1 ≠ D)
    (hst : St 0 ⟨h₁, g₁, d, tk₁, os⟩) (F : Fr h₀ L h₁ m) (N : News h₀ L h₁ ((D, lst []) :: news)) (hns : h₁.Ns C m₁) (hwL : L ∉ wr) (hw₀ : ∀ b ∈ wr, h₀.get? b = none) (off : ∀ p ∈ news, p.1 ∉ wr)
    (hsrc : ∀ b ∈ fp, b ∉ wr → ∃ o, h₀.get? b = some o ∨ (b, o) ∈ news)
    (h0 : Rel 0 [])
    (body : ∀ i C oC m₂ ys led h g tk (E' : Value → Shared → Prop), i < n → B i m₂ → NsObj oC m₂ → Rel i ys → Fr h₀ L h m → News h₀ L h led → (C, oC) ∈ led → (∀ p ∈ news, p ∈ led) → St (i + 1) ⟨h, g, d, tk, os⟩ → (∀ b ∈ wr, ∃ o, (b, o) ∈ led) →
      wpAny (model prog w) A (forIn ifs true fun c r => if r = true then do let ok ← isTrue c (compEnvC scope cl C env) (eval c (compEnvC scope cl C env)); pure (ForInStep.yield ok) else pure (ForInStep.yield r))
        (fun ok s₃ => if ok = true then wpAny (model prog w) A (eval elt (compEnvC scope cl C env)) (fun y s₄ => MEnd h₀ L m led ⟨h, g, d, tk, os⟩ (Rel (i + 1) (ys ++ [y])) s₄) E' s₃
          else MEnd h₀ L m led ⟨h, g, d, tk, os⟩ (Rel (i + 1) ys) s₃) E' ⟨h, g, d, tk, os⟩)
    (hRR : ∀ h g tk m' ys, Rel n ys → Fr h₀ L h m → News h₀ L h ((D, lst ys) :: news) → h.Ns C m' → G g₁ g → RR (.ok .next) ⟨h, g, d, tk, os⟩) :
    codeAny (model prog w) A (.compLoop (.ListComp elt [⟨target, iter, ifs, 0⟩] scope pos) 0 (.ref I) (.ref D) (compEnvC scope cl C env)) RR ⟨h₁, g₁, d, tk₁, os⟩ := by
  have hDw : D ∉ wr := fun hm => hDf (hsub _ hm)
  have hCw : C ∉ wr := fun hm => hCf (hsub _ hm)
  refine loop_any
    (fun k s' => ∃ h' g tk i ys m', s' = ⟨h', g, d, tk, os⟩ ∧ i ≤ n ∧ k = n + 1 - i ∧ ys.length ≤ i ∧ St i ⟨h', g, d, tk, os⟩ ∧ G g₁ g ∧ Fr h₀ L h' m ∧ h'.Ns C m' ∧
      News h₀ L h' ((D, lst ys) :: news) ∧ Rel i ys) ?_ (n + 1)
    ⟨h₁, g₁, _, 0, [], _, rfl, Nat.zero_le _, rfl, Nat.le_refl _, hst, hGr _, F, hns, N, h0⟩
  · rintro k s' ⟨h', g, tk, i, ys, m', rfl, hi, rfl, hyl, hst', hg, F', hn', N', R'⟩
    by_cases hlt : i < n
    · refine wpAny_mono (W.step i _ m' (fun s₃ => ∃ h₃ g₃ tk₃ m₂, s₃ = ⟨h₃, g₃, d, tk₃, os⟩ ∧ B i m₂ ∧ h₃.Ns C m₂ ∧ St (i + 1) ⟨h₃, g₃, d, tk₃, os⟩ ∧ G g₁ g₃ ∧
        (∀ b o, b ≠ C → b ∉ wr → h'.get? b = some o → h₃.get? b = some o)) _ hlt hst' hn' fun h₃ g₃ tk₃ m₂ hB hn₃ hst₃ hg₃ hk₃ => ⟨h₃, g₃, tk₃, m₂, rfl, hB, hn₃, hst₃, hGt _ _ _ hg hg₃, hk₃⟩) (fun r s₁ h₁' => ?_) fun _ _ e => e
      obtain ⟨v, rfl, h₁'⟩ := h₁'
      refine wpAny_mono h₁' (fun _ s₁' h₂ => wpAny_mono h₂ (fun _ s₃ h₃ => ?_) fun _ _ e => e) fun _ _ e => e
      obtain ⟨h₃, g₃, tk₃, m₂, rfl, hB, hn₃, hst₃, hg₃, hk₃⟩ := h₃
      obtain ⟨oC, heC, hoC⟩ := ns_obj hn₃
      have F₃ : Fr h₀ L h₃ m := ⟨F'.ns.at' fun o e => hk₃ L o (Ne.symm hCL) hwL e, fun b o e => hk₃ b o (fun q => by rw [q, hC₀] at e; cases e) (fun hb => by rw [hw₀ b hb] at e; cases e) (F'.keep b o e), F'.above⟩
      have N₃ : News h₀ L h₃ ((D, lst ys) :: news) := fun p hp => ⟨hk₃ _ _ (by
        rcases List.mem_cons.mp hp with rfl | hp
        · exact hDC
        · exact offC p hp) (by
        rcases List.mem_cons.mp hp with rfl | hp
        · exact hDw
        · exact off p hp) (N' p hp).1, (N' p hp).2⟩
      -- the iterator's own objects onto the ledger
      have hits : ∃ its : List (Addr × Obj), its.map (·.1) = wr ∧ News h₀ L h₃ its := by
        have key : ∀ l : List Addr, (∀ b ∈ l, b ∈ wr) → ∃ its : List (Addr × Obj), its.map (·.1) = l ∧ News h₀ L h₃ its := by
          intro l
          induction l with
          | nil => exact fun _ => ⟨[], rfl, fun _ hp => nomatch hp⟩
          | cons b r ih =>
            intro hl
            obtain ⟨its, e, Ni⟩ := ih fun b hb => hl b (List.mem_cons_of_mem _ hb)
            have hbw := hl b (List.mem_cons_self ..)
            obtain ⟨o, ho⟩ := hwo _ _ hst₃ b hbw
            refine ⟨(b, o) :: its, by simp [e], fun p hp => ?_⟩
            rcases List.mem_cons.mp hp with rfl | hp
            · exact ⟨ho, fun q => hwL (q ▸ hbw), hw₀ _ hbw⟩
            · exact Ni p hp
        exact key wr fun _ h => h
      obtain ⟨its, hitw, Nits⟩ := hits
      have Nled : News h₀ L h₃ (its ++ (C, oC) :: (D, lst ys) :: news) := fun p hp => by
        rcases List.mem_append.mp hp with hp | hp
        · exact Nits p hp
        · rcases List.mem_cons.mp hp with rfl | hp
          · exact ⟨heC, hCL, hC₀⟩
          · exact N₃ p hp
      refine wpAny_mono (body i C oC m₂ ys _ h₃ g₃ tk₃ _ hlt hB hoC R' F₃ Nled (List.mem_append_right _ (List.mem_cons_self ..))
        (fun p hp => List.mem_append_right _ (List.mem_cons_of_mem _ (List.mem_cons_of_mem _ hp))) hst₃ (fun b hb => by rw [← hitw] at hb; obtain ⟨p, hp, rfl⟩ := List.mem_map.mp hb; exact ⟨p.2, List.mem_append_left _ hp⟩)) (fun ok s₄ h₄ => ?_) fun _ _ e => e
      have back : ∀ h₅ (tk₅ : Nat), Fr h₀ L h₅ m → News h₀ L h₅ (its ++ (C, oC) :: (D, lst ys) :: news) → St (i + 1) ⟨h₅, g₃, d, tk₅, os⟩ ∧ h₅.Ns C m₂ ∧ News h₀ L h₅ ((D, lst ys) :: news) := by
        intro h₅ tk₅ F₅ N₅
        refine ⟨W.frame (i + 1) ⟨h₃, g₃, d, tk₃, os⟩ h₅ tk₅ hst₃ (fun b hb o e => ?_), hoC.ns (N₅ (C, oC) (List.mem_append_right _ (List.mem_cons_self ..))).1, fun p hp => N₅ p (List.mem_append_right _ (List.mem_cons_of_mem _ hp))⟩
        replace e : h₃.get? b = some o := e
        by_cases hbw : b ∈ wr
        · rw [← hitw] at hbw
          obtain ⟨p, hp, rfl⟩ := List.mem_map.mp hbw
          have := (Nled p (List.mem_append_left _ hp)).1
          rw [e] at this
          cases this
          exact (N₅ p (List.mem_append_left _ hp)).1
        · obtain ⟨o', ho'⟩ := hsrc b hb hbw
          rcases ho' with ho' | ho'
          · have := F₃.keep b o' ho'
            rw [e] at this; cases this
            exact F₅.keep b _ ho'
          · have := (N₃ (b, o') (List.mem_cons_of_mem _ ho')).1
            rw [e] at this; cases this
            exact (N₅ (b, _) (List.mem_append_right _ (List.mem_cons_of_mem _ (List.mem_cons_of_mem _ ho')))).1
      cases ok with
      | false =>
        simp only [Bool.false_eq_true, if_false] at h₄ ⊢
        obtain ⟨h₅, tk₅, rfl, F₅, N₅, R₅⟩ := h₄
        obtain ⟨st₅, hn₅, Nd₅⟩ := back h₅ tk₅ F₅ N₅
        exact ⟨n + 1 - (i + 1), by omega, h₅, g₃, tk₅, i + 1, ys, m₂, rfl, hlt, rfl, by omega, st₅, hg₃, F₅, hn₅, Nd₅, R₅⟩
      | true =>
        simp only [if_true] at h₄ ⊢
        refine wpAny_mono h₄ (fun y s₅ h₅ => ?_) fun _ _ e => e
        obtain ⟨h₅, tk₅, rfl, F₅, N₅, R₅⟩ := h₅
        obtain ⟨st₅, hn₅, Nd₅⟩ := back h₅ tk₅ F₅ N₅
        have zD := (Nd₅ (D, lst ys) (List.mem_cons_self ..)).1
        refine append_at (hsz := by show ys.toArray.size ≤ sizeLine; rw [List.size_toArray]; omega) zD fun h₆ hs₆ hD₆ => ?_
        refine ⟨n + 1 - (i + 1), by omega, h₆, g₃, tk₅, i + 1, ys ++ [y], m₂, rfl, hlt, rfl, by rw [List.length_append, List.length_singleton]; omega,
          W.frame (i + 1) ⟨h₅, g₃, d, tk₅, os⟩ h₆ tk₅ st₅ (fun b hb o e => hs₆.extBut b o (fun q => hDf (q ▸ hb)) e), hg₃, F₅.change hs₆ hDL hD₀, hn₅.sameBut hs₆ (Ne.symm hDC), fun p hp => ?_, R₅⟩
        rcases List.mem_cons.mp hp with rfl | hp
        · exact ⟨hD₆.trans (congrArg some (lst_snoc ys y)), hDL, hD₀⟩
        · exact ⟨hs₆.extBut _ _ (offD p hp) (Nd₅ p (List.mem_cons_of_mem _ hp)).1, (Nd₅ p (List.mem_cons_of_mem _ hp)).2⟩
    · obtain rfl : i = n := Nat.le_antisymm hi (Nat.not_lt.mp hlt)
      refine wpAny_mono (W.done _ (fun s₃ => RR (.ok .next) s₃) _ hst' fun h₃ g₃ tk₃ hg₃ hk₃ => ?_) (fun r s₁ hr => by obtain ⟨rfl, hr⟩ := hr; exact hr) fun _ _ e => e
      refine hRR h₃ g₃ tk₃ m' ys R' ⟨F'.ns.at' fun o e => hk₃ L o hwL e, fun b o e => hk₃ b o (fun hb => by rw [hw₀ b hb] at e; cases e) (F'.keep b o e), F'.above⟩ (fun p hp => ⟨hk₃ _ _ (by
        rcases List.mem_cons.mp hp with rfl | hp
        · exact hDw
        · exact off p hp) (N' p hp).1, (N' p hp).2⟩) (hn'.at' fun o e => hk₃ _ o hCw e) (hGt _ _ _ hg hg₃)
end
end Mine
end
section
open PySem PySem.W PyProof.Rows PySem.Calls PyProof.Rows.LCg
namespace Mine
section
variable {prog : Program} {w : World} {A : Around} {E : Value → Shared → Prop} {h₀ : Heap} {L : Addr} {m : Str → Option Value} {env : Env}

theorem block_M {elt iter target : Expr} {ifs : List Expr} {scope : Scope} {cl : List (Str × Addr)} {pos : Pos} {s₂ : Shared} {I : Addr} {fp wr : List Addr} {n : Nat} {G : Array GenState → Array GenState → Prop}
    {B : Nat → (Str → Option Value) → Prop} {St : Nat → Shared → Prop} {news : List (Addr × Obj)} {Rel : Nat → List Value → Prop} {RR : Value → Addr → Result → Shared → Prop}
    (W : ∀ C, C ∉ fp → Src prog w A target (compEnvC scope cl C env) I fp wr G n B St)
    (hGr : ∀ a, G a a) (hGt : ∀ a b c, G a b → G b c → G a c)
    (hsub : ∀ b ∈ wr, b ∈ fp) (hsz : n ≤ sizeLine) (hwo : ∀ i s, St i s → ∀ b ∈ wr, ∃ o, s.heap.get? b = some o)
    (hcell : ∀ y ∈ scope.names, y.2 ≠ .cell) (hkind : scope.kind = .function) (hst : St 0 s₂) (hfp : ∀ b ∈ fp, b < s₂.heap.objs.size)
    (F : Fr h₀ L s₂.heap m) (N : News h₀ L s₂.heap news) (hwL : L ∉ wr) (hw₀ : ∀ b ∈ wr, h₀.get? b = none) (off : ∀ p ∈ news, p.1 ∉ wr)
    (hsrc : ∀ b ∈ fp, b ∉ wr → ∃ o, h₀.get? b = some o ∨ (b, o) ∈ news)
    (h0 : Rel 0 [])
    (body : ∀ i C oC m₂ ys led h g tk (E' : Value → Shared → Prop), i < n → B i m₂ → NsObj oC m₂ → Rel i ys → Fr h₀ L h m → News h₀ L h led → (C, oC) ∈ led → (∀ p ∈ news, p ∈ led) →
      wpAny (model prog w) A (forIn ifs true fun c r => if r = true then do let ok ← isTrue c (compEnvC scope cl C env) (eval c (compEnvC scope cl C env)); pure (ForInStep.yield ok) else pure (ForInStep.yield r))
        (fun ok s₃ => if ok = true then wpAny (model prog w) A (eval elt (compEnvC scope cl C env)) (fun y s₄ => MEnd h₀ L m led ⟨h, g, s₂.drawn, tk, s₂.os⟩ (Rel (i + 1) (ys ++ [y])) s₄) E' s₃
          else MEnd h₀ L m led ⟨h, g, s₂.drawn, tk, s₂.os⟩ (Rel (i + 1) ys) s₃) E' ⟨h, g, s₂.drawn, tk, s₂.os⟩)
    (hRR : ∀ D C h g tk m' ys, Rel n ys → Fr h₀ L h m → News h₀ L h ((D, lst ys) :: news) → (∀ p ∈ news, p.1 ≠ D) → h.Ns C m' → h₀.get? C = none → h₀.get? D = none → C ≠ L → D ≠ L → C ≠ D →
      (∀ p ∈ news, p.1 ≠ C) → G s₂.gens g → RR (.ref D) C (.ok .next) ⟨h, g, s₂.drawn, tk, s₂.os⟩) :
    wpAny (model prog w) A (newList []) (fun acc s₃ => wpAny (model prog w) A (newFunctionEnv scope env.globals cl [] env.qual none .none (some env)) (fun cenv s₄ =>
      codeAny (model prog w) A (.compStart (.ListComp elt [⟨target, iter, ifs, 0⟩] scope pos) 0 (.ref I) acc { cenv with scope := relabel scope env }) (RR acc cenv.locals) s₄) E s₃) E s₂ := by
  refine wpAny_newObj_type (wpAny_newFunctionEnv hcell (by intro y hy; simp at hy) (fun h₁ hns₁ hsb₁ => ?_) hkind)
  dsimp only at hns₁ hsb₁ ⊢
  generalize hH2 : s₂.heap.push { cls := .type "list", dict := none, data := .seq ([] : List Value).toArray } = H2 at hns₁ hsb₁ ⊢
  have hC : H2.objs.size = s₂.heap.objs.size + 1 := by rw [← hH2, Heap.size_push]
  have hDC : s₂.heap.objs.size ≠ H2.objs.size := by rw [hC]; exact Nat.ne_of_lt (Nat.lt_succ_self _)
  have below : ∀ b, b < s₂.heap.objs.size → b ≠ H2.objs.size ∧ b ≠ s₂.heap.objs.size := fun b hb => ⟨by rw [hC]; exact Nat.ne_of_lt (Nat.lt_succ_of_lt hb), Nat.ne_of_lt hb⟩
  have hDf : s₂.heap.objs.size ∉ fp := fun hm => Nat.lt_irrefl _ (hfp _ hm)
  have hCf : H2.objs.size ∉ fp := fun hm => by have := hfp _ hm; rw [hC] at this; exact Nat.lt_irrefl _ (Nat.lt_of_succ_lt this)
  have hDw : s₂.heap.objs.size ∉ wr := fun hm => hDf (hsub _ hm)
  have hCw : H2.objs.size ∉ wr := fun hm => hCf (hsub _ hm)
  have W := W _ hCf
  have old : ∀ b o, s₂.heap.get? b = some o → h₁.get? b = some o := fun b o e => hsb₁.extBut b o (below b (Heap.lt_size e)).1 (Heap.get?_push_of_some _ (hH2 ▸ Heap.get?_push_of_some _ e))
  have hacc : h₁.get? s₂.heap.objs.size = some (lst []) := hsb₁.extBut _ _ hDC (Heap.get?_push_of_some _ (hH2 ▸ Heap.get?_push_size _ rfl))
  have fresh : ∀ a, s₂.heap.objs.size ≤ a → s₂.heap.get? a = none := fun a ha => by
    cases e : s₂.heap.get? a with
    | none => rfl
    | some o' => exact absurd (Heap.lt_size e) (Nat.not_lt.mpr ha)
  have fresh₀ : ∀ a, s₂.heap.objs.size ≤ a → h₀.get? a = none := fun a ha => by
    cases e : h₀.get? a with
    | none => rfl
    | some o' => have := F.keep a o' e; rw [fresh a ha] at this; cases this
  have hD₀ : h₀.get? s₂.heap.objs.size = none := fresh₀ _ (Nat.le_refl _)
  have hC₀ : h₀.get? H2.objs.size = none := fresh₀ _ (by rw [hC]; exact Nat.le_succ _)
  have hLlt : L < s₂.heap.objs.size := F.ns.lt
  have hDL : s₂.heap.objs.size ≠ L := Ne.symm (below L hLlt).2
  have hCL : H2.objs.size ≠ L := Ne.symm (below L hLlt).1
  have offC : ∀ p ∈ news, p.1 ≠ H2.objs.size := fun p hp => (below _ (Heap.lt_size (N p hp).1)).1
  have offD : ∀ p ∈ news, p.1 ≠ s₂.heap.objs.size := fun p hp => (below _ (Heap.lt_size (N p hp).1)).2
  have loop : ∀ s₃ : Shared, s₃ = { s₂ with heap := h₁, toks := s₂.toks + ([] : List (Str × Value)).length } →
      codeAny (model prog w) A (.compLoop (.ListComp elt [⟨target, iter, ifs, 0⟩] scope pos) 0 (.ref I) (.ref s₂.heap.objs.size) (compEnvC scope cl H2.objs.size env))
        (RR (.ref s₂.heap.objs.size) H2.objs.size) s₃ := by
    rintro s₃ rfl
    refine loop_M W hGr hGt hsub hsz hwo hDf hCf hDC hDL hCL hD₀ hC₀ offC offD (W.frame 0 s₂ h₁ _ hst (fun b _ o e => old b o e)) (F.keeps old) (fun p hp => ?_) hns₁ hwL hw₀ off hsrc h0
      (fun i C oC m₂ ys led h g tk E' a1 a2 a3 a4 a5 a6 a7 a8 _ _ => body i C oC m₂ ys led h g tk E' a1 a2 a3 a4 a5 a6 a7 a8)
      (fun h g tk m' ys r F' N' n' g' => hRR _ _ h g tk m' ys r F' N' offD n' hC₀ hD₀ hCL hDL (Ne.symm hDC) offC g')
    rcases List.mem_cons.mp hp with rfl | hp
    · exact ⟨hacc, hDL, hD₀⟩
    · exact ⟨old _ _ (N p hp).1, (N p hp).2⟩
  exact codeAny_compStart_list (loop _ rfl) (W.self _ _ _ (W.frame 0 s₂ h₁ _ hst (fun b _ o e => old b o e)) (loop _ rfl))
end
end Mine
end
section
open PySem PySem.W PyProof.Rows PySem.Calls PyProof.Rows.LCg
namespace Mine

section
variable {prog : Program} {w : World} {A : Around} {E : Value → Shared → Prop} {h₀ : Heap} {L : Addr} {m : Str → Option Value} {env : Env}

theorem Src.name {x : Str} {px : Pos} {scope : Scope} {cl : List (Str × Addr)} {C I : Addr} {fp wr : List Addr} {n : Nat} {P : Nat → Value → Prop} {St : Nat → Heap → Prop}
    (W : Walks prog w A I fp wr n P St) (hkind : scope.kind = .function) (hx : scope.names.lookup x = some .local) (hC : C ∉ fp) :
    Src prog w A (.Name x px) (compEnvC scope cl C env) I fp wr (fun a b => b = a) n (fun i m₂ => ∃ v, P i v ∧ m₂ x = some v) (fun i s => St i s.heap) where
  frame := fun i s h' tk st hk => W.frame i s.heap h' st hk
  step := fun i s m' Q E hi st hn hQ => by
    have hCw : C ∉ wr := fun h => hC (W.sub _ h)
    refine W.item i s _ _ hi st fun v h₁ tk₁ hP st₁ hk₁ => ⟨v, rfl, ?_⟩
    refine wpAny_pure ?_
    refine wpAny_assign_Name (wpAny_storeName_local (lookup_relabel_local hx) (hn.at' fun o e => hk₁ _ o hCw e) (fun h₃ hn₃ hs₃ => ?_) (by simp [compEnvC, relabel, hkind]))
    refine hQ h₃ s.gens _ _ ⟨v, hP, by simp⟩ hn₃ ?_ rfl fun b o hbC hbw e => hs₃.extBut b o hbC (hk₁ b o hbw e)
    exact W.frame _ _ _ st₁ fun b hb o e => hs₃.extBut b o (fun q => hC (by have q' : b = C := q; rw [← q']; exact hb)) e
  done := fun s Q E st hQ => W.done s _ _ st fun h' tk hk => ⟨rfl, hQ h' s.gens tk rfl hk⟩
  self := fun s Q E st hQ => W.self 0 s Q E st hQ

theorem Src.pair {x y : Str} {px py tp : Pos} {k : Nat} {scope : Scope} {cl : List (Str × Addr)} {C I : Addr} {fp wr : List Addr} {n : Nat} {Pt : Nat → Array Value → Prop} {St : Nat → Heap → Prop} {Mid : Nat → Addr → Heap → Prop} {R : Nat → Value → Value → Prop}
    (W : WalksT prog w A I fp wr n Pt St Mid) (hh : A.handled = none) (hR : ∀ i vals, i < n → Pt i vals → ∃ a b, vals = #[a, b] ∧ R i a b) (hkind : scope.kind = .function) (hx : scope.names.lookup x = some .local) (hy : scope.names.lookup y = some .local) (hxy : x ≠ y) (hC : C ∉ fp) :
    Src prog w A (.Tuple [.Name x px, .Name y py] k tp) (compEnvC scope cl C env) I fp wr (fun a b => b = a) n (fun i m₂ => ∃ a b, R i a b ∧ m₂ x = some a ∧ m₂ y = some b) (fun i s => St i s.heap) where
  frame := fun i s h' tk st hk => W.frame i s.heap h' st hk
  step := fun i s m' Q E hi st hn hQ => by
    have hCw : C ∉ wr := fun h => hC (W.sub _ h)
    refine W.item i s _ _ hi st fun T vals h₁ tk₁ hP hTn hT hM hk₁ => ⟨_, rfl, ?_⟩
    obtain ⟨a, b, rfl, hab⟩ := hR i vals hi hP
    have hTw := W.apart i T h₁ hM
    refine W.go _ _ _ i T { s with heap := h₁, toks := tk₁ } _ _ hM fun h₂ st₂ hk₂ => ?_
    have hT₂ : h₂.IsTuple T #[a, b] := hT.at fun o e => hk₂ T o hTw e
    refine assign_Tuple_tuple hh hT₂ rfl rfl fun h₅ he => ?_
    have he' : ∀ b o, h₂.get? b = some o → h₅.get? b = some o := fun b o e => he b o (Nat.ne_of_lt (Heap.lt_size e)) e
    refine assignInOrder_cons (wpAny_assign_Name (wpAny_storeName_local (lookup_relabel_local hx) (((hn.at' fun o e => hk₁ _ o hCw e).at' fun o e => hk₂ _ o hCw e).at' fun o e => he' _ o e) (fun h₆ hn₆ hs₆ => ?_) (by simp [compEnvC, relabel, hkind])))
    refine assignInOrder_cons (wpAny_assign_Name (wpAny_storeName_local (lookup_relabel_local hy) hn₆ (fun h₃ hn₃ hs₃ => ?_) (by simp [compEnvC, relabel, hkind])))
    refine assignInOrder_nil ?_
    have old3 : ∀ b o, b ≠ C → h₂.get? b = some o → h₃.get? b = some o := fun b o hb e => hs₃.extBut b o hb (hs₆.extBut b o hb (he' b o e))
    refine hQ h₃ s.gens _ _ ⟨a, b, hab, by simp [hxy], by simp⟩ hn₃ ?_ rfl fun b o hbC hbw e => old3 b o hbC (hk₂ b o hbw (hk₁ b o hbw e))
    exact W.frame _ _ _ st₂ fun b hb o e => old3 b o (fun q => hC (by rw [← q]; exact hb)) e
  done := fun s Q E st hQ => W.done s _ _ st fun h' tk hk => ⟨rfl, hQ h' s.gens tk rfl hk⟩
  self := fun s Q E st hQ => W.self 0 s Q E st hQ

/-- What a comprehension's source must bring, at the state behind `iter(..)`. -/
def SrcM (prog : Program) (w : World) (A : Around) (h₀ : Heap) (L : Addr) (m : Str → Option Value) (env : Env) (target : Expr) (ifs : List Expr) (elt : Expr) (scope : Scope) (cl : List (Str × Addr))
    (Fin : Shared → Value → Heap → Array GenState → Nat → List (Addr × Obj) → Prop) (it : Value) (s₂ : Shared) : Prop :=
  ∃ (I : Addr) (fp wr : List Addr) (n : Nat) (G : Array GenState → Array GenState → Prop) (B : Nat → (Str → Option Value) → Prop) (St : Nat → Shared → Prop) (news : List (Addr × Obj)) (Rel : Nat → List Value → Prop),
    it = .ref I ∧ (∀ C, C ∉ fp → Src prog w A target (compEnvC scope cl C env) I fp wr G n B St) ∧ (∀ a, G a a) ∧ (∀ a b c, G a b → G b c → G a c) ∧
    (∀ b ∈ wr, b ∈ fp) ∧ n ≤ sizeLine ∧ (∀ i s, St i s → ∀ b ∈ wr, ∃ o, s.heap.get? b = some o) ∧ St 0 s₂ ∧ (∀ b ∈ fp, b < s₂.heap.objs.size) ∧
    Fr h₀ L s₂.heap m ∧ News h₀ L s₂.heap news ∧ L ∉ wr ∧ (∀ b ∈ wr, h₀.get? b = none) ∧ (∀ p ∈ news, p.1 ∉ wr) ∧ (∀ b ∈ fp, b ∉ wr → ∃ o, h₀.get? b = some o ∨ (b, o) ∈ news) ∧ Rel 0 [] ∧
    (∀ i C oC m₂ ys led h g tk (E' : Value → Shared → Prop), i < n → B i m₂ → NsObj oC m₂ → Rel i ys → Fr h₀ L h m → News h₀ L h led → (C, oC) ∈ led → (∀ p ∈ news, p ∈ led) →
      wpAny (model prog w) A (forIn ifs true fun c r => if r = true then do let ok ← isTrue c (compEnvC scope cl C env) (eval c (compEnvC scope cl C env)); pure (ForInStep.yield ok) else pure (ForInStep.yield r))
        (fun ok s₃ => if ok = true then wpAny (model prog w) A (eval elt (compEnvC scope cl C env)) (fun y s₄ => MEnd h₀ L m led ⟨h, g, s₂.drawn, tk, s₂.os⟩ (Rel (i + 1) (ys ++ [y])) s₄) E' s₃
          else MEnd h₀ L m led ⟨h, g, s₂.drawn, tk, s₂.os⟩ (Rel (i + 1) ys) s₃) E' ⟨h, g, s₂.drawn, tk, s₂.os⟩) ∧
    (∀ D h g tk ys, Rel n ys → Fr h₀ L h m → News h₀ L h ((D, lst ys) :: news) → (∀ p ∈ news, p.1 ≠ D) → h₀.get? D = none → D ≠ L → G s₂.gens g → Fin s₂ (.ref D) h g tk ((D, lst ys) :: news))

theorem SrcM.block {elt iter target : Expr} {ifs : List Expr} {scope : Scope} {cl : List (Str × Addr)} {pos : Pos} {s₂ : Shared} {it : Value} {Fin : Shared → Value → Heap → Array GenState → Nat → List (Addr × Obj) → Prop} {RR : Value → Addr → Result → Shared → Prop}
    (h₂ : SrcM prog w A h₀ L m env target ifs elt scope cl Fin it s₂) (hcell : ∀ y ∈ scope.names, y.2 ≠ .cell) (hkind : scope.kind = .function)
    (hRR : ∀ D C h' g tk m' o news, Fr h₀ L h' m → News h₀ L h' ((D, o) :: news) → h'.Ns C m' → h₀.get? C = none → C ≠ L → (∀ p ∈ (D, o) :: news, p.1 ≠ C) →
      (∀ h'' tk'', Fr h₀ L h'' m → News h₀ L h'' ((D, o) :: news) → Fin s₂ (.ref D) h'' g tk'' ((D, o) :: news)) → RR (.ref D) C (.ok .next) ⟨h', g, s₂.drawn, tk, s₂.os⟩) :
    wpAny (model prog w) A (newList []) (fun acc s₃ => wpAny (model prog w) A (newFunctionEnv scope env.globals cl [] env.qual none .none (some env)) (fun cenv s₄ =>
      codeAny (model prog w) A (.compStart (.ListComp elt [⟨target, iter, ifs, 0⟩] scope pos) 0 it acc { cenv with scope := relabel scope env }) (RR acc cenv.locals) s₄) E s₃) E s₂ := by
  obtain ⟨I, fp, wr, n, G, B, St, news, Rel, rfl, W, hGr, hGt, hsub, hsz, hwo, hst, hfp, F, N, hwL, hw₀, off, hsrc, h0, body, fin⟩ := h₂
  refine block_M W hGr hGt hsub hsz hwo hcell hkind hst hfp F N hwL hw₀ off hsrc h0 body ?_
  intro D C h g tk m' ys R' F' N' offD hn hC₀ hD₀ hCL hDL hCD offC hg
  refine hRR D C h g tk m' _ _ F' N' hn hC₀ hCL (fun p hp => ?_) fun h'' tk'' F'' N'' => fin D h'' g tk'' ys R' F'' N'' offD hD₀ hDL hg
  rcases List.mem_cons.mp hp with rfl | hp
  · exact Ne.symm hCD
  · exact offC p hp

theorem ListComp_M {elt iter target : Expr} {ifs : List Expr} {scope : Scope} {cl : List (Str × Addr)} {pos : Pos} {s : Shared} {Q : Value → Shared → Prop} (F₀ : Fr h₀ L s.heap m)
    (hclos : closureFor scope env = pure cl) (hcell : ∀ y ∈ scope.names, y.2 ≠ .cell) (hkind : scope.kind = .function)
    (hnames : ∀ y ∈ scope.names, y.2 = .local → scope.names.lookup y.1 = some .local)
    (h : wpAny (model prog w) A (eval iter env) (fun xv s₁ => wpAny (model prog w) A (pyIter xv) (SrcM prog w A h₀ L m env target ifs elt scope cl
      (fun s₂ v h g tk led => Fr h₀ L h m → News h₀ L h led → Q v ⟨h, g, s₂.drawn, tk, s₂.os⟩)) E s₁) E s)
    (hs : ∀ x, foldedSetIterable iter env x = pure x := by intro _; rfl) :
    wpAny (model prog w) A (eval (.ListComp elt [⟨target, iter, ifs, 0⟩] scope pos) env) Q E s := by
  rw [eval_ListComp]
  refine wpAny_comprehension_free (use := none) rfl hs hclos hkind hnames (wpAny_mono h (fun xv s₁ h₁ => wpAny_mono h₁ (fun it s₂ h₂ => ?_) fun _ _ e => e) fun _ _ e => e)
  refine SrcM.block h₂ hcell hkind fun D C h g tk m' o news F' N' hn hC₀ hCL offC fin => ?_
  refine ⟨m', hn, fun h'' hs'' => ?_⟩
  have N'' : News h₀ L h'' ((D, o) :: news) := fun p hp => ⟨hs''.extBut _ _ (offC p hp) (N' p hp).1, (N' p hp).2⟩
  have F'' := F'.change hs'' hCL hC₀
  exact fin h'' _ F'' N'' F'' N''

theorem Assign_ListComp_M {elt iter target : Expr} {ifs : List Expr} {y : Str} {py : Pos} {scope : Scope} {cl : List (Str × Addr)} {pos spos : Pos} {s : Shared} {Q : Flow → Shared → Prop} (F₀ : Fr h₀ L s.heap m) (hLe : env.locals = L)
    (hsw : swapsWith (.ListComp elt [⟨target, iter, ifs, 0⟩] scope pos) (some (.Name y py)) spos.line env = pure true)
    (hclos : closureFor scope env = pure cl) (hcell : ∀ z ∈ scope.names, z.2 ≠ .cell) (hkind : scope.kind = .function)
    (hnames : ∀ z ∈ scope.names, z.2 = .local → scope.names.lookup z.1 = some .local)
    (hy : env.kindOf y = some .local) (hp : (env.scope.kind == .class || (env.scope.kind == .module && env.locals != env.globals)) = false)
    (h : wpAny (model prog w) A (eval iter env) (fun xv s₁ => wpAny (model prog w) A (pyIter xv) (SrcM prog w A h₀ L m env target ifs elt scope cl
      (fun s₂ v h g tk led => ∀ h' tk', Fr h₀ L h' (fun z => if z = y then some v else m z) → News h₀ L h' led → Q .next ⟨h', g, s₂.drawn, tk', s₂.os⟩)) E s₁) E s)
    (hs : ∀ x, foldedSetIterable iter env x = pure x := by intro _; rfl) :
    wpAny (model prog w) A (exec (.Assign [.Name y py] (.ListComp elt [⟨target, iter, ifs, 0⟩] scope pos) spos) env) Q E s := by
  subst hLe
  rw [exec_Assign_Name_used _ _ _ _ hsw]
  refine wpAny_bind (wpAny_standAt (wpAny_bind ?_))
  show wpAny _ A (do let _ ← comprehension (.ListComp elt [⟨target, iter, ifs, 0⟩] scope pos) scope env _ (newList []) false (eval iter env) (some (assign (.Name y py) env))) _ _ s
  refine wpAny_bind (wpAny_mono (wpAny_comprehension_free (use := some (assign (.Name y py) env)) (Q := fun _ s' => Q .next s') rfl hs hclos hkind hnames
    (wpAny_mono h (fun xv s₁ h₁ => wpAny_mono h₁ (fun it s₂ h₂ => ?_) fun _ _ e => e) fun _ _ e => e)) (fun _ s' hq => wpAny_pure (wpAny_pure hq)) fun _ _ e => e)
  refine SrcM.block h₂ hcell hkind fun D C h' g tk m' o news F' N' hn hC₀ hCL offC fin => ?_
  show wpAny _ A (assign (.Name y py) env (.ref D)) _ _ _
  refine wpAny_assign_Name (wpAny_storeName_local hy F'.ns (fun h₂ hn₂ hs₂ => ?_) hp)
  have hL₀ : h₀.get? env.locals = none := Heap.get?_none_of_le F'.above
  have F₂ : Fr h₀ env.locals h₂ (fun z => if z = y then some (.ref D) else m z) := ⟨hn₂, fun b o e => hs₂.extBut b o (fun q => by rw [q, hL₀] at e; cases e) (F'.keep b o e), F'.above⟩
  refine ⟨m', hn.sameBut hs₂ hCL, fun h'' hs'' => ?_⟩
  have N'' : News h₀ env.locals h'' ((D, o) :: news) := fun p hp => ⟨hs''.extBut _ _ (offC p hp) (hs₂.extBut _ _ (N' p hp).2.1 (N' p hp).1), (N' p hp).2⟩
  exact fin h' tk F' N' h'' _ (F₂.change hs'' hCL hC₀) N''
end
end Mine
end
section
open PySem PySem.W PyProof.Rows PySem.Calls PyProof.Rows.LCg
namespace Mine

section
variable {prog : Program} {w : World} {A : Around} {E : Value → Shared → Prop} {h₀ : Heap} {L : Addr} {m : Str → Option Value} {env : Env}

abbrev BodyM (prog : Program) (w : World) (A : Around) (h₀ : Heap) (L : Addr) (m : Str → Option Value) (env : Env) (ifs : List Expr) (elt : Expr) (scope : Scope) (cl : List (Str × Addr)) (news : List (Addr × Obj)) (d : Drawn) (os : OsState)
    (n : Nat) (B : Nat → (Str → Option Value) → Prop) (Rel : Nat → List Value → Prop) : Prop :=
  ∀ i C oC m₂ ys led h g tk (E' : Value → Shared → Prop), i < n → B i m₂ → NsObj oC m₂ → Rel i ys → Fr h₀ L h m → News h₀ L h led → (C, oC) ∈ led → (∀ p ∈ news, p ∈ led) →
      wpAny (model prog w) A (forIn ifs true fun c r => if r = true then do let ok ← isTrue c (compEnvC scope cl C env) (eval c (compEnvC scope cl C env)); pure (ForInStep.yield ok) else pure (ForInStep.yield r))
        (fun ok s₃ => if ok = true then wpAny (model prog w) A (eval elt (compEnvC scope cl C env)) (fun y s₄ => MEnd h₀ L m led ⟨h, g, d, tk, os⟩ (Rel (i + 1) (ys ++ [y])) s₄) E' s₃
          else MEnd h₀ L m led ⟨h, g, d, tk, os⟩ (Rel (i + 1) ys) s₃) E' ⟨h, g, d, tk, os⟩

abbrev FinM (h₀ : Heap) (L : Addr) (m : Str → Option Value) (s : Shared) (Fin : Shared → Value → Heap → Array GenState → Nat → List (Addr × Obj) → Prop) (n : Nat) (Rel : Nat → List Value → Prop) (news : List (Addr × Obj)) : Prop :=
  ∀ hx D h tk ys, Rel n ys → Fr h₀ L h m → News h₀ L h ((D, lst ys) :: news) → (∀ p ∈ news, p.1 ≠ D) → h₀.get? D = none → D ≠ L → Fin { s with heap := hx } (.ref D) h s.gens tk ((D, lst ys) :: news)

theorem fresh₀ {h : Heap} (F : Fr h₀ L h m) {a : Addr} (ha : h.objs.size ≤ a) : h₀.get? a = none := by
  cases e : h₀.get? a with
  | none => rfl
  | some o' => exact absurd (Heap.lt_size (F.keep a o' e)) (Nat.not_lt.mpr ha)

theorem srcM_name {x : Str} {px : Pos} {ifs : List Expr} {elt : Expr} {scope : Scope} {cl : List (Str × Addr)} {Fin : Shared → Value → Heap → Array GenState → Nat → List (Addr × Obj) → Prop} {s : Shared} {hp hx : Heap} {news : List (Addr × Obj)} {Rel : Nat → List Value → Prop}
    {I : Addr} {fp wr : List Addr} {n : Nat} {P : Nat → Value → Prop} {St : Nat → Heap → Prop}
    (W : Walks prog w A I fp wr n P St) (hkind : scope.kind = .function) (hx' : scope.names.lookup x = some .local) (hsz : n ≤ sizeLine) (hwo : ∀ i h, St i h → ∀ b ∈ wr, ∃ o, h.get? b = some o) (hst : St 0 hx) (hfp : ∀ b ∈ fp, b < hx.objs.size)
    (F : Fr h₀ L hp m) (N : News h₀ L hp news) (up : ∀ b o, hp.get? b = some o → hx.get? b = some o) (hnew : ∀ b ∈ wr, hp.objs.size ≤ b) (hsrc : ∀ b ∈ fp, b ∉ wr → ∃ o, h₀.get? b = some o ∨ (b, o) ∈ news)
    (h0 : Rel 0 []) (body : BodyM prog w A h₀ L m env ifs elt scope cl news s.drawn s.os n (fun i m₂ => ∃ v, P i v ∧ m₂ x = some v) Rel) (fin : FinM h₀ L m s Fin n Rel news) :
    SrcM prog w A h₀ L m env (.Name x px) ifs elt scope cl Fin (.ref I) { s with heap := hx } := by
  refine ⟨I, fp, wr, n, fun a b => b = a, _, fun i s => St i s.heap, news, Rel, rfl, fun C hC => Src.name W hkind hx' hC, fun _ => rfl, fun _ _ _ a b => b.trans a, W.sub, hsz, fun i s st => hwo i s.heap st, hst, hfp,
    F.keeps up, N.grown up, fun hL => Nat.lt_irrefl _ (Nat.lt_of_lt_of_le F.ns.lt (hnew _ hL)), fun b hb => fresh₀ F (hnew b hb), fun p hp hb => Nat.lt_irrefl _ (Nat.lt_of_lt_of_le (Heap.lt_size (N p hp).1) (hnew _ hb)), hsrc, h0, body, ?_⟩
  intro D h g tk ys R F' N' off hD hDL hg
  subst hg
  exact fin hx D h tk ys R F' N' off hD hDL

theorem srcM_pair {x y : Str} {px py tp : Pos} {k : Nat} {ifs : List Expr} {elt : Expr} {scope : Scope} {cl : List (Str × Addr)} {Fin : Shared → Value → Heap → Array GenState → Nat → List (Addr × Obj) → Prop} {s : Shared} {hp hx : Heap} {news : List (Addr × Obj)} {Rel : Nat → List Value → Prop}
    {I : Addr} {fp wr : List Addr} {n : Nat} {Pt : Nat → Array Value → Prop} {St : Nat → Heap → Prop} {Mid : Nat → Addr → Heap → Prop} {R : Nat → Value → Value → Prop}
    (W : WalksT prog w A I fp wr n Pt St Mid) (hh : A.handled = none) (hR : ∀ i vals, i < n → Pt i vals → ∃ a b, vals = #[a, b] ∧ R i a b) (hkind : scope.kind = .function) (hx' : scope.names.lookup x = some .local) (hy' : scope.names.lookup y = some .local) (hxy : x ≠ y)
    (hsz : n ≤ sizeLine) (hwo : ∀ i h, St i h → ∀ b ∈ wr, ∃ o, h.get? b = some o) (hst : St 0 hx) (hfp : ∀ b ∈ fp, b < hx.objs.size)
    (F : Fr h₀ L hp m) (N : News h₀ L hp news) (up : ∀ b o, hp.get? b = some o → hx.get? b = some o) (hnew : ∀ b ∈ wr, hp.objs.size ≤ b) (hsrc : ∀ b ∈ fp, b ∉ wr → (∃ o, h₀.get? b = some o ∨ (b, o) ∈ news))
    (h0 : Rel 0 []) (body : BodyM prog w A h₀ L m env ifs elt scope cl news s.drawn s.os n (fun i m₂ => ∃ a b, R i a b ∧ m₂ x = some a ∧ m₂ y = some b) Rel) (fin : FinM h₀ L m s Fin n Rel news) :
    SrcM prog w A h₀ L m env (.Tuple [.Name x px, .Name y py] k tp) ifs elt scope cl Fin (.ref I) { s with heap := hx } := by
  refine ⟨I, fp, wr, n, fun a b => b = a, _, fun i s => St i s.heap, news, Rel, rfl, fun C hC => Src.pair W hh hR hkind hx' hy' hxy hC, fun _ => rfl, fun _ _ _ a b => b.trans a, W.sub, hsz, fun i s st => hwo i s.heap st, hst, hfp,
    F.keeps up, N.grown up, fun hL => Nat.lt_irrefl _ (Nat.lt_of_lt_of_le F.ns.lt (hnew _ hL)), fun b hb => fresh₀ F (hnew b hb), fun p hp hb => Nat.lt_irrefl _ (Nat.lt_of_lt_of_le (Heap.lt_size (N p hp).1) (hnew _ hb)), hsrc, h0, body, ?_⟩
  intro D h g tk ys R F' N' off hD hDL hg
  subst hg
  exact fin hx D h tk ys R F' N' off hD hDL

-- a list
theorem iter_list_M {x : Str} {px : Pos} {ifs : List Expr} {elt : Expr} {scope : Scope} {cl : List (Str × Addr)} {Fin : Shared → Value → Heap → Array GenState → Nat → List (Addr × Obj) → Prop} {s : Shared} {news : List (Addr × Obj)} {Rel : Nat → List Value → Prop} {ax : Addr} {its : Array Value}
    (hh : A.handled = none) (F : Fr h₀ L s.heap m) (N : News h₀ L s.heap news) (S : SrcAt h₀ ax its news) (hkind : scope.kind = .function) (hx : scope.names.lookup x = some .local) (hsz : its.size ≤ sizeLine) (h0 : Rel 0 [])
    (body : BodyM prog w A h₀ L m env ifs elt scope cl news s.drawn s.os its.size (fun i m₂ => ∃ v, its[i]? = some v ∧ m₂ x = some v) Rel) (fin : FinM h₀ L m s Fin its.size Rel news) :
    wpAny (model prog w) A (pyIter (.ref ax)) (SrcM prog w A h₀ L m env (.Name x px) ifs elt scope cl Fin) E s := by
  have hl := S.list F.keep N
  have hlt : ax < s.heap.objs.size := by obtain ⟨_, e, _⟩ := hl; exact Heap.lt_size e
  refine wpAny_pyIter_list hl ?_
  have up : ∀ b o, s.heap.get? b = some o → (s.heap.push { cls := .type "list_iterator", data := .fields #[.ref ax, .int 0 0] }).get? b = some o := fun b o e => Heap.get?_push_of_some _ e
  refine srcM_name (Walks.list hh s.heap.objs.size ax (Nat.ne_of_lt hlt) its) hkind hx hsz (fun i h st b hb => ?_) ⟨⟨_, Heap.get?_push_size _ rfl, rfl, rfl⟩, hl.push _⟩ (fun b hb => ?_) F N up (fun b hb => ?_) (fun b hb hbw => ?_) h0 body fin
  · rw [List.mem_singleton.mp hb]; obtain ⟨o, e, _⟩ := st.1; exact ⟨o, e⟩
  · rw [Heap.size_push]
    rcases List.mem_cons.mp hb with rfl | hb
    · exact Nat.lt_succ_self _
    · rw [List.mem_singleton.mp hb]; exact Nat.lt_succ_of_lt hlt
  · rw [List.mem_singleton.mp hb]; exact Nat.le_refl _
  · rcases List.mem_cons.mp hb with rfl | hb
    · exact absurd (List.mem_singleton.mpr rfl) hbw
    · rw [List.mem_singleton.mp hb]
      rcases S with ⟨o, e, _⟩ | ⟨o, e, _⟩
      · exact ⟨o, .inl e⟩
      · exact ⟨o, .inr e⟩

-- a range by ones
theorem iter_range_M {x : Str} {px : Pos} {ifs : List Expr} {elt : Expr} {scope : Scope} {cl : List (Str × Addr)} {Fin : Shared → Value → Heap → Array GenState → Nat → List (Addr × Obj) → Prop} {s : Shared} {news : List (Addr × Obj)} {Rel : Nat → List Value → Prop} {r : Addr} {a b : Int} {t u v : Tok} {n : Nat}
    (hh : A.handled = none) (F : Fr h₀ L s.heap m) (N : News h₀ L s.heap news) (hr : IsRange s.heap r a b 1 t u v) (hsm : Builtin.Range.small a b 1 = true) (hn : Builtin.Range.rangeSize a b 1 = ((n : Nat) : Int)) (hkind : scope.kind = .function) (hx : scope.names.lookup x = some .local) (hsz : n ≤ sizeLine) (h0 : Rel 0 [])
    (body : BodyM prog w A h₀ L m env ifs elt scope cl news s.drawn s.os n (fun i m₂ => ∃ v, (∃ t, v = .int (a + (i : Int)) t) ∧ m₂ x = some v) Rel) (fin : FinM h₀ L m s Fin n Rel news) :
    wpAny (model prog w) A (pyIter (.ref r)) (SrcM prog w A h₀ L m env (.Name x px) ifs elt scope cl Fin) E s := by
  refine wpAny_pyIter_range hr hsm ?_
  refine srcM_name (range_walks hh a n) hkind hx hsz (fun i h st b hb => ?_) (by show IsRangeIter _ _ _ _ _; rw [hn]; simpa using Heap.get?_push_size _ rfl) (fun b hb => ?_) F N (fun b o e => Heap.get?_push_of_some _ e) (fun b hb => ?_) (fun b hb hbw => ?_) h0 body fin
  · rw [List.mem_singleton.mp hb]; exact ⟨_, st⟩
  · rw [List.mem_singleton.mp hb, Heap.size_push]; exact Nat.lt_succ_self _
  · rw [List.mem_singleton.mp hb]; exact Nat.le_refl _
  · exact absurd hb hbw

-- a text
theorem iter_str_M {x : Str} {px : Pos} {ifs : List Expr} {elt : Expr} {scope : Scope} {cl : List (Str × Addr)} {Fin : Shared → Value → Heap → Array GenState → Nat → List (Addr × Obj) → Prop} {s : Shared} {news : List (Addr × Obj)} {Rel : Nat → List Value → Prop} {z : Str} {t : Tok}
    (ha : z.cps.all (· < 128) = true) (hh : A.handled = none) (F : Fr h₀ L s.heap m) (N : News h₀ L s.heap news) (hkind : scope.kind = .function) (hx : scope.names.lookup x = some .local) (hsz : z.cps.size ≤ sizeLine) (h0 : Rel 0 [])
    (body : BodyM prog w A h₀ L m env ifs elt scope cl news s.drawn s.os z.cps.size (fun i m₂ => ∃ v, SignAt z i v ∧ m₂ x = some v) Rel) (fin : FinM h₀ L m s Fin z.cps.size Rel news) :
    wpAny (model prog w) A (pyIter (.str z t)) (SrcM prog w A h₀ L m env (.Name x px) ifs elt scope cl Fin) E s := by
  refine wpAny_pyIter_ascii ha ?_
  refine srcM_name (Walks.strAscii hh s.heap.objs.size z t) hkind hx hsz (fun i h st b hb => ?_) ⟨_, Heap.get?_push_size _ rfl, rfl, rfl⟩ (fun b hb => ?_) F N (fun b o e => Heap.get?_push_of_some _ e) (fun b hb => ?_) (fun b hb hbw => ?_) h0 body fin
  · rw [List.mem_singleton.mp hb]; obtain ⟨o, e, _⟩ := st; exact ⟨o, e⟩
  · rw [List.mem_singleton.mp hb, Heap.size_push]; exact Nat.lt_succ_self _
  · rw [List.mem_singleton.mp hb]; exact Nat.le_refl _
  · exact absurd hb hbw

-- enumerate over a text
theorem enum_str_M {x y : Str} {px py tp : Pos} {k : Nat} {ifs : List Expr} {elt : Expr} {scope : Scope} {cl : List (Str × Addr)} {Fin : Shared → Value → Heap → Array GenState → Nat → List (Addr × Obj) → Prop} {s : Shared} {news : List (Addr × Obj)} {Rel : Nat → List Value → Prop} {z : Str} {t : Tok}
    (ha : z.cps.all (· < 128) = true) (hh : A.handled = none) (F : Fr h₀ L s.heap m) (N : News h₀ L s.heap news) (hkind : scope.kind = .function) (hx : scope.names.lookup x = some .local) (hy : scope.names.lookup y = some .local) (hxy : x ≠ y) (hsz : z.cps.size ≤ sizeLine) (h0 : Rel 0 [])
    (body : BodyM prog w A h₀ L m env ifs elt scope cl news s.drawn s.os z.cps.size (fun i m₂ => ∃ a b, (∃ t c u, a = .int i t ∧ z.cps[i]? = some c ∧ b = .str ⟨#[c]⟩ u) ∧ m₂ x = some a ∧ m₂ y = some b) Rel) (fin : FinM h₀ L m s Fin z.cps.size Rel news) :
    wpAny (model prog w) A (call (.type "enumerate") [.str z t]) (fun xv s₁ => wpAny (model prog w) A (pyIter xv) (SrcM prog w A h₀ L m env (.Tuple [.Name x px, .Name y py] k tp) ifs elt scope cl Fin) E s₁) E s := by
  refine call_enumerate_str fun h' he hi hz hk => ?_
  refine wpAny_pyIter_enum he ?_
  rw [show strIterType z = "str_ascii_iterator" from by simp only [strIterType, ha, if_true]] at hi
  refine srcM_pair (s := s) (hp := s.heap) (WalksT.enumerateD (Draws.strAscii (A := A.in1) hh s.heap.objs.size z t) (s.heap.objs.size + 1) (Nat.succ_ne_self _) (by simp) (by simp)) hh (R := fun i a b => ∃ t c u, a = .int i t ∧ z.cps[i]? = some c ∧ b = .str ⟨#[c]⟩ u)
    (fun i vals _ hp => ?_) hkind hx hy hxy hsz (fun i h st b hb => ?_) ⟨⟨_, he⟩, hi⟩ (fun b hb => ?_) F N hk (fun b hb => ?_) (fun b hb hbw => ?_) h0 body fin
  · obtain ⟨t, _, ⟨c, u, hc, rfl⟩, rfl⟩ := hp
    exact ⟨_, _, rfl, t, c, u, rfl, hc, rfl⟩
  · rcases List.mem_cons.mp hb with rfl | hb
    · exact ⟨_, st.1.choose_spec⟩
    · rw [List.mem_singleton.mp hb]; obtain ⟨o, e, _⟩ := st.2; exact ⟨o, e⟩
  · rw [hz]
    rcases List.mem_cons.mp hb with rfl | hb
    · exact Nat.lt_succ_self _
    · rw [List.mem_singleton.mp hb]; exact Nat.lt_succ_of_lt (Nat.lt_succ_self _)
  · rcases List.mem_cons.mp hb with rfl | hb
    · exact Nat.le_succ _
    · rw [List.mem_singleton.mp hb]; exact Nat.le_refl _
  · exact absurd hb hbw

-- enumerate over a list
theorem enum_list_M {x y : Str} {px py tp : Pos} {k : Nat} {ifs : List Expr} {elt : Expr} {scope : Scope} {cl : List (Str × Addr)} {Fin : Shared → Value → Heap → Array GenState → Nat → List (Addr × Obj) → Prop} {s : Shared} {news : List (Addr × Obj)} {Rel : Nat → List Value → Prop} {l : Addr} {its : Array Value}
    (hh : A.handled = none) (F : Fr h₀ L s.heap m) (N : News h₀ L s.heap news) (S : SrcAt h₀ l its news) (hkind : scope.kind = .function) (hx : scope.names.lookup x = some .local) (hy : scope.names.lookup y = some .local) (hxy : x ≠ y) (hsz : its.size ≤ sizeLine) (h0 : Rel 0 [])
    (body : BodyM prog w A h₀ L m env ifs elt scope cl news s.drawn s.os its.size (fun i m₂ => ∃ a b, (∃ t, a = .int i t ∧ its[i]? = some b) ∧ m₂ x = some a ∧ m₂ y = some b) Rel) (fin : FinM h₀ L m s Fin its.size Rel news) :
    wpAny (model prog w) A (call (.type "enumerate") [.ref l]) (fun xv s₁ => wpAny (model prog w) A (pyIter xv) (SrcM prog w A h₀ L m env (.Tuple [.Name x px, .Name y py] k tp) ifs elt scope cl Fin) E s₁) E s := by
  have hl := S.list F.keep N
  have hlt : l < s.heap.objs.size := by obtain ⟨_, e, _⟩ := hl; exact Heap.lt_size e
  refine call_enumerate_list hl fun h' he hi hz hk => ?_
  refine wpAny_pyIter_enum he ?_
  refine srcM_pair (s := s) (hp := s.heap) (WalksT.enumerateD (Draws.list (A := A.in1) hh s.heap.objs.size l (Nat.ne_of_lt hlt) its) (s.heap.objs.size + 1) (Nat.succ_ne_self _) (by simp only [List.mem_cons, List.not_mem_nil, or_false, not_or]; exact ⟨Nat.succ_ne_self _, Nat.ne_of_gt (Nat.lt_succ_of_lt hlt)⟩) (by simp)) hh (R := fun i a b => ∃ t, a = .int i t ∧ its[i]? = some b)
    (fun i vals _ hp => ?_) hkind hx hy hxy hsz (fun i h st b hb => ?_) ⟨⟨_, he⟩, hi, hl.at fun o e => hk _ o e⟩ (fun b hb => ?_) F N hk (fun b hb => ?_) (fun b hb hbw => ?_) h0 body fin
  · obtain ⟨t, v, hv, rfl⟩ := hp
    exact ⟨_, _, rfl, t, rfl, hv⟩
  · rcases List.mem_cons.mp hb with rfl | hb
    · exact ⟨_, st.1.choose_spec⟩
    · rw [List.mem_singleton.mp hb]; obtain ⟨o, e, _⟩ := st.2.1; exact ⟨o, e⟩
  · rw [hz]
    rcases List.mem_cons.mp hb with rfl | hb
    · exact Nat.lt_succ_self _
    · rcases List.mem_cons.mp hb with rfl | hb
      · exact Nat.lt_succ_of_lt (Nat.lt_succ_self _)
      · rw [List.mem_singleton.mp hb]; exact Nat.lt_succ_of_lt (Nat.lt_succ_of_lt hlt)
  · rcases List.mem_cons.mp hb with rfl | hb
    · exact Nat.le_succ _
    · rw [List.mem_singleton.mp hb]; exact Nat.le_refl _
  · rcases List.mem_cons.mp hb with rfl | hb
    · exact absurd (List.mem_cons_self ..) hbw
    · rcases List.mem_cons.mp hb with rfl | hb
      · exact absurd (List.mem_cons_of_mem _ (List.mem_singleton.mpr rfl)) hbw
      · rw [List.mem_singleton.mp hb]
        rcases S with ⟨o, e, _⟩ | ⟨o, e, _⟩
        · exact ⟨o, .inl e⟩
        · exact ⟨o, .inr e⟩
end
end Mine
end
section
open PySem PySem.W PyProof.Rows PySem.Calls PyProof.Rows.LCg
namespace Mine

/-- A text by its signs' numbers. -/
def tx (l : List Nat) : Str := ⟨l.toArray⟩
theorem tx_cps (l : List Nat) : (tx l).cps.toList = l := rfl
theorem tx_length (l : List Nat) : (tx l).length = l.length := by show l.toArray.size = _; simp
theorem tx_append (a b : List Nat) : tx a ++ tx b = tx (a ++ b) := by
  show Str.mk (a.toArray ++ b.toArray) = Str.mk (a ++ b).toArray
  simp

theorem join_tx : ∀ l : List (List Nat), Str.join (Str.ofString "") (l.map tx) = tx l.flatten
  | [] => rfl
  | [a] => by simp [Str.join]
  | a :: b :: r => by
    have ih := join_tx (b :: r)
    have e : Str.ofString "" = tx [] := by decide
    show tx a ++ Str.ofString "" ++ Str.join (Str.ofString "") ((b :: r).map tx) = _
    rw [ih, e, tx_append, tx_append, List.append_nil, List.flatten_cons]
    rfl

theorem strs_snoc {vs : List Value} {ys : List Str} {y : Str} {t : Tok} : StrsAre vs ys → StrsAre (vs ++ [.str y t]) (ys ++ [y]) := by
  intro h
  induction h with
  | nil => exact .cons y t .nil
  | cons z u r ih => exact .cons z u ih
theorem ints_snoc {vs : List Value} {ns : List Int} {k : Int} {t : Tok} (h : IntsAre vs ns) : IntsAre (vs ++ [.int k t]) (ns ++ [k]) := by
  induction h with
  | nil => exact .cons k t .nil
  | cons a b c ih => first | exact .cons _ _ ih | exact .cons ih

section
variable {prog : Program} {w : World} {A : Around} {E : Value → Shared → Prop} {s : Shared} {t : Tok} {Q : Value → Shared → Prop}
theorem join_M {D : Addr} {items : List Value} {ys : List (List Nat)} (hl : s.heap.IsList D items.toArray) (hi : StrsAre items (ys.map tx)) (hw : (ys.map (·.length)).sum + ys.length ≤ 1048576)
    (h : ∀ t' k, Q (.str (tx ys.flatten) t') { s with toks := k }) : wpAny (model prog w) A (call (.builtin "str.join") [.str (Str.ofString "") t, .ref D]) Q E s := by
  refine join_listW hl (by simpa using hi) (by decide) ?_ fun t' k => ?_
  · rw [List.map_map, List.length_map]
    have : ys.map (Str.length ∘ tx) = ys.map (·.length) := List.map_congr_left fun a _ => tx_length a
    rw [this]; exact hw
  · have e : Txt.join (Str.ofString "") (ys.map tx) = tx ys.flatten := by
      show Builtin.Str.glued (Str.ofString "") (ys.map tx) = _
      rw [StrLaws.glued_eq_join, join_tx]
    rw [e]; exact h t' k
end
end Mine
end
section
open PySem PySem.W PySem.W.X PyProof.Rows PySem.Calls PyProof.Rows.LCg
namespace Mine
section
variable {prog : Program} {w : World} {A : Around} {c : Code} {fs : List Frame} {P : End → Shared → Prop} {s : Shared} {env : Env} {K : Flow → Sem Fin} {H : Value → Sem Fin} {gd : Bool → Bool} {lv : List Value → List Value}

theorem sx_wrap {α : Type} {m : Sem α} {K : α → Sem Fin} {H : Value → Sem Fin} (h : wpAny (model prog w) (A.over c fs) m (fun a s' => SegX (model prog w) A c (K a) fs s' P) (fun x s' => SegX (model prog w) A c (H x) fs s' P) s) :
    SegX (model prog w) A c (m.wrap K H gd lv) fs s P := by
  rintro Γ p rfl hΓ
  obtain ⟨e, s', hr, hq⟩ := runs_wrap_of_wp (Φ := fun e s' => e.quiet = true ∧ P e s') K H gd lv m (h (Γ.over fs) p (hΓ.over fs)) (fun a p' s' h' => h' Γ p' rfl hΓ) (fun x p' s' h' => h' Γ p' rfl hΓ)
  exact ⟨e, s', hr, hq⟩
theorem sx_at {p' : Pos} {k : Unit → Sem Fin} (h : SegX (model prog w) A c (k ()) fs s P) : SegX (model prog w) A c (.at p' k) fs s P :=
  sx_wrap (m := standAt p') (K := k) (H := .raise) (gd := id) (lv := id) (wpAny_standAt h)
theorem sx_point {l : List Value} {k : Unit → Sem Fin} (h : SegX (model prog w) A c (k ()) fs s P) : SegX (model prog w) A c (.point l k) fs s P :=
  sx_wrap (m := point) (K := k) (H := .raise) (gd := id) (lv := fun _ => l) (wpAny_point h)
theorem sx_bind_wrap {α β : Type} {m : Sem α} {K : α → Sem β} {K' : β → Sem Fin} {H' : Value → Sem Fin}
    (h : wpAny (model prog w) (A.over c fs) m (fun a s' => SegX (model prog w) A c ((K a).wrap K' H' gd lv) fs s' P) (fun x s' => SegX (model prog w) A c (H' x) fs s' P) s) : SegX (model prog w) A c ((m >>= K).wrap K' H' gd lv) fs s P := by
  rw [Sem.bind_eq_wrap', Sem.wrap_wrap]; exact sx_wrap h

theorem sx_execs_nil (h : SegX (model prog w) A c (K .next) fs s P) : SegX (model prog w) A c ((execs [] env).wrap K H gd lv) fs s P := h
theorem sx_execs_cons {st : Stmt} {rest : List Stmt}
    (h : SegX (model prog w) A c ((exec st env).wrap (fun f => match f with | .next => (execs rest env).wrap K H gd lv | f => K f) H gd lv) fs s P) :
    SegX (model prog w) A c ((execs (st :: rest) env).wrap K H gd lv) fs s P := by rw [execs_cons_wrap]; exact h
theorem sx_If {test : Expr} {body orelse : List Stmt} {pos : Pos}
    (h : wpAny (model prog w) (A.over c fs) (isTrue test env (eval test env)) (fun b s' => if b = true then SegX (model prog w) A c ((execs body env).wrap K H gd lv) fs s' P else SegX (model prog w) A c ((execs orelse env).wrap K H gd lv) fs s' P)
      (fun x s' => SegX (model prog w) A c (H x) fs s' P) s) :
    SegX (model prog w) A c ((exec (.If test body orelse pos) env).wrap K H gd lv) fs s P := by
  rw [exec_If]
  refine sx_bind_wrap (wpAny_standAt ?_)
  refine sx_bind_wrap (wpAny_mono h (fun b s' hb => ?_) fun _ _ x => x)
  cases b with
  | true => exact hb
  | false => exact hb
theorem sx_Expr_Yield {e : Expr} {ypos pos : Pos} (hfs : splitAtGen fs = none) (hgd : gd false = false) (hfg : fs.any Frame.guarded = false)
    (h : wpAny (model prog w) (A.over c fs) (eval e env) (fun v s' => ∀ (l : List Value) (kk : Resume → Sem Fin) (p : Pos), (kk (.send .none) = K .next) → P (.susp v false l kk c p fs) s')
      (fun x s' => SegX (model prog w) A c (H x) fs s' P) s) (hco : env.scope.isCoroutine = false := by rfl) (hi : interactive env = false := by rfl) :
    SegX (model prog w) A c ((exec (.Expr (.Yield (some e) ypos) pos) env).wrap K H gd lv) fs s P := by
  rw [exec_Expr env _ pos hi rfl]
  show SegX (model prog w) A c (.at pos fun _ => ((eval e env >>= fun v => (standAt ypos >>= fun _ => yieldOut env v)) >>= fun x =>
    dropValue (.Yield (some e) ypos) pos x).wrap K H gd lv) fs s P
  have hy : ∀ v, yieldOut env v = yieldValue v := fun v => by simp only [yieldOut, hco, Bool.false_eq_true, if_false]
  simp only [hy]
  refine sx_at ?_
  rw [Sem.bind_eq_wrap', Sem.bind_eq_wrap', Sem.wrap_wrap, Sem.wrap_wrap]
  refine sx_wrap (wpAny_mono h (fun v s' h' => ?_) fun _ _ x => x)
  refine sx_at ?_
  show SegX (model prog w) A c (.yield v (gd false) (lv []) _) fs s' P
  rw [hgd]
  exact s_yield prog w A c fs P s' v (lv []) _ hfs hfg fun p => h' _ _ p rfl
theorem sx_func {body : List Stmt}
    (h : SegX (model prog w) A (.func body env) ((execs body env).wrap (fun f => .pure (.done (.ret (match f with | .ret v => v | _ => .none))))
      (fun e => (leaving env e).wrap (fun _ => .raise e) .raise id id) id id) fs s P) :
    SegX (model prog w) A (.func body env) ((model prog w).den (.func body env)) fs s P := by
  show SegX _ A _ (.point [] fun _ => ((execs body env).onRaise (leaving env)) >>= _) fs s P
  refine sx_point ?_
  rw [Sem.onRaise_eq_wrap, Sem.bind_eq_wrap', Sem.wrap_wrap]
  rw [Sem.wrap_congr (execs body env) _ _ (K' := fun f => .pure (.done (.ret (match f with | .ret v => v | _ => .none))))
    (H' := fun e => (leaving env e).wrap (fun _ => .raise e) .raise id id) (fun f => by cases f <;> rfl)
    (fun e => by rw [Sem.bind_eq_wrap, Sem.wrap_wrap]; rfl)]
  exact h
def kOwn (env : Env) (K : Flow → Sem Fin) (H : Value → Sem Fin) (gd : Bool → Bool) (lv : List Value → List Value) (r : Result) : Sem Fin :=
  ((match r with | .ok f => (.pure f : Sem Flow) | .error e => .raise e).onRaise fun (x : Value) => do
        if (← field x 1) == Value.none then unsupported "frame.own-activation:exception-without-traceback"
        setFlight x env.frame).wrap K H gd lv
theorem sx_For {target iter : Expr} {body orelse : List Stmt} {pos : Pos}
    (h : wpAny (model prog w) (A.over c fs) (eval iter env) (fun x s₁ => wpAny (model prog w) (A.over c fs) (pyIter x) (fun it s₂ => ∀ p,
      SegX (model prog w) A (.forLoop target it body orelse env) ((model prog w).den (.forLoop target it body orelse env)) (.ret (kOwn env K H gd lv) none (gd false) (lv []) c p [] :: fs) s₂ P)
        (fun x s' => SegX (model prog w) A c (H x) fs s' P) s₁) (fun x s' => SegX (model prog w) A c (H x) fs s' P) s)
    (hs : ∀ x, foldedSetIterable iter env x = pure x := by intro _; rfl) :
    SegX (model prog w) A c ((exec (.For target iter body orelse pos) env).wrap K H gd lv) fs s P := by
  rw [exec_For]
  refine sx_bind_wrap (wpAny_standAt ?_)
  refine sx_bind_wrap (wpAny_mono h (fun x s₁ h₁ => ?_) fun _ _ e => e)
  refine sx_bind_wrap (wpAny_of_eq (hs x) ?_)
  refine sx_bind_wrap (wpAny_standAt ?_)
  refine sx_bind_wrap (wpAny_holding (wpAny_mono h₁ (fun it s₂ h₂ => ?_) fun _ _ e => e))
  exact s_call prog w A c fs P s₂ _ _ _ _ _ h₂
def kTurn (target : Expr) (it : Value) (body orelse : List Stmt) (env : Env) (f : Flow) : Sem Fin := match f with
  | .next | .cont => .pure (.again (.forLoop target it body orelse env))
  | .brk => .pure (.done .next)
  | .ret v => .pure (.done (.ret v))
def hTurn (env : Env) (e : Value) : Sem Fin := (do noteFrame e env; theTreesLotGoes e : Sem Unit).wrap (fun _ => .raise e) .raise id id
theorem sx_forLoop {target : Expr} {it : Value} {body : List Stmt}
    (h : wpAny (model prog w) (A.over (.forLoop target it body [] env) fs) (pyNext it) (fun r s₁ => match r with
        | none => SegX (model prog w) A (.block [] env) (.pure (.done .next)) fs s₁ P
        | some v => wpAny (model prog w) (A.over (.forLoop target it body [] env) fs) (letOwnedTupleGo target it v) (fun _ s₂ => wpAny (model prog w) (A.over (.forLoop target it body [] env) fs) (assign target env v) (fun _ s₃ =>
            SegX (model prog w) A (.forLoop target it body [] env) ((execs body env).wrap (kTurn target it body [] env) (hTurn env) id id) fs s₃ P) (fun _ _ => False) s₂) (fun _ _ => False) s₁) (fun _ _ => False) s) :
    SegX (model prog w) A (.forLoop target it body [] env) ((model prog w).den (.forLoop target it body [] env)) fs s P := by
  show SegX _ A _ ((forTurn target it body [] env).onRaise (fun x => do noteFrame x env; theTreesLotGoes x)) fs s P
  unfold forTurn
  rw [Sem.onRaise_eq_wrap]
  refine sx_bind_wrap (wpAny_standAt ?_)
  refine sx_bind_wrap (wpAny_onRaise (wpAny_mono h (fun r s₁ h₁ => ?_) fun _ _ e => e.elim))
  cases r with
  | none =>
    refine s_again prog w A _ fs P s₁ _ rfl ?_
    exact h₁
  | some v =>
    refine sx_bind_wrap (wpAny_mono h₁ (fun _ s₂ h₂ => ?_) fun _ _ e => e.elim)
    refine sx_bind_wrap (wpAny_mono h₂ (fun _ s₃ h₃ => ?_) fun _ _ e => e.elim)
    show SegX _ A _ ((execs body env >>= _).wrap _ _ _ _) fs s₃ P
    rw [Sem.bind_eq_wrap', Sem.wrap_wrap]
    rw [Sem.wrap_congr (execs body env) _ _ (K' := kTurn target it body [] env) (H' := hTurn env) (fun f => by cases f <;> rfl)
      (fun e => by first | exact Sem.bind_eq_wrap _ _ | (show (do noteFrame e env; theTreesLotGoes e : Sem Unit).bind (fun _ => .raise e) = _; rw [Sem.bind_eq_wrap]; rfl))]
    exact h₃
end
end Mine
end
section
open PySem PySem.W PySem.W.X PyProof.Rows PySem.Calls PyProof.Rows.LCg
namespace Mine

section
variable {prog : Program} {w : World} {A : Around} {E : Value → Shared → Prop} {s : Shared}

theorem wpAny_resume_gx {α : Type} {Q : α → Shared → Prop} {g : Nat} {gs : GenState} {l : List Value} {k : GenResult → Sem α} {c₀ : Code} {t₀ : Sem Fin} {fs₀ : List Frame} (hg : s.gens[g]? = some gs)
    (hgs : (gs = .fresh c₀ ∧ t₀ = denote table c₀ ∧ fs₀ = []) ∨ (∃ k₀ l₀ p₀ cl, gs = .suspended k₀ l₀ c₀ p₀ fs₀ cl ∧ t₀ = k₀ (.send .none)))
    (x : SegX (model prog w) A c₀ t₀ fs₀ (s.setGen g .running) (fun e s₁ => wpAny (model prog w) A (k e.result) Q E (s₁.setGen g e.genState))) : wpAny (model prog w) A (.resume g (.send .none) l k) Q E s := by
  intro Γ p hΓ
  refine wake_any (c₀ := c₀) (t₀ := t₀) (fs₀ := fs₀) α prog w hg ?_ (fun Γ => Γ.In A) (fun _ h => h) (x.mono fun e s₁ h Γ p hC => h Γ p hC) Γ p hΓ
  rcases hgs with ⟨a, b, c⟩ | ⟨k₀, l₀, p₀, cl, a, b⟩
  · exact .inl ⟨a, rfl, b, c⟩
  · exact .inr ⟨k₀, l₀, p₀, cl, a, b⟩

end
end Mine
end
section
open PySem PySem.W PyProof.Rows PySem.Calls PyProof.Rows.LCg
namespace Mine
section
variable {prog : Program} {w : World} {A : Around} {E : Value → Shared → Prop} {h₀ : Heap} {L : Addr} {m : Str → Option Value} {env : Env}
def CellSt (I l K : Addr) (its : Array Value) (i : Nat) (s : Shared) : Prop := (s.heap.IsListIter I l i ∧ s.heap.IsList l its) ∧ ∃ vo, s.heap.IsCell K vo ∧ (0 < i → vo = its[i - 1]?)
theorem push_at {h : Heap} {o : Obj} {n : Nat} (hn : h.objs.size = n) (ho : o.isFreed = false) : (h.push o).get? n = some o := by
  rw [← hn]; exact Heap.get?_push_size _ ho
theorem Src.cell {x : Str} {px : Pos} {scope : Scope} {cl : List (Str × Addr)} {C I l K : Addr} {its : Array Value} (hh : A.handled = none) (hIl : l ≠ I) (hKI : K ≠ I) (hKl : K ≠ l) (hCK : C ≠ K) (hCI : C ≠ I)
    (hkind : scope.kind = .function) (hx : (relabel scope env).names.lookup x = some .cell) :
    Src prog w A (.Name x px) (compEnvC scope ((x, K) :: cl) C env) I [I, l, K] [I, K] (fun a b => b = a) its.size (fun _ _ => True) (CellSt I l K its) where
  frame := fun i s h' tk st hk => by
    obtain ⟨st1, vo, hc, hv⟩ := st
    exact ⟨⟨st1.1.at fun o e => hk I (by simp) o e, st1.2.at fun o e => hk l (by simp) o e⟩, vo, (by obtain ⟨o, e, d⟩ := hc; exact ⟨o, hk K (by simp) o e, d⟩), hv⟩
  step := fun i s m' Q E hi st hn hQ => by
    obtain ⟨st1, vo, hc, hv⟩ := st
    refine (Walks.list hh I l hIl its).item i s _ _ hi st1 fun v h₁ tk₁ hP st₁ hk₁ => ⟨v, rfl, ?_⟩
    refine wpAny_pure ?_
    have hc1 : h₁.IsCell K vo := by obtain ⟨o, e, d⟩ := hc; exact ⟨o, hk₁ K o (by simpa using hKI) e, d⟩
    refine wpAny_assign_Name (wpAny_storeName_cell (c := K) (v₀ := vo) (by exact hkind) hx (by simp [compEnvC]) hc1 fun h₃ hc₃ hs₃ => ?_)
    have old3 : ∀ b o, b ≠ I → b ≠ K → s.heap.get? b = some o → h₃.get? b = some o := fun b o hbI hbK e => hs₃.extBut b o hbK (hk₁ b o (by simpa using hbI) e)
    refine hQ h₃ s.gens _ m' trivial (hn.at' fun o e => old3 C o hCI hCK e) ?_ rfl fun b o hbC hbw e => old3 b o (fun q => hbw (by simp [q])) (fun q => hbw (by simp [q])) e
    exact ⟨⟨st₁.1.at fun o e => hs₃.extBut I o (Ne.symm hKI) e, st₁.2.at fun o e => hs₃.extBut l o (Ne.symm hKl) e⟩, some v, hc₃, fun _ => by rw [Nat.add_sub_cancel]; exact hP.symm⟩
  done := fun s Q E st hQ => (Walks.list hh I l hIl its).done s _ _ st.1 fun h' tk hk => ⟨rfl, hQ h' s.gens tk rfl fun b o hb e => hk b o (fun q => hb (by simp at q; simp [q])) e⟩
  self := fun s Q E st hQ => (Walks.list hh I l hIl its).self 0 s Q E st.1 hQ

/-- What a comprehension over a written list, its name in a cell, must bring. -/
def SrcK (prog : Program) (w : World) (A : Around) (h₀ : Heap) (L : Addr) (m : Str → Option Value) (env : Env) (x : Str) (ifs : List Expr) (elt : Expr) (scope : Scope) (cl : List (Str × Addr))
    (Fin : Shared → Value → Heap → Array GenState → Nat → List (Addr × Obj) → Prop) (it : Value) (s₂ : Shared) : Prop :=
  ∃ (I l : Addr) (lo : Obj) (its : Array Value) (ep : Nat) (news : List (Addr × Obj)) (Rel : Nat → List Value → Prop), it = .ref I ∧ l ≠ I ∧ s₂.heap.IsListIter I l 0 ∧ (l, lo) ∈ news ∧ lo.cls = .type "list" ∧ lo.data = .seq its ep ∧ its.size ≤ sizeLine ∧
    Fr h₀ L s₂.heap m ∧ News h₀ L s₂.heap news ∧ I ≠ L ∧ h₀.get? I = none ∧ (∀ p ∈ news, p.1 ≠ I) ∧ Rel 0 [] ∧
    (∀ i v C K oC oK m₂ ys led h g tk (E' : Value → Shared → Prop), its[i]? = some v → NsObj oC m₂ → oK.data = .cell (some v) → (K, oK) ∈ led → Rel i ys → Fr h₀ L h m → News h₀ L h led → (C, oC) ∈ led → (∀ p ∈ news, p ∈ led) →
      wpAny (model prog w) A (forIn ifs true fun c r => if r = true then do let ok ← isTrue c (compEnvC scope ((x, K) :: cl) C env) (eval c (compEnvC scope ((x, K) :: cl) C env)); pure (ForInStep.yield ok) else pure (ForInStep.yield r))
        (fun ok s₃ => if ok = true then wpAny (model prog w) A (eval elt (compEnvC scope ((x, K) :: cl) C env)) (fun y s₄ => MEnd h₀ L m led ⟨h, g, s₂.drawn, tk, s₂.os⟩ (Rel (i + 1) (ys ++ [y])) s₄) E' s₃
          else MEnd h₀ L m led ⟨h, g, s₂.drawn, tk, s₂.os⟩ (Rel (i + 1) ys) s₃) E' ⟨h, g, s₂.drawn, tk, s₂.os⟩) ∧
    (∀ D h tk ys, Rel its.size ys → Fr h₀ L h m → News h₀ L h ((D, lst ys) :: news) → (∀ p ∈ news, p.1 ≠ D) → h₀.get? D = none → D ≠ L → Fin s₂ (.ref D) h s₂.gens tk ((D, lst ys) :: news))

theorem block_K {elt iter : Expr} {x : Str} {px : Pos} {ifs : List Expr} {scope : Scope} {cl : List (Str × Addr)} {pos : Pos} {s₂ : Shared} {I l : Addr} {lo : Obj} {its : Array Value} {ep : Nat} {news : List (Addr × Obj)} {Rel : Nat → List Value → Prop} {RR : Value → Addr → Result → Shared → Prop}
    (hh : A.handled = none) (hcf : ∀ n, cellsFrom n scope.names cl = (x, n) :: cl) (hpc : ∀ h, pushCells h scope.names = h.push { cls := .type "cell", data := .cell none }) (hkind : scope.kind = .function) (hx : (relabel scope env).names.lookup x = some .cell)
    (hlI : l ≠ I) (hI : s₂.heap.IsListIter I l 0) (hlm : (l, lo) ∈ news) (hlc : lo.cls = .type "list") (hld : lo.data = .seq its ep) (hsz : its.size ≤ sizeLine)
    (F : Fr h₀ L s₂.heap m) (N : News h₀ L s₂.heap news) (hIL : I ≠ L) (hI₀ : h₀.get? I = none) (off : ∀ p ∈ news, p.1 ≠ I) (h0 : Rel 0 [])
    (body : ∀ i v C K oC oK m₂ ys led h g tk (E' : Value → Shared → Prop), its[i]? = some v → NsObj oC m₂ → oK.data = .cell (some v) → (K, oK) ∈ led → Rel i ys → Fr h₀ L h m → News h₀ L h led → (C, oC) ∈ led → (∀ p ∈ news, p ∈ led) →
      wpAny (model prog w) A (forIn ifs true fun c r => if r = true then do let ok ← isTrue c (compEnvC scope ((x, K) :: cl) C env) (eval c (compEnvC scope ((x, K) :: cl) C env)); pure (ForInStep.yield ok) else pure (ForInStep.yield r))
        (fun ok s₃ => if ok = true then wpAny (model prog w) A (eval elt (compEnvC scope ((x, K) :: cl) C env)) (fun y s₄ => MEnd h₀ L m led ⟨h, g, s₂.drawn, tk, s₂.os⟩ (Rel (i + 1) (ys ++ [y])) s₄) E' s₃
          else MEnd h₀ L m led ⟨h, g, s₂.drawn, tk, s₂.os⟩ (Rel (i + 1) ys) s₃) E' ⟨h, g, s₂.drawn, tk, s₂.os⟩)
    (hRR : ∀ D C h tk m' ys, Rel its.size ys → Fr h₀ L h m → News h₀ L h ((D, lst ys) :: news) → (∀ p ∈ news, p.1 ≠ D) → h.Ns C m' → h₀.get? C = none → h₀.get? D = none → C ≠ L → D ≠ L → C ≠ D →
      (∀ p ∈ news, p.1 ≠ C) → RR (.ref D) C (.ok .next) ⟨h, s₂.gens, s₂.drawn, tk, s₂.os⟩) :
    wpAny (model prog w) A (newList []) (fun acc s₃ => wpAny (model prog w) A (newFunctionEnv scope env.globals cl [] env.qual none .none (some env)) (fun cenv s₄ =>
      codeAny (model prog w) A (.compStart (.ListComp elt [⟨.Name x px, iter, ifs, 0⟩] scope pos) 0 (.ref I) acc { cenv with scope := relabel scope env }) (RR acc cenv.locals) s₄) E s₃) E s₂ := by
  refine wpAny_newObj_type ?_
  simp only [newFunctionEnv, Option.isSome_some, if_true]
  refine wpAny_bind (wpAny_alloc ?_)
  refine wpAny_bind (wpAny_layCells _ (fun name kind cells => by cases hkc : kind == NameKind.cell <;> simp) _ _ _ _ ?_)
  rw [hcf, hpc]
  rw [List.forIn_nil]
  refine wpAny_bind (wpAny_pure (wpAny_pure ?_))
  dsimp only
  have hCs : ∀ o : Obj, (s₂.heap.push o).objs.size = s₂.heap.objs.size + 1 := fun o => Heap.size_push _ _
  have hKs : ∀ o o' : Obj, ((s₂.heap.push o).push o').objs.size = s₂.heap.objs.size + 2 := fun o o' => by rw [Heap.size_push, Heap.size_push]
  generalize hH : ((s₂.heap.push { cls := .type "list", data := .seq #[] }).push { cls := .type "dict", data := .dict #[] }).push { cls := .type "cell", data := .cell none } = h₁
  have hacc : h₁.get? s₂.heap.objs.size = some (lst []) := by rw [← hH]; exact Heap.get?_push_of_some _ (Heap.get?_push_of_some _ (Heap.get?_push_size _ rfl))
  have hns : h₁.Ns (s₂.heap.objs.size + 1) (fun _ => none) := by
    rw [← hH]
    exact ⟨_, #[], 0, Heap.get?_push_of_some _ (push_at (hCs _) rfl), rfl, fun e he => by simp at he, fun _ => rfl⟩
  have hKc : h₁.IsCell (s₂.heap.objs.size + 2) none := by
    rw [← hH]
    exact ⟨_, push_at (hKs _ _) rfl, rfl⟩
  have old : ∀ b o, s₂.heap.get? b = some o → h₁.get? b = some o := fun b o e => by rw [← hH]; exact Heap.get?_push_of_some _ (Heap.get?_push_of_some _ (Heap.get?_push_of_some _ e))
  rw [hKs, hCs]
  have fr₀ : ∀ a, s₂.heap.objs.size ≤ a → h₀.get? a = none := fun a ha => fresh₀ F ha
  have lt₂ : ∀ b o, s₂.heap.get? b = some o → b < s₂.heap.objs.size := fun b o e => Heap.lt_size e
  have hLlt : L < s₂.heap.objs.size := F.ns.lt
  have hIlt : I < s₂.heap.objs.size := by obtain ⟨o, e, _⟩ := hI; exact lt₂ _ _ e
  have hllt : l < s₂.heap.objs.size := lt₂ _ _ (N _ hlm).1
  have hnlt : ∀ p ∈ news, p.1 < s₂.heap.objs.size := fun p hp => lt₂ _ _ (N p hp).1
  have hlist : s₂.heap.IsList l its := ⟨_, (N _ hlm).1, hlc, _, hld⟩
  generalize s₂.heap.objs.size = D at *
  have nlt : ∀ {b k : Nat}, b < D → b ≠ D + k := fun {b k} h => by omega
  have loop : codeAny (model prog w) A (.compLoop (.ListComp elt [⟨.Name x px, iter, ifs, 0⟩] scope pos) 0 (.ref I) (.ref D) (compEnvC scope ((x, D + 2) :: cl) (D + 1) env)) (RR (.ref D) (D + 1)) ⟨h₁, s₂.gens, s₂.drawn, s₂.toks, s₂.os⟩ := by
    refine loop_M (Src.cell (its := its) (l := l) hh hlI (nlt (k := 2) hIlt).symm (nlt (k := 2) hllt).symm (show D + 1 ≠ D + 2 by omega) (nlt (k := 1) hIlt).symm hkind hx) (fun _ => rfl) (fun _ _ _ a b => b.trans a) (by simp) hsz (fun i s st b hb => ?_)
      (D := D) (C := D + 1) (news := news) (Rel := Rel) ?_ ?_ (show D ≠ D + 1 by omega) (nlt (k := 0) hLlt).symm (nlt (k := 1) hLlt).symm (fr₀ _ (Nat.le_refl _)) (fr₀ _ (Nat.le_add_right _ _)) (fun p hp => nlt (k := 1) (hnlt p hp)) (fun p hp => nlt (k := 0) (hnlt p hp))
      ⟨⟨hI.at fun o e => old I o e, hlist.at fun o e => old l o e⟩, none, hKc, fun h => absurd h (Nat.lt_irrefl _)⟩ (F.keeps old) (fun p hp => ?_) hns ?_ (fun b hb => ?_) (fun p hp hb => ?_) (fun b hb hbw => ?_) h0 ?_ ?_
    · obtain ⟨st1, vo, hc, _⟩ := st
      rcases List.mem_cons.mp hb with rfl | hb
      · obtain ⟨o, e, _⟩ := st1.1; exact ⟨o, e⟩
      · rw [List.mem_singleton.mp hb]; obtain ⟨o, e, _⟩ := hc; exact ⟨o, e⟩
    · intro hb
      rcases List.mem_cons.mp hb with rfl | hb
      · exact Nat.lt_irrefl _ hIlt
      rcases List.mem_cons.mp hb with rfl | hb
      · exact Nat.lt_irrefl _ hllt
      · exact absurd (List.mem_singleton.mp hb) (by show D ≠ D + 2; omega)
    · intro hb
      rcases List.mem_cons.mp hb with hb | hb
      · exact nlt (k := 1) hIlt hb.symm
      rcases List.mem_cons.mp hb with hb | hb
      · exact nlt (k := 1) hllt hb.symm
      · exact absurd (List.mem_singleton.mp hb) (by show D + 1 ≠ D + 2; omega)
    · rcases List.mem_cons.mp hp with rfl | hp
      · exact ⟨hacc, (nlt (k := 0) hLlt).symm, fr₀ _ (Nat.le_refl _)⟩
      · exact ⟨old _ _ (N p hp).1, (N p hp).2⟩
    · intro hb
      rcases List.mem_cons.mp hb with hb | hb
      · exact hIL hb.symm
      · exact nlt (k := 2) hLlt (List.mem_singleton.mp hb)
    · rcases List.mem_cons.mp hb with rfl | hb
      · exact hI₀
      · rw [List.mem_singleton.mp hb]; exact fr₀ _ (Nat.le_add_right _ _)
    · rcases List.mem_cons.mp hb with hb | hb
      · exact off p hp hb
      · exact nlt (k := 2) (hnlt p hp) (List.mem_singleton.mp hb)
    · rcases List.mem_cons.mp hb with rfl | hb
      · exact absurd (List.mem_cons_self ..) hbw
      rcases List.mem_cons.mp hb with rfl | hb
      · exact ⟨lo, .inr hlm⟩
      · exact absurd (List.mem_cons_of_mem _ hb) hbw
    · intro i C oC m₂ ys led h g tk E' hi _ hoC hR F' N' hC hsub st hwr
      obtain ⟨_, vo, hc, hv⟩ := st
      have hv := hv (Nat.succ_pos _)
      rw [Nat.add_sub_cancel] at hv
      obtain ⟨oK, hKm⟩ := hwr (D + 2) (List.mem_cons_of_mem _ (List.mem_cons_self ..))
      obtain ⟨o, e, hd⟩ := hc
      have e2 := (N' _ hKm).1
      replace e : h.get? (D + 2) = some o := e
      rw [e] at e2
      cases e2
      have hiv : its[i]? = some its[i] := Array.getElem?_eq_getElem hi
      rw [hv, hiv] at hd
      exact body i _ C (D + 2) oC oK m₂ ys led h g tk E' hiv hoC hd hKm hR F' N' hC hsub
    · intro h g tk m' ys R' F' N' hn hg
      rw [hg]
      exact hRR D (D + 1) h tk m' ys R' F' N' (fun p hp => nlt (k := 0) (hnlt p hp)) hn (fr₀ _ (Nat.le_add_right _ _)) (fr₀ _ (Nat.le_refl _)) (nlt (k := 1) hLlt).symm (nlt (k := 0) hLlt).symm (show D + 1 ≠ D by omega) (fun p hp => nlt (k := 1) (hnlt p hp))
  exact codeAny_compStart_list loop ((Walks.list hh I l hlI its).self 0 _ _ _ ⟨hI.at fun o e => old I o e, hlist.at fun o e => old l o e⟩ loop)
theorem Assign_ListComp_K {elt iter : Expr} {x : Str} {px : Pos} {ifs : List Expr} {y : Str} {py : Pos} {scope : Scope} {cl : List (Str × Addr)} {pos spos : Pos} {s : Shared} {Q : Flow → Shared → Prop} (F₀ : Fr h₀ L s.heap m) (hLe : env.locals = L) (hh : A.handled = none)
    (hsw : swapsWith (.ListComp elt [⟨.Name x px, iter, ifs, 0⟩] scope pos) (some (.Name y py)) spos.line env = pure true)
    (hclos : closureFor scope env = pure cl) (hcf : ∀ n, cellsFrom n scope.names cl = (x, n) :: cl) (hpc : ∀ h, pushCells h scope.names = h.push { cls := .type "cell", data := .cell none }) (hkind : scope.kind = .function) (hx : (relabel scope env).names.lookup x = some .cell)
    (hnames : ∀ z ∈ scope.names, z.2 = .local → scope.names.lookup z.1 = some .local)
    (hy : env.kindOf y = some .local) (hp : (env.scope.kind == .class || (env.scope.kind == .module && env.locals != env.globals)) = false)
    (h : wpAny (model prog w) A (eval iter env) (fun xv s₁ => wpAny (model prog w) A (pyIter xv) (SrcK prog w A h₀ L m env x ifs elt scope cl
      (fun s₂ v h g tk led => ∀ h' tk', Fr h₀ L h' (fun z => if z = y then some v else m z) → News h₀ L h' led → Q .next ⟨h', g, s₂.drawn, tk', s₂.os⟩)) E s₁) E s)
    (hs : ∀ x, foldedSetIterable iter env x = pure x := by intro _; rfl) :
    wpAny (model prog w) A (exec (.Assign [.Name y py] (.ListComp elt [⟨.Name x px, iter, ifs, 0⟩] scope pos) spos) env) Q E s := by
  subst hLe
  rw [exec_Assign_Name_used _ _ _ _ hsw]
  refine wpAny_bind (wpAny_standAt (wpAny_bind ?_))
  show wpAny _ A (do let _ ← comprehension (.ListComp elt [⟨.Name x px, iter, ifs, 0⟩] scope pos) scope env _ (newList []) false (eval iter env) (some (assign (.Name y py) env))) _ _ s
  refine wpAny_bind (wpAny_mono (wpAny_comprehension_free (use := some (assign (.Name y py) env)) (Q := fun _ s' => Q .next s') rfl hs hclos hkind hnames
    (wpAny_mono h (fun xv s₁ h₁ => wpAny_mono h₁ (fun it s₂ h₂ => ?_) fun _ _ e => e) fun _ _ e => e)) (fun _ s' hq => wpAny_pure (wpAny_pure hq)) fun _ _ e => e)
  obtain ⟨I, l, lo, its, ep, news, Rel, rfl, hlI, hI, hlm, hlc, hld, hsz, F, N, hIL, hI₀, off, h0, body, fin⟩ := h₂
  refine block_K hh hcf hpc hkind hx hlI hI hlm hlc hld hsz F N hIL hI₀ off h0 body ?_
  intro D C h' tk m' ys R' F' N' offD hn hC₀ hD₀ hCL hDL hCD offC
  show wpAny _ A (assign (.Name y py) env (.ref D)) _ _ _
  refine wpAny_assign_Name (wpAny_storeName_local hy F'.ns (fun h₂ hn₂ hs₂ => ?_) hp)
  have hL₀ : h₀.get? env.locals = none := Heap.get?_none_of_le F'.above
  have F₂ : Fr h₀ env.locals h₂ (fun z => if z = y then some (.ref D) else m z) := ⟨hn₂, fun b o e => hs₂.extBut b o (fun q => by rw [q, hL₀] at e; cases e) (F'.keep b o e), F'.above⟩
  refine ⟨m', hn.sameBut hs₂ hCL, fun h'' hs'' => ?_⟩
  have N'' : News h₀ env.locals h'' ((D, lst ys) :: news) := fun p hp => by
    have z : h₂.get? p.1 = some p.2 := hs₂.extBut _ _ (N' p hp).2.1 (N' p hp).1
    refine ⟨hs''.extBut _ _ ?_ z, (N' p hp).2⟩
    rcases List.mem_cons.mp hp with rfl | hp
    · exact Ne.symm hCD
    · exact offC p hp
  exact fin D h' tk ys R' F' N' offD hD₀ hDL h'' _ (F₂.change hs'' hCL hC₀) N''

/-- iter of a written list, for a comprehension whose name is a cell. -/
theorem iter_cell_K {x : Str} {ifs : List Expr} {elt : Expr} {scope : Scope} {cl : List (Str × Addr)} {Fin : Shared → Value → Heap → Array GenState → Nat → List (Addr × Obj) → Prop} {s : Shared} {news : List (Addr × Obj)} {Rel : Nat → List Value → Prop} {l : Addr} {lo : Obj} {its : Array Value} {ep : Nat}
    (F : Fr h₀ L s.heap m) (N : News h₀ L s.heap news) (hlm : (l, lo) ∈ news) (hlc : lo.cls = .type "list") (hld : lo.data = .seq its ep) (hsz : its.size ≤ sizeLine) (h0 : Rel 0 [])
    (body : ∀ i v C K oC oK m₂ ys led h g tk (d : Drawn) (os : OsState) (E' : Value → Shared → Prop), its[i]? = some v → NsObj oC m₂ → oK.data = .cell (some v) → (K, oK) ∈ led → Rel i ys → Fr h₀ L h m → News h₀ L h led → (C, oC) ∈ led → (∀ p ∈ news, p ∈ led) →
      wpAny (model prog w) A (forIn ifs true fun c r => if r = true then do let ok ← isTrue c (compEnvC scope ((x, K) :: cl) C env) (eval c (compEnvC scope ((x, K) :: cl) C env)); pure (ForInStep.yield ok) else pure (ForInStep.yield r))
        (fun ok s₃ => if ok = true then wpAny (model prog w) A (eval elt (compEnvC scope ((x, K) :: cl) C env)) (fun y s₄ => MEnd h₀ L m led ⟨h, g, d, tk, os⟩ (Rel (i + 1) (ys ++ [y])) s₄) E' s₃
          else MEnd h₀ L m led ⟨h, g, d, tk, os⟩ (Rel (i + 1) ys) s₃) E' ⟨h, g, d, tk, os⟩)
    (fin : ∀ hx D h tk ys, Rel its.size ys → Fr h₀ L h m → News h₀ L h ((D, lst ys) :: news) → (∀ p ∈ news, p.1 ≠ D) → h₀.get? D = none → D ≠ L → Fin { s with heap := hx } (.ref D) h s.gens tk ((D, lst ys) :: news)) :
    wpAny (model prog w) A (pyIter (.ref l)) (SrcK prog w A h₀ L m env x ifs elt scope cl Fin) E s := by
  have hl : s.heap.IsList l its := ⟨_, (N _ hlm).1, hlc, _, hld⟩
  have hlt : l < s.heap.objs.size := by obtain ⟨_, e, _⟩ := hl; exact Heap.lt_size e
  refine wpAny_pyIter_list hl ?_
  refine ⟨s.heap.objs.size, l, lo, its, ep, news, Rel, rfl, Nat.ne_of_lt hlt, ⟨_, Heap.get?_push_size _ rfl, rfl, rfl⟩, hlm, hlc, hld, hsz, F.pushS _, N.pushKeep _, (fun e => Nat.lt_irrefl _ (e ▸ F.ns.lt)), fresh₀ F (Nat.le_refl _), (fun p hp e => Nat.lt_irrefl _ (e ▸ Heap.lt_size (N p hp).1)), h0, ?_, ?_⟩
  · intro i v C K oC oK m₂ ys led h g tk E' h1 h2 h3 h4 h5 h6 h7 h8 h9
    exact body i v C K oC oK m₂ ys led h g tk _ _ E' h1 h2 h3 h4 h5 h6 h7 h8 h9
  · intro D h tk ys R F' N' off hD hDL
    exact fin _ D h tk ys R F' N' off hD hDL
end
end Mine
end
section
open PySem PySem.W PySem.W.X PyProof.Rows PySem.Calls PyProof.Rows.LCg
namespace Mine
def Apart (own led : List (Addr × Obj)) : Prop := ∀ p ∈ own, ∀ q ∈ led, p.1 ≠ q.1
/-- What a generator that has these pieces still to yield does when it is woken: its frame, its own objects, and any ledger apart from them is kept. -/
def PN (M : Model) (A : Around) (h₀ : Heap) (G : Addr) : List (List Nat) → List (Addr × Obj) → Shared → End → Shared → Prop
  | [], led, s₀ => fun e s' => e = .ret (.ok (.ret .none)) ∧ ∃ h' tk, s' = { s₀ with heap := h', toks := tk } ∧ News h₀ G h' led ∧ (∀ b o, h₀.get? b = some o → h'.get? b = some o)
  | p :: r, led, s₀ => fun e s' => ∃ (T : Addr) (v1 : Value) (u : Tok) (l : List Value) (k : Resume → Sem Fin) (c : Code) (p' : Pos) (fs : List Frame) (own : List (Addr × Obj)) (m : Str → Option Value) (h' : Heap) (tk : Nat), e = .susp (.ref T) false l k c p' fs ∧
      s' = { s₀ with heap := h', toks := tk } ∧ h'.IsTuple T #[v1, .str (tx p) u] ∧ Fr h₀ G h' m ∧ News h₀ G h' (own ++ led) ∧ Apart own led ∧
      ∀ (s'' : Shared) (led' : List (Addr × Obj)), Fr h₀ G s''.heap m → News h₀ G s''.heap (own ++ led') → Apart own led' → SegX M A c (k (.send .none)) fs s'' (PN M A h₀ G r led' s'')
section
variable {prog : Program} {w : World} {A : Around} {E : Value → Shared → Prop} {s : Shared}
theorem wpAny_pyNext_gn {a : Addr} {g : Nat} {gs : GenState} {h₀ : Heap} {G : Addr} {ps : List (List Nat)} {led : List (Addr × Obj)} {Q : Option Value → Shared → Prop} {c₀ : Code} {t₀ : Sem Fin} {fs₀ : List Frame} (hh : A.handled = none)
    (hl : s.heap.NoLimit) (hroom : A.depth < recursionLimit) (hga : s.heap.IsGen a g) (hg : s.gens[g]? = some gs)
    (hgs : (gs = .fresh c₀ ∧ t₀ = denote table c₀ ∧ fs₀ = []) ∨ (∃ k₀ l₀ p₀ cl, gs = .suspended k₀ l₀ c₀ p₀ fs₀ cl ∧ t₀ = k₀ (.send .none)))
    (x : SegX (model prog w) A.in1 c₀ t₀ fs₀ (s.setGen g .running) (PN (model prog w) A.in1 h₀ G ps led (s.setGen g .running)))
    (hY : ∀ p r, ps = p :: r → ∀ (T : Addr) (v1 : Value) (u : Tok) (h' : Heap) (tk : Nat) (l : List Value) (k : Resume → Sem Fin) (c : Code) (p' : Pos) (fs : List Frame) (own : List (Addr × Obj)) (m : Str → Option Value) (cl : Bool), h'.IsTuple T #[v1, .str (tx p) u] →
      Fr h₀ G h' m → News h₀ G h' (own ++ led) → Apart own led →
      (∀ (s'' : Shared) (led' : List (Addr × Obj)), Fr h₀ G s''.heap m → News h₀ G s''.heap (own ++ led') → Apart own led' → SegX (model prog w) A.in1 c (k (.send .none)) fs s'' (PN (model prog w) A.in1 h₀ G r led' s'')) →
      Q (some (.ref T)) ({ s with heap := h', toks := tk }.setGen g (.suspended k l c p' fs cl)))
    (hP : ps = [] → ∀ h' tk, News h₀ G h' led → (∀ b o, h₀.get? b = some o → h'.get? b = some o) → Q none ({ s with heap := h', toks := tk }.setGen g .finished)) :
    wpAny (model prog w) A (pyNext (.ref a)) Q E s := by
  unfold pyNext
  refine wpAny_bind (wpAny_attempt (wpAny_callSpecial?_slot (name := Str.ofString "__next__") hga.typeIs slot_gen_next
    (wpAny_call_entry slot_gen_next hga.typeIs entry_gen_next ?_ (args_gen_next _))))
  show wpAny _ A.in1 (Builtin.Generator.genWake (.ref a) (.send .none)) _ _ s
  unfold Builtin.Generator.genWake
  refine wpAny_bind (wpAny_holding (wpAny_genNumber hga (wpAny_bind (wpAny_genState hg ?_))))
  have set2 : ∀ (s₁ : Shared) (x y : GenState), (s₁.setGen g x).setGen g y = s₁.setGen g y := by
    intro s₁ x y; simp [Shared.setGen]
  have body : wpAny (model prog w) A.in1 (.resume g (.send .none) [] fun r => (match r with
      | .yielded v => pure (.done (.ret v))
      | .returned v => do let e ← newExc (.type "StopIteration") (if v == .none then [] else [v]); raiseNew e
      | .raised e => throw e
      | .running => unsupported ""
      | .finished => unsupported ""
      | .justStarted => unsupported "" : Sem Fin)) (fun _ _ => True) (fun _ _ => True) s → True := fun _ => trivial
  clear body
  have main : ∀ (K : GenResult → Sem Fin) (Q' : Fin → Shared → Prop) (E' : Value → Shared → Prop), (∀ v s', Q' (.done (.ret v)) s' → wpAny (model prog w) A.in1 (K (.yielded v)) Q' E' s') →
      (∀ s', (∀ e h', (∃ o, h'.get? e = some o ∧ o.cls = .type "StopIteration") → (∀ b o, s'.heap.get? b = some o → h'.get? b = some o) → E' (.ref e) { s' with heap := h' }) → wpAny (model prog w) A.in1 (K (.returned .none)) Q' E' s') →
      (∀ v s', Q (some v) s' → Q' (.done (.ret v)) s') → (∀ e s', (∃ o, s'.heap.get? e = some o ∧ o.cls = .type "StopIteration") → Q none s' → E' (.ref e) s') →
      wpAny (model prog w) A.in1 (.resume g (.send .none) [] K) Q' E' s := by
    intro K Q' E' hy hr hq he
    refine wpAny_resume_gx hg hgs (x.mono fun e s₁ hp => ?_)
    cases ps with
    | nil =>
      obtain ⟨rfl, h', tk, rfl, hN, hk0⟩ := hp
      refine hr _ fun e h2 ho hk2 => he _ _ ho ?_
      have := hP rfl h2 tk (fun q hq => ⟨hk2 _ _ (hN q hq).1, (hN q hq).2⟩) fun b o x => hk2 b o (hk0 b o x)
      have e2 : ({ s with heap := h2, toks := tk } : Shared).setGen g .finished = { (({ (s.setGen g .running) with heap := h', toks := tk } : Shared).setGen g .finished) with heap := h2 } := by simp [Shared.setGen]
      rw [e2] at this
      exact this
    | cons p r =>
      obtain ⟨T, v1, u, l, k, c, p', fs, own, m, h', tk, rfl, rfl, hT, hF, hN, hA, hn⟩ := hp
      refine hy _ _ (hq _ _ ?_)
      have := hY p r rfl T v1 u h' tk l k c p' fs own m (false || fs.any Frame.guarded) hT hF hN hA hn
      have e2 : ({ s with heap := h', toks := tk } : Shared).setGen g (.suspended k l c p' fs (false || fs.any Frame.guarded)) = (({ (s.setGen g .running) with heap := h', toks := tk } : Shared)).setGen g (.suspended k l c p' fs (false || fs.any Frame.guarded)) := by simp [Shared.setGen]
      rw [e2] at this
      exact this
  have hst : ∃ k', (match gs with | .fresh _ => True | .suspended .. => True | _ => False) ∧ k' = () := ⟨(), by rcases hgs with ⟨rfl, _⟩ | ⟨_, _, _, _, rfl, _⟩ <;> trivial, rfl⟩
  obtain ⟨_, hst, _⟩ := hst
  cases gs with
  | running => exact hst.elim
  | finished => exact hst.elim
  | _ =>
    refine wpAny_bind (wpAny_roomToWake hl hroom ?_)
    show wpAny _ A.in1 (.resume g (.send .none) [] _) _ _ s
    refine main _ _ _ (fun v s' hv => wpAny_pure hv) (fun s' hE => ?_) (fun v s' hq => ⟨v, rfl, wpAny_pure hq⟩) (fun e s' ho hq => ?_)
    · show wpAny _ A.in1 (newExc (.type "StopIteration") [] >>= _) _ _ _
      refine wpAny_bind ?_
      simp only [newExc, newTuple]
      refine wpAny_bind (wpAny_newObj_type ?_ (by size_fits))
      refine wpAny_bind (m := firstArgMember _ _) (wpAny_of_eq (a := Value.none) (by first | rfl | (simp only [firstArgMember]; rfl)) ?_)
      refine wpAny_newObj_type ?_ (by size_fits)
      simp only [raiseNew]
      refine wpAny_bind (wpAny_bind (wpAny_handled ?_))
      rw [show A.in1.handled = none from hh]
      refine wpAny_throw ?_
      exact hE _ _ ⟨_, Heap.get?_push_size _ rfl, rfl⟩ fun b o hb => Heap.get?_push_of_some _ (Heap.get?_push_of_some _ hb)
    · obtain ⟨o, ho, hc⟩ := ho
      refine wpAny_bind (wpAny_isInstance (T := "StopIteration") (b := true) ⟨o, ho, hc⟩ isSubtype_stop ?_)
      exact wpAny_pure hq
end
end Mine
end
section
open PySem PySem.W PySem.W.X PyProof.Rows PySem.Calls PyProof.Rows.LCg
namespace Mine
section
variable {prog : Program} {w : World} {A : Around} {E : Value → Shared → Prop} {h₀ : Heap} {L : Addr} {m : Str → Option Value} {env : Env}
theorem letOwned_gen {s : Shared} {elts : List Expr} {x1 : Nat} {pos : Pos} {a T : Addr} {g : Nat} {Q : Unit → Shared → Prop} (hg : s.heap.IsGen a g) (hQ : Q () s) : wpAny (model prog w) A (letOwnedTupleGo (.Tuple elts x1 pos) (.ref a) (.ref T)) Q E s := by
  obtain ⟨o, nm, qn, ho, hc, hd, _⟩ := hg
  unfold letOwnedTupleGo
  refine wpAny_bind (wpAny_load ho ?_)
  rw [hc, hd]
  show wpAny _ A (if (["enumerate", "zip", "dict_itemiterator", "dict_reverseitemiterator", "odict_iterator", "itertools.zip_longest", "itertools.pairwise"].contains "generator" && _) = true then _ else _) Q E s
  rw [if_neg (by rw [show (["enumerate", "zip", "dict_itemiterator", "dict_reverseitemiterator", "odict_iterator", "itertools.zip_longest", "itertools.pairwise"].contains "generator") = false from by decide, Bool.false_and]; exact Bool.false_ne_true)]
  exact wpAny_pure hQ
def BareBut (g : Nat) (gs : Array GenState) : Prop := ∀ i y, i ≠ g → gs[i]? = some y → y.bare = true
theorem BareBut.of {g : Nat} {gs : Array GenState} (h : AllBare gs) : BareBut g gs := fun i y _ e => by
  obtain ⟨hi, rfl⟩ := Array.getElem?_eq_some_iff.mp e
  exact h _ (Array.getElem_mem hi)
theorem BareBut.set {g : Nat} {s : Shared} {x : GenState} (h : BareBut g s.gens) : BareBut g (s.setGen g x).gens := fun i y hi e => by
  refine h i y hi ?_
  simpa [Shared.setGen, Array.getElem?_setIfInBounds, Ne.symm hi] using e
theorem BareBut.done {g : Nat} {s : Shared} (h : BareBut g s.gens) : AllBare (s.setGen g .finished).gens := fun y hy => by
  obtain ⟨i, hi, rfl⟩ := Array.mem_iff_getElem.mp hy
  by_cases e : i = g
  · subst e
    simp [Shared.setGen, GenState.bare]
  · exact h.set (x := .finished) i _ e (Array.getElem?_eq_getElem hi)
theorem strs_len : ∀ {vs : List Value} {xs : List Str}, StrsAre vs xs → vs.length = xs.length
  | _, _, .nil => rfl
  | _, _, .cons _ _ h => by simp [strs_len h]
/-- A generator that has these pieces still to yield, its frame at G, its own objects. -/
structure GenN (prog : Program) (w : World) (A : Around) (h₀ : Heap) (g : Nat) (G : Addr) (ps : List (List Nat)) (own : List (Addr × Obj)) (mG : Str → Option Value) (h : Heap) (gs : Array GenState) : Prop where
  fr : Fr h₀ G h mG
  nw : News h₀ G h own
  state : ∃ gen c₀ t₀ fs₀, gs[g]? = some gen ∧ ((gen = .fresh c₀ ∧ t₀ = denote table c₀ ∧ fs₀ = []) ∨ (∃ k₀ l₀ p₀ cl, gen = .suspended k₀ l₀ c₀ p₀ fs₀ cl ∧ t₀ = k₀ (.send .none))) ∧
    ∀ (s'' : Shared) (led' : List (Addr × Obj)), Fr h₀ G s''.heap mG → News h₀ G s''.heap (own ++ led') → Apart own led' → SegX (model prog w) A.in1 c₀ t₀ fs₀ s'' (PN (model prog w) A.in1 h₀ G ps led' s'')
theorem loop_N {iter : Expr} {x y : Str} {px py ye tp : Pos} {kk : Nat} {scope : Scope} {cl : List (Str × Addr)} {pos : Pos} {D C a G : Addr} {g : Nat} {ps : List (List Nat)} {own₀ : List (Addr × Obj)} {mG₀ : Str → Option Value} {news : List (Addr × Obj)} {RR : Result → Shared → Prop} {h₁ : Heap} {g₁ : Array GenState} {d : Drawn} {tk₁ : Nat} {os : OsState} {m₁ : Str → Option Value}
    (hh : A.handled = none) (hNL : h₀.NoLimit) (hroom : A.depth < recursionLimit) (hkind : scope.kind = .function) (hx : scope.names.lookup x = some .local) (hy : scope.names.lookup y = some .local) (hxy : x ≠ y) (hdb : (y == ("__debug__" : Str)) = false)
    (hps : ps.length ≤ sizeLine) (hgen : h₁.IsGen a g) (hG : GenN prog w A h₀ g G ps own₀ mG₀ h₁ g₁)
    (hDC : D ≠ C) (hDL : D ≠ L) (hCL : C ≠ L) (haD : a ≠ D) (haC : a ≠ C) (haL : a ≠ L) (haG : a ≠ G) (hGD : G ≠ D) (hGC : G ≠ C) (hGL : L ≠ G) (hD₀ : h₀.get? D = none) (hC₀ : h₀.get? C = none) (ha₀ : h₀.get? a = none)
    (offC : ∀ p ∈ news, p.1 ≠ C) (offD : ∀ p ∈ news, p.1 ≠ D) (offG : ∀ p ∈ news, p.1 ≠ G) (ap₀ : ∀ p ∈ own₀, p.1 ≠ L ∧ p.1 ≠ C ∧ p.1 ≠ D ∧ p.1 ≠ a ∧ ∀ q ∈ news, p.1 ≠ q.1)
    (F : Fr h₀ L h₁ m) (N : News h₀ L h₁ ((D, lst []) :: news)) (hns : h₁.Ns C m₁)
    (hRR : ∀ h gs tk m' ys, (AllBare g₁ → AllBare gs) → StrsAre ys (ps.map tx) → Fr h₀ L h m → News h₀ L h ((D, lst ys) :: news) → h.Ns C m' → RR (.ok .next) ⟨h, gs, d, tk, os⟩) :
    codeAny (model prog w) A (.compLoop (.ListComp (.Name y ye) [⟨.Tuple [.Name x px, .Name y py] kk tp, iter, [], 0⟩] scope pos) 0 (.ref a) (.ref D) (compEnvC scope cl C env)) RR ⟨h₁, g₁, d, tk₁, os⟩ := by
  refine loop_any
    (fun k s' => ∃ h' gs tk ys m' don rest own mG, s' = ⟨h', gs, d, tk, os⟩ ∧ (AllBare g₁ → BareBut g gs) ∧ ps = don ++ rest ∧ k = rest.length ∧ StrsAre ys (don.map tx) ∧ h'.IsGen a g ∧ GenN prog w A h₀ g G rest own mG h' gs ∧ (∀ p ∈ own, p.1 ≠ L ∧ p.1 ≠ C ∧ p.1 ≠ D ∧ p.1 ≠ a ∧ ∀ q ∈ news, p.1 ≠ q.1) ∧
      Fr h₀ L h' m ∧ h'.Ns C m' ∧ News h₀ L h' ((D, lst ys) :: news)) ?_ ps.length
    ⟨h₁, g₁, tk₁, [], m₁, [], ps, own₀, mG₀, rfl, BareBut.of, rfl, rfl, .nil, hgen, hG, ap₀, F, hns, N⟩
  rintro k s' ⟨h', gs, tk, ys, m', don, rest, own, mG, rfl, hbb, hdr, rfl, hys, hga, hG', hap, F', hn', N'⟩
  obtain ⟨FG, NG, gen, c₀, t₀, fs₀, hgen, hst, hwake⟩ := hG'
  have hDe := (N' (D, lst ys) (List.mem_cons_self ..)).1
  obtain ⟨oC, hCe⟩ : ∃ o, h'.get? C = some o := by obtain ⟨o, _, _, e, _⟩ := id hn'; exact ⟨o, e⟩
  obtain ⟨oL, hLe⟩ : ∃ o, h'.get? L = some o := by obtain ⟨o, _, _, e, _⟩ := F'.ns; exact ⟨o, e⟩
  obtain ⟨oa, hae⟩ : ∃ o, h'.get? a = some o := by obtain ⟨o, _, _, e, _⟩ := id hga; exact ⟨o, e⟩
  have hL₀ : h₀.get? L = none := Heap.get?_none_of_le F'.above
  generalize hled : ((L, oL) :: (C, oC) :: (D, lst ys) :: (a, oa) :: news) = led
  have Nled : News h₀ G h' (own ++ led) := by
    intro q hq
    rcases List.mem_append.mp hq with hq | hq
    · exact NG q hq
    rw [← hled] at hq
    rcases List.mem_cons.mp hq with rfl | hq
    · exact ⟨hLe, hGL, hL₀⟩
    rcases List.mem_cons.mp hq with rfl | hq
    · exact ⟨hCe, hGC.symm, hC₀⟩
    rcases List.mem_cons.mp hq with rfl | hq
    · exact ⟨hDe, hGD.symm, hD₀⟩
    rcases List.mem_cons.mp hq with rfl | hq
    · exact ⟨hae, haG, ha₀⟩
    · have n := N' q (List.mem_cons_of_mem _ hq); exact ⟨n.1, offG q hq, n.2.2⟩
  have Aled : Apart own led := by
    intro p hp q hq
    obtain ⟨z1, z2, z3, z4, z5⟩ := hap p hp
    rw [← hled] at hq
    rcases List.mem_cons.mp hq with rfl | hq
    · exact z1
    rcases List.mem_cons.mp hq with rfl | hq
    · exact z2
    rcases List.mem_cons.mp hq with rfl | hq
    · exact z3
    rcases List.mem_cons.mp hq with rfl | hq
    · exact z4
    · exact z5 q hq
  have mL : (L, oL) ∈ led := by rw [← hled]; exact .head _
  have mC : (C, oC) ∈ led := by rw [← hled]; exact .tail _ (.head _)
  have mD : (D, lst ys) ∈ led := by rw [← hled]; exact .tail _ (.tail _ (.head _))
  have ma : (a, oa) ∈ led := by rw [← hled]; exact .tail _ (.tail _ (.tail _ (.head _)))
  have mn : ∀ q ∈ news, q ∈ led := fun q hq => by rw [← hled]; exact .tail _ (.tail _ (.tail _ (.tail _ hq)))
  refine wpAny_pyNext_gn (h₀ := h₀) (G := G) (ps := rest) (led := led) hh (hNL.keeps F'.keep) hroom hga hgen hst (hwake _ _ FG Nled Aled) ?_ ?_
  · rintro p r rfl T v1 u h₂ tk₂ l k c p' fs own₂ m₂ clr hT FG₂ N₂' A₂ hwake₂
    have kp : ∀ q ∈ led, h₂.get? q.1 = some q.2 := fun q hq => (N₂' q (List.mem_append_right _ hq)).1
    have F₂ : Fr h₀ L h₂ m := ⟨F'.ns.at' fun o e => by rw [hLe] at e; cases e; exact kp _ mL, FG₂.keep, F'.above⟩
    have hn₂ : h₂.Ns C m' := hn'.at' fun o e => by rw [hCe] at e; cases e; exact kp _ mC
    have N₂ : News h₀ L h₂ ((D, lst ys) :: news) := fun q hq => by
      refine ⟨?_, (N' q hq).2⟩
      rcases List.mem_cons.mp hq with rfl | hq
      · exact kp _ mD
      · exact kp _ (mn q hq)
    have hga₂ : h₂.IsGen a g := by obtain ⟨o, nm, qn, e, rr⟩ := hga; rw [hae] at e; cases e; exact ⟨_, nm, qn, kp _ ma, rr⟩
    have ap₂ : ∀ p ∈ own₂, p.1 ≠ L ∧ p.1 ≠ C ∧ p.1 ≠ D ∧ p.1 ≠ a ∧ ∀ q ∈ news, p.1 ≠ q.1 := fun p hp => ⟨A₂ p hp _ mL, A₂ p hp _ mC, A₂ p hp _ mD, A₂ p hp _ ma, fun q hq => A₂ p hp q (mn q hq)⟩
    show wpAny _ _ (letOwnedTupleGo _ _ _) _ _ _
    refine letOwned_gen (g := g) (by exact hga₂) ?_
    refine assign_Tuple_tuple hh hT rfl rfl fun h₅ he => ?_
    have he' : ∀ b o, h₂.get? b = some o → h₅.get? b = some o := fun b o e => he b o (Nat.ne_of_lt (Heap.lt_size e)) e
    refine assignInOrder_cons (wpAny_assign_Name (wpAny_storeName_local (lookup_relabel_local hx) (hn₂.at' fun o e => he' _ o e) (fun h₆ hn₆ hs₆ => ?_) (by simp [compEnvC, relabel, hkind])))
    refine assignInOrder_cons (wpAny_assign_Name (wpAny_storeName_local (lookup_relabel_local hy) hn₆ (fun h₃ hn₃ hs₃ => ?_) (by simp [compEnvC, relabel, hkind])))
    refine assignInOrder_nil ?_
    have old3 : ∀ b o, b ≠ C → h₂.get? b = some o → h₃.get? b = some o := fun b o hb e => hs₃.extBut b o hb (hs₆.extBut b o hb (he' b o e))
    have F₃ : Fr h₀ L h₃ m := ⟨F₂.ns.at' fun o e => old3 L o hCL.symm e, fun b o e => old3 b o (fun q => by rw [q, hC₀] at e; cases e) (F₂.keep b o e), F₂.above⟩
    have N₃ : News h₀ L h₃ ((D, lst ys) :: news) := fun q hq => ⟨old3 _ _ (by
      rcases List.mem_cons.mp hq with rfl | hq
      · exact hDC
      · exact offC q hq) (N₂ q hq).1, (N₂ q hq).2⟩
    rw [List.forIn_nil]
    refine wpAny_pure ?_
    rw [if_pos rfl]
    rw [PySem.eval_Name _ _ _ hdb]
    refine wpAny_bind (wpAny_standAt (wpAny_loadName_local (by exact hkind) (lookup_relabel_local hy) hn₃ (v := .str (tx p) u) (by simp) ?_))
    have hlen : ys.length ≤ sizeLine := by
      have h1 := strs_len hys
      rw [List.length_map] at h1
      have h2 : don.length ≤ ps.length := by rw [hdr, List.length_append]; omega
      omega
    refine append_at (hsz := by show ys.toArray.size ≤ sizeLine; rw [List.size_toArray]; exact hlen) (N₃ (D, lst ys) (List.mem_cons_self ..)).1 fun h₇ hs₇ hD₇ => ?_
    have hg : g < gs.size := (Array.getElem?_eq_some_iff.mp hgen).1
    have old7 : ∀ b o, b ≠ C → b ≠ D → h₂.get? b = some o → h₇.get? b = some o := fun b o hb hd e => hs₇.extBut b o hd (old3 b o hb e)
    refine ⟨r.length, by simp, h₇, _, _, ys ++ [.str (tx p) u], _, don ++ [p], r, own₂, m₂, rfl, fun q => BareBut.set (s := ⟨h₂, gs, d, tk₂, os⟩) (hbb q), by rw [hdr]; simp, rfl, by rw [List.map_append]; exact kct_snoc hys, ?_, ⟨?_, ?_, ?_⟩, ap₂, F₃.change hs₇ hDL hD₀, hn₃.sameBut hs₇ (Ne.symm hDC), fun q hq => ?_⟩
    · obtain ⟨o, nm, qn, e, rr⟩ := hga₂
      exact ⟨o, nm, qn, old7 a o haC haD e, rr⟩
    · exact ⟨FG₂.ns.at' fun o e => old7 G o hGC hGD e, fun b o e => old7 b o (fun q => by rw [q, hC₀] at e; cases e) (fun q => by rw [q, hD₀] at e; cases e) (FG₂.keep b o e), FG₂.above⟩
    · intro q hq
      have z := ap₂ q hq
      have n := N₂' q (List.mem_append_left _ hq)
      exact ⟨old7 _ _ z.2.1 z.2.2.1 n.1, n.2⟩
    · refine ⟨.suspended k l c p' fs clr, c, k (.send .none), fs, ?_, .inr ⟨k, l, p', clr, rfl, rfl⟩, hwake₂⟩
      simp [Shared.setGen, hg]
    · rcases List.mem_cons.mp hq with rfl | hq
      · exact ⟨hD₇.trans (congrArg some (lst_snoc ys _)), hDL, hD₀⟩
      · exact ⟨hs₇.extBut _ _ (offD q hq) (N₃ q (List.mem_cons_of_mem _ hq)).1, (N₃ q (List.mem_cons_of_mem _ hq)).2⟩
  · rintro rfl h₂ tk₂ N₂' hk0
    rw [List.append_nil] at hdr
    subst hdr
    have kp : ∀ q ∈ led, h₂.get? q.1 = some q.2 := fun q hq => (N₂' q hq).1
    refine hRR h₂ _ tk₂ m' ys (fun q => BareBut.done (s := ⟨h₂, gs, d, tk₂, os⟩) (hbb q)) hys ⟨F'.ns.at' fun o e => by rw [hLe] at e; cases e; exact kp _ mL, hk0, F'.above⟩ (fun q hq => ?_) (hn'.at' fun o e => by rw [hCe] at e; cases e; exact kp _ mC)
    refine ⟨?_, (N' q hq).2⟩
    rcases List.mem_cons.mp hq with rfl | hq
    · exact kp _ mD
    · exact kp _ (mn q hq)
/-- What a comprehension over a generator must bring, behind `iter(..)`. -/
def SrcN (prog : Program) (w : World) (A : Around) (h₀ : Heap) (L : Addr) (m : Str → Option Value) (Q : Value → Shared → Prop) (it : Value) (s₂ : Shared) : Prop :=
  ∃ (a G : Addr) (g : Nat) (ps : List (List Nat)) (own : List (Addr × Obj)) (mG : Str → Option Value) (news : List (Addr × Obj)), it = .ref a ∧ ps.length ≤ sizeLine ∧ s₂.heap.IsGen a g ∧ GenN prog w A h₀ g G ps own mG s₂.heap s₂.gens ∧ a ≠ L ∧ a ≠ G ∧ L ≠ G ∧ h₀.get? a = none ∧
    (∀ p ∈ news, p.1 ≠ G) ∧ (∀ p ∈ own, p.1 ≠ L ∧ p.1 ≠ a ∧ ∀ q ∈ news, p.1 ≠ q.1) ∧ Fr h₀ L s₂.heap m ∧ News h₀ L s₂.heap news ∧
    (∀ D h gs tk ys, (AllBare s₂.gens → AllBare gs) → StrsAre ys (ps.map tx) → Fr h₀ L h m → News h₀ L h ((D, lst ys) :: news) → (∀ p ∈ news, p.1 ≠ D) → Q (.ref D) ⟨h, gs, s₂.drawn, tk, s₂.os⟩)
theorem ListComp_N {iter : Expr} {x y : Str} {px py ye tp : Pos} {kk : Nat} {scope : Scope} {cl : List (Str × Addr)} {pos : Pos} {s : Shared} {Q : Value → Shared → Prop}
    (F₀ : Fr h₀ L s.heap m) (hh : A.handled = none) (hNL : h₀.NoLimit) (hroom : A.depth < recursionLimit) (hclos : closureFor scope env = pure cl) (hcell : ∀ z ∈ scope.names, z.2 ≠ .cell) (hkind : scope.kind = .function)
    (hnames : ∀ z ∈ scope.names, z.2 = .local → scope.names.lookup z.1 = some .local) (hx : scope.names.lookup x = some .local) (hy : scope.names.lookup y = some .local) (hxy : x ≠ y) (hdb : (y == ("__debug__" : Str)) = false)
    (h : wpAny (model prog w) A (eval iter env) (fun xv s₁ => wpAny (model prog w) A (pyIter xv) (SrcN prog w A h₀ L m Q) E s₁) E s)
    (hs : ∀ x, foldedSetIterable iter env x = pure x := by intro _; rfl) :
    wpAny (model prog w) A (eval (.ListComp (.Name y ye) [⟨.Tuple [.Name x px, .Name y py] kk tp, iter, [], 0⟩] scope pos) env) Q E s := by
  rw [eval_ListComp]
  refine wpAny_comprehension_free (use := none) rfl hs hclos hkind hnames (wpAny_mono h (fun xv s₁ h₁ => wpAny_mono h₁ (fun it s₂ h₂ => ?_) fun _ _ e => e) fun _ _ e => e)
  obtain ⟨a, G, g, ps, own, mG, news, rfl, hps, hga, hG, haL, haG, hLG, ha₀, offG, hown, F, N, fin⟩ := h₂
  refine wpAny_newObj_type (wpAny_newFunctionEnv hcell (by intro y hy; simp at hy) (fun h₁ hns₁ hsb₁ => ?_) hkind)
  dsimp only at hns₁ hsb₁ ⊢
  generalize hH2 : s₂.heap.push { cls := .type "list", dict := none, data := .seq ([] : List Value).toArray } = H2 at hns₁ hsb₁ ⊢
  have hC : H2.objs.size = s₂.heap.objs.size + 1 := by rw [← hH2, Heap.size_push]
  have hDC : s₂.heap.objs.size ≠ H2.objs.size := by rw [hC]; exact Nat.ne_of_lt (Nat.lt_succ_self _)
  have below : ∀ b, b < s₂.heap.objs.size → b ≠ H2.objs.size ∧ b ≠ s₂.heap.objs.size := fun b hb => ⟨by rw [hC]; exact Nat.ne_of_lt (Nat.lt_succ_of_lt hb), Nat.ne_of_lt hb⟩
  have old : ∀ b o, s₂.heap.get? b = some o → h₁.get? b = some o := fun b o e => hsb₁.extBut b o (below b (Heap.lt_size e)).1 (Heap.get?_push_of_some _ (hH2 ▸ Heap.get?_push_of_some _ e))
  have hacc : h₁.get? s₂.heap.objs.size = some (lst []) := hsb₁.extBut _ _ hDC (Heap.get?_push_of_some _ (hH2 ▸ Heap.get?_push_size _ rfl))
  have hD₀ : h₀.get? s₂.heap.objs.size = none := fresh₀ F (Nat.le_refl _)
  have hC₀ : h₀.get? H2.objs.size = none := fresh₀ F (by rw [hC]; exact Nat.le_succ _)
  have hLlt : L < s₂.heap.objs.size := F.ns.lt
  have hDL : s₂.heap.objs.size ≠ L := Ne.symm (below L hLlt).2
  have hCL : H2.objs.size ≠ L := Ne.symm (below L hLlt).1
  have halt : a < s₂.heap.objs.size := by obtain ⟨o, _, _, e, _⟩ := hga; exact Heap.lt_size e
  have hGlt : G < s₂.heap.objs.size := hG.fr.ns.lt
  have holt : ∀ p ∈ own, p.1 < s₂.heap.objs.size := fun p hp => Heap.lt_size (hG.nw p hp).1
  have offC : ∀ p ∈ news, p.1 ≠ H2.objs.size := fun p hp => (below _ (Heap.lt_size (N p hp).1)).1
  have offD : ∀ p ∈ news, p.1 ≠ s₂.heap.objs.size := fun p hp => (below _ (Heap.lt_size (N p hp).1)).2
  have hga₁ : h₁.IsGen a g := hga.keeps old
  have hG₁ : GenN prog w A h₀ g G ps own mG h₁ s₂.gens := ⟨hG.fr.keeps old, fun q hq => ⟨old _ _ (hG.nw q hq).1, (hG.nw q hq).2⟩, hG.state⟩
  have loop : codeAny (model prog w) A (.compLoop (.ListComp (.Name y ye) [⟨.Tuple [.Name x px, .Name y py] kk tp, iter, [], 0⟩] scope pos) 0 (.ref a) (.ref s₂.heap.objs.size) (compEnvC scope cl H2.objs.size env))
      (compPost (model prog w) A E none Q (.ref s₂.heap.objs.size) H2.objs.size) ⟨h₁, s₂.gens, s₂.drawn, s₂.toks + ([] : List (Str × Value)).length, s₂.os⟩ := by
    refine loop_N (news := news) hh hNL hroom hkind hx hy hxy hdb hps hga₁ hG₁ hDC hDL hCL (below a halt).2 (below a halt).1 haL haG (below G hGlt).2 (below G hGlt).1 hLG hD₀ hC₀ ha₀ offC offD offG
      (fun p hp => ⟨(hown p hp).1, (below _ (holt p hp)).1, (below _ (holt p hp)).2, (hown p hp).2.1, (hown p hp).2.2⟩) (F.keeps old) (fun p hp => ?_) hns₁ ?_
    · rcases List.mem_cons.mp hp with rfl | hp
      · exact ⟨hacc, hDL, hD₀⟩
      · exact ⟨old _ _ (N p hp).1, (N p hp).2⟩
    · intro h gs tk m' ys hbb hys F' N' hn
      refine ⟨m', hn, fun h'' hs'' => ?_⟩
      have N'' : News h₀ L h'' ((s₂.heap.objs.size, lst ys) :: news) := fun p hp => by
        refine ⟨hs''.extBut _ _ ?_ (N' p hp).1, (N' p hp).2⟩
        rcases List.mem_cons.mp hp with rfl | hp
        · exact hDC
        · exact offC p hp
      exact fin _ h'' gs tk ys hbb hys (F'.change hs'' hCL hC₀) N'' offD
  exact codeAny_compStart_list loop (wpAny_pyIter_gen hga₁ loop)
end
end Mine
end
open PySem PySem.W PyProof.Rows
open_top hd for PySem.Challenge.rw_to0078_01
section
open PySem PySem.W PyProof.Rows PySem.Calls PyProof.Rows.LCg
namespace Mine

def Con (w : World) (loose : List Str) (mean : ExcName → Option Value) (mg mb : Str → Option Value) (f : Addr) (k : Nat) (vs : List Value) (Pre : List (Addr × Obj) → Prop) (R : Tok → Value) : Prop :=
  ∀ (dp un : Nat) (gd : Option (List Code)) (cn : Str) (cs : Scope) (a : Addr) (ccd : Value) (cl : List (Str × Addr)) (outer : List Env) (A₀ : Around) (base h₀ : Heap) (L : Addr) (m : Str → Option Value) (news : List (Addr × Obj)) (s : Shared) (Q E : Value → Shared → Prop),
    Below A₀ base outer h₀ → Fr h₀ L s.heap m → (hd.heap_39 w.params).In h₀ → News h₀ L s.heap news → Top topProg loose mean mg mb h₀ → cs.kind = .function →
    Pre news → dp + k < recursionLimit → un + 16 * k < cLine →
    (∀ (t : Tok) (h' : Heap) (tk' : Nat), Fr h₀ L h' m → News h₀ L h' news → Q (R t) { s with heap := h', toks := tk' }) →
      wpAny (model PySem.Challenge.rw_to0078_01.row.toRowW.prog w) (ktrTop dp un gd cn cs L a ccd cl outer) (call (.ref f) vs) Q E s

theorem Con.use {w : World} {loose : List Str} {mean : ExcName → Option Value} {mg mb : Str → Option Value} {f : Addr} {k : Nat} {vs : List Value} {Pre : List (Addr × Obj) → Prop} {R : Tok → Value} (C : Con w loose mean mg mb f k vs Pre R)
    {dp un : Nat} {gd : Option (List Code)} {cn : Str} {cs : Scope} {a : Addr} {ccd : Value} {cl : List (Str × Addr)} {outer : List Env} {A₀ : Around} {base h₀ : Heap} {L : Addr} {m : Str → Option Value} {news : List (Addr × Obj)} {s : Shared} {Q E : Value → Shared → Prop}
    (B : Below A₀ base outer h₀) (F : Fr h₀ L s.heap m) (X : (hd.heap_39 w.params).In h₀) (N : News h₀ L s.heap news) (T : Top topProg loose mean mg mb h₀) (hk : cs.kind = .function) (hp : Pre news) (hd : dp + k < recursionLimit) (hu : un + 16 * k < cLine)
    (ret : ∀ (t : Tok) (h' : Heap) (tk' : Nat), Fr h₀ L h' m → News h₀ L h' news → Q (R t) { s with heap := h', toks := tk' }) :
    wpAny (model PySem.Challenge.rw_to0078_01.row.toRowW.prog w) (ktrTop dp un gd cn cs L a ccd cl outer) (call (.ref f) vs) Q E s := C _ _ _ _ _ _ _ _ _ _ _ _ _ _ _ _ _ _ B F X N T hk hp hd hu ret

def ConL (w : World) (loose : List Str) (mean : ExcName → Option Value) (mg mb : Str → Option Value) (f : Addr) (k : Nat) (vs : List Value) (Pre : List (Addr × Obj) → Prop) (Ys : List Value → Prop) : Prop :=
  ∀ (dp un : Nat) (gd : Option (List Code)) (cn : Str) (cs : Scope) (a : Addr) (ccd : Value) (cl : List (Str × Addr)) (outer : List Env) (A₀ : Around) (base h₀ : Heap) (L : Addr) (m : Str → Option Value) (news : List (Addr × Obj)) (s : Shared) (Q E : Value → Shared → Prop),
    Below A₀ base outer h₀ → Fr h₀ L s.heap m → (hd.heap_39 w.params).In h₀ → News h₀ L s.heap news → Top topProg loose mean mg mb h₀ → cs.kind = .function →
    Pre news → dp + k < recursionLimit → un + 16 * k < cLine →
    (∀ (D : Addr) (ys : List Value) (ep : Nat) (h' : Heap) (tk' : Nat), Ys ys → Fr h₀ L h' m → News h₀ L h' ((D, ({ cls := .type "list", data := .seq ys.toArray ep } : Obj)) :: news) → Q (.ref D) { s with heap := h', toks := tk' }) →
      wpAny (model PySem.Challenge.rw_to0078_01.row.toRowW.prog w) (ktrTop dp un gd cn cs L a ccd cl outer) (call (.ref f) vs) Q E s
theorem ConL.use {w : World} {loose : List Str} {mean : ExcName → Option Value} {mg mb : Str → Option Value} {f : Addr} {k : Nat} {vs : List Value} {Pre : List (Addr × Obj) → Prop} {Ys : List Value → Prop} (C : ConL w loose mean mg mb f k vs Pre Ys)
    {dp un : Nat} {gd : Option (List Code)} {cn : Str} {cs : Scope} {a : Addr} {ccd : Value} {cl : List (Str × Addr)} {outer : List Env} {A₀ : Around} {base h₀ : Heap} {L : Addr} {m : Str → Option Value} {news : List (Addr × Obj)} {s : Shared} {Q E : Value → Shared → Prop}
    (B : Below A₀ base outer h₀) (F : Fr h₀ L s.heap m) (X : (hd.heap_39 w.params).In h₀) (N : News h₀ L s.heap news) (T : Top topProg loose mean mg mb h₀) (hk : cs.kind = .function) (hp : Pre news) (hd : dp + k < recursionLimit) (hu : un + 16 * k < cLine)
    (ret : ∀ (D : Addr) (ys : List Value) (ep : Nat) (h' : Heap) (tk' : Nat), Ys ys → Fr h₀ L h' m → News h₀ L h' ((D, ({ cls := .type "list", data := .seq ys.toArray ep } : Obj)) :: news) → Q (.ref D) { s with heap := h', toks := tk' }) :
    wpAny (model PySem.Challenge.rw_to0078_01.row.toRowW.prog w) (ktrTop dp un gd cn cs L a ccd cl outer) (call (.ref f) vs) Q E s := C _ _ _ _ _ _ _ _ _ _ _ _ _ _ _ _ _ _ B F X N T hk hp hd hu ret

/-- A stop for the walk. -/
def Hold (P : Prop) : Prop := P
theorem Hold.mk {P : Prop} (h : Hold P) : P := h
theorem Hold.of {P : Prop} (h : P) : Hold P := h
end Mine
end
section
open PySem PySem.W PyProof.Rows PySem.Calls PyProof.Rows.LCg
namespace Mine

section
variable {prog : Program} {w : World} {A : Around} {E : Value → Shared → Prop} {h₀ : Heap} {L : Addr} {env : Env}

/-- The end of a for's turn: the invariant again, or a return. -/
def FEnd (h₀ : Heap) (L : Addr) (its : List (Addr × Obj)) (s : Shared) (J : (Str → Option Value) → List (Addr × Obj) → Prop) (Ret : Value → Shared → Prop) (f : Flow) (s' : Shared) : Prop :=
  match f with
  | .next => ∃ h' tk m' news', s' = { s with heap := h', toks := tk } ∧ Fr h₀ L h' m' ∧ News h₀ L h' (news' ++ its) ∧ (∀ p ∈ news', ∀ q ∈ its, q.1 ≠ p.1) ∧ J m' news'
  | .ret v => Ret v s'
  | _ => False

theorem FEnd.next {its : List (Addr × Obj)} {hp h' : Heap} {g : Array GenState} {d : Drawn} {t tk : Nat} {os : OsState} {J : (Str → Option Value) → List (Addr × Obj) → Prop} {Ret : Value → Shared → Prop} {m' : Str → Option Value} {news' : List (Addr × Obj)}
    (F : Fr h₀ L h' m') (N : News h₀ L h' (news' ++ its)) (off : ∀ p ∈ news', ∀ q ∈ its, q.1 ≠ p.1) (j : J m' news') : FEnd h₀ L its ⟨hp, g, d, t, os⟩ J Ret .next ⟨h', g, d, tk, os⟩ := ⟨h', tk, m', news', rfl, F, N, off, j⟩

theorem its_of {h : Heap} {wr : List Addr} (hwo : ∀ b ∈ wr, ∃ o, h.get? b = some o) (hwL : L ∉ wr) (hw₀ : ∀ b ∈ wr, h₀.get? b = none) : ∃ its : List (Addr × Obj), its.map (·.1) = wr ∧ News h₀ L h its := by
  have key : ∀ l : List Addr, (∀ b ∈ l, b ∈ wr) → ∃ its : List (Addr × Obj), its.map (·.1) = l ∧ News h₀ L h its := by
    intro l
    induction l with
    | nil => exact fun _ => ⟨[], rfl, fun _ hp => nomatch hp⟩
    | cons b r ih =>
      intro hl
      obtain ⟨its, e, Ni⟩ := ih fun b hb => hl b (List.mem_cons_of_mem _ hb)
      have hbw := hl b (List.mem_cons_self ..)
      obtain ⟨o, ho⟩ := hwo b hbw
      refine ⟨(b, o) :: its, by simp [e], fun p hp => ?_⟩
      rcases List.mem_cons.mp hp with rfl | hp
      · exact ⟨ho, fun q => hwL (q ▸ hbw), hw₀ _ hbw⟩
      · exact Ni p hp
  exact key wr fun _ h => h

theorem st_back {fp wr : List Addr} {St : Heap → Prop} {its led src : List (Addr × Obj)} {h h' : Heap} (frame : ∀ h h', St h → (∀ b ∈ fp, ∀ o, h.get? b = some o → h'.get? b = some o) → St h') (st : St h) (hitw : its.map (·.1) = wr)
    (Nits : News h₀ L h its) (hk₀ : ∀ b o, h₀.get? b = some o → h.get? b = some o) (hk₀' : ∀ b o, h₀.get? b = some o → h'.get? b = some o) (Nsrc : News h₀ L h src) (N' : News h₀ L h' led)
    (hi : ∀ p ∈ its, p ∈ led) (hs : ∀ p ∈ src, p ∈ led) (hsrc : ∀ b ∈ fp, b ∉ wr → ∃ o, h₀.get? b = some o ∨ (b, o) ∈ src) : St h' := by
  refine frame _ _ st fun b hb o e => ?_
  by_cases hbw : b ∈ wr
  · rw [← hitw] at hbw
    obtain ⟨p, hp, rfl⟩ := List.mem_map.mp hbw
    have := (Nits p hp).1
    rw [e] at this; cases this
    exact (N' p (hi p hp)).1
  · obtain ⟨o', ho' | ho'⟩ := hsrc b hb hbw
    · have := hk₀ b o' ho'
      rw [e] at this; cases this
      exact hk₀' b _ ho'
    · have := (Nsrc _ ho').1
      rw [e] at this; cases this
      exact (N' _ (hs _ ho')).1

theorem forloop_W {target : Expr} {body : List Stmt} {s : Shared} {m : Str → Option Value} {news src : List (Addr × Obj)} {R : Result → Shared → Prop} {I : Addr} {fp wr : List Addr} {n : Nat} {P : Nat → Value → Prop} {St : Nat → Heap → Prop}
    {J : Nat → (Str → Option Value) → List (Addr × Obj) → Prop} {Ret : Value → Shared → Prop}
    (W : Walks prog w A I fp wr n P St) (hgo : ∀ i (s' : Shared) v (Q' : Unit → Shared → Prop) (E' : Value → Shared → Prop), P i v → St (i + 1) s'.heap → Q' () s' → wpAny (model prog w) A (letOwnedTupleGo target (.ref I) v) Q' E' s') (hwo : ∀ i h, St i h → ∀ b ∈ wr, ∃ o, h.get? b = some o) (hst : St 0 s.heap)
    (F : Fr h₀ L s.heap m) (N : News h₀ L s.heap news) (hwL : L ∉ wr) (hw₀ : ∀ b ∈ wr, h₀.get? b = none) (off : ∀ p ∈ news, p.1 ∉ wr) (hsrc : ∀ b ∈ fp, b ∉ wr → ∃ o, h₀.get? b = some o ∨ (b, o) ∈ src)
    (hJs : ∀ i m' news', J i m' news' → ∀ p ∈ src, p ∈ news') (h0 : J 0 m news)
    (turn : ∀ i v m' news' its h tk (E' : Value → Shared → Prop), i < n → P i v → J i m' news' → Fr h₀ L h m' → News h₀ L h (news' ++ its) → (∀ p ∈ news', ∀ q ∈ its, q.1 ≠ p.1) → (∀ q ∈ its, q.1 ∈ wr) → St (i + 1) h →
      wpAny (model prog w) A (assign target env v) (fun _ s₂ => wpAny (model prog w) A (execs body env) (FEnd h₀ L its ⟨h, s.gens, s.drawn, tk, s.os⟩ (J (i + 1)) Ret) E' s₂) E' ⟨h, s.gens, s.drawn, tk, s.os⟩)
    (fin : ∀ h tk m' news', J n m' news' → Fr h₀ L h m' → News h₀ L h news' → R (.ok .next) ⟨h, s.gens, s.drawn, tk, s.os⟩)
    (ret : ∀ v s', Ret v s' → R (.ok (.ret v)) s') :
    codeAny (model prog w) A (.forLoop target (.ref I) body [] env) R s := by
  refine codeAny_forLoop_any
    (fun k s' => ∃ h' tk i m' news', s' = ⟨h', s.gens, s.drawn, tk, s.os⟩ ∧ i ≤ n ∧ k = n + 1 - i ∧ St i h' ∧ Fr h₀ L h' m' ∧ News h₀ L h' news' ∧ (∀ p ∈ news', p.1 ∉ wr) ∧ J i m' news') ?_ (n + 1)
    ⟨s.heap, s.toks, 0, m, news, rfl, Nat.zero_le _, rfl, hst, F, N, off, h0⟩
  rintro k s' ⟨h', tk, i, m', news', rfl, hi, rfl, hst', F', N', off', j⟩
  by_cases hlt : i < n
  · refine W.item i _ _ _ hlt hst' fun v h₁ tk₁ hP st₁ hk₁ => ?_
    show wpAny _ _ (letOwnedTupleGo target (.ref I) v) _ _ _
    refine hgo i _ v _ _ hP st₁ ?_
    have F₁ : Fr h₀ L h₁ m' := ⟨F'.ns.at' fun o e => hk₁ L o hwL e, fun b o e => hk₁ b o (fun hb => by rw [hw₀ b hb] at e; cases e) (F'.keep b o e), F'.above⟩
    have N₁ : News h₀ L h₁ news' := fun p hp => ⟨hk₁ _ _ (off' p hp) (N' p hp).1, (N' p hp).2⟩
    obtain ⟨its, hitw, Nits⟩ := its_of (h₀ := h₀) (hwo _ _ st₁) hwL hw₀
    have offI : ∀ p ∈ news', ∀ q ∈ its, q.1 ≠ p.1 := fun p hp q hq e => off' p hp (by rw [← hitw, ← e]; exact List.mem_map_of_mem hq)
    have Nled : News h₀ L h₁ (news' ++ its) := fun p hp => (List.mem_append.mp hp).elim (N₁ p) (Nits p)
    refine wpAny_mono (turn i v m' news' its h₁ tk₁ _ hlt hP j F₁ Nled offI (fun q hq => hitw ▸ List.mem_map_of_mem hq) st₁) (fun _ s₂ h₂ => wpAny_mono h₂ (fun f s₃ h₃ => ?_) fun _ _ e => e) fun _ _ e => e
    cases f with
    | next =>
      obtain ⟨h₄, tk₄, m₄, news₄, rfl, F₄, N₄, off₄, j₄⟩ := h₃
      refine ⟨n + 1 - (i + 1), by omega, h₄, tk₄, i + 1, m₄, news₄, rfl, hlt, rfl, ?_, F₄, fun p hp => N₄ p (List.mem_append_left _ hp), fun p hp hb => ?_, j₄⟩
      · exact st_back (led := news₄ ++ its) (src := src) (W.frame (i + 1)) st₁ hitw Nits F₁.keep F₄.keep (fun p hp => N₁ p (hJs _ _ _ j p hp)) N₄ (fun p hp => List.mem_append_right _ hp) (fun p hp => List.mem_append_left _ (hJs _ _ _ j₄ p hp)) hsrc
      · rw [← hitw] at hb
        obtain ⟨q, hq, e⟩ := List.mem_map.mp hb
        exact off₄ p hp q hq e
    | ret v => exact ret _ _ h₃
    | brk => exact h₃.elim
    | cont => exact h₃.elim
  · obtain rfl : i = n := Nat.le_antisymm hi (Nat.not_lt.mp hlt)
    refine W.done _ _ _ hst' fun h₁ tk₁ hk₁ => wpAny_execs_nil ?_
    exact fin h₁ tk₁ m' news' j ⟨F'.ns.at' fun o e => hk₁ L o hwL e, fun b o e => hk₁ b o (fun hb => by rw [hw₀ b hb] at e; cases e) (F'.keep b o e), F'.above⟩ fun p hp => ⟨hk₁ _ _ (off' p hp) (N' p hp).1, (N' p hp).2⟩

theorem forloop_T {elts : List Expr} {kk : Nat} {tp : Pos} {body : List Stmt} {s : Shared} {m : Str → Option Value} {news src : List (Addr × Obj)} {R : Result → Shared → Prop} {I : Addr} {fp wr : List Addr} {n : Nat} {Pt : Nat → Array Value → Prop} {St : Nat → Heap → Prop} {Mid : Nat → Addr → Heap → Prop}
    {J : Nat → (Str → Option Value) → List (Addr × Obj) → Prop} {Ret : Value → Shared → Prop}
    (W : WalksT prog w A I fp wr n Pt St Mid) (hh : A.handled = none) (hwo : ∀ i h, St i h → ∀ b ∈ wr, ∃ o, h.get? b = some o) (hst : St 0 s.heap)
    (F : Fr h₀ L s.heap m) (N : News h₀ L s.heap news) (hwL : L ∉ wr) (hw₀ : ∀ b ∈ wr, h₀.get? b = none) (off : ∀ p ∈ news, p.1 ∉ wr) (hsrc : ∀ b ∈ fp, b ∉ wr → ∃ o, h₀.get? b = some o ∨ (b, o) ∈ src)
    (hJs : ∀ i m' news', J i m' news' → ∀ p ∈ src, p ∈ news') (h0 : J 0 m news) (hlen : ∀ vals i, i < n → Pt i vals → (assignEach elts env).length = vals.size) (hstar : (assignEach elts env).findIdx? (·.1) = none)
    (turn : ∀ i vals m' news' its h tk (E' : Value → Shared → Prop), i < n → Pt i vals → J i m' news' → Fr h₀ L h m' → News h₀ L h (news' ++ its) → (∀ p ∈ news', ∀ q ∈ its, q.1 ≠ p.1) → (∀ q ∈ its, q.1 ∈ wr) → St (i + 1) h →
      wpAny (model prog w) A (assignInOrder ((assignEach elts env).map (·.2)) vals.toList) (fun _ s₂ => wpAny (model prog w) A (execs body env) (FEnd h₀ L its ⟨h, s.gens, s.drawn, tk, s.os⟩ (J (i + 1)) Ret) E' s₂) E' ⟨h, s.gens, s.drawn, tk, s.os⟩)
    (fin : ∀ h tk m' news', J n m' news' → Fr h₀ L h m' → News h₀ L h news' → R (.ok .next) ⟨h, s.gens, s.drawn, tk, s.os⟩)
    (ret : ∀ v s', Ret v s' → R (.ok (.ret v)) s') :
    codeAny (model prog w) A (.forLoop (.Tuple elts kk tp) (.ref I) body [] env) R s := by
  refine codeAny_forLoop_any
    (fun k s' => ∃ h' tk i m' news', s' = ⟨h', s.gens, s.drawn, tk, s.os⟩ ∧ i ≤ n ∧ k = n + 1 - i ∧ St i h' ∧ Fr h₀ L h' m' ∧ News h₀ L h' news' ∧ (∀ p ∈ news', p.1 ∉ wr) ∧ J i m' news') ?_ (n + 1)
    ⟨s.heap, s.toks, 0, m, news, rfl, Nat.zero_le _, rfl, hst, F, N, off, h0⟩
  rintro k s' ⟨h', tk, i, m', news', rfl, hi, rfl, hst', F', N', off', j⟩
  by_cases hlt : i < n
  · refine W.item i _ _ _ hlt hst' fun T vals h₁ tk₁ hP hTn hT hM hk₁ => ?_
    refine W.go _ _ _ i T { heap := h₁, gens := s.gens, drawn := s.drawn, toks := tk₁, os := s.os } _ _ hM fun h₂ st₂ hk₂ => ?_
    have hT₂ : h₂.IsTuple T vals := hT.at fun o e => hk₂ T o (W.apart i T h₁ hM) e
    refine assign_Tuple_tuple hh hT₂ (hlen vals i hlt hP) hstar fun h₃ he => ?_
    have he' : ∀ b o, h₂.get? b = some o → h₃.get? b = some o := fun b o e => he b o (Nat.ne_of_lt (Heap.lt_size e)) e
    have st₃ : St (i + 1) h₃ := W.frame _ _ _ st₂ fun b _ o e => he' b o e
    have up : ∀ b o, b ∉ wr → h'.get? b = some o → h₃.get? b = some o := fun b o hb e => he' b o (hk₂ b o hb (hk₁ b o hb e))
    have F₁ : Fr h₀ L h₃ m' := ⟨F'.ns.at' fun o e => up L o hwL e, fun b o e => up b o (fun hb => by rw [hw₀ b hb] at e; cases e) (F'.keep b o e), F'.above⟩
    have N₁ : News h₀ L h₃ news' := fun p hp => ⟨up _ _ (off' p hp) (N' p hp).1, (N' p hp).2⟩
    obtain ⟨its, hitw, Nits⟩ := its_of (h₀ := h₀) (hwo _ _ st₃) hwL hw₀
    have offI : ∀ p ∈ news', ∀ q ∈ its, q.1 ≠ p.1 := fun p hp q hq e => off' p hp (by rw [← hitw, ← e]; exact List.mem_map_of_mem hq)
    have Nled : News h₀ L h₃ (news' ++ its) := fun p hp => (List.mem_append.mp hp).elim (N₁ p) (Nits p)
    refine wpAny_mono (turn i vals m' news' its h₃ tk₁ _ hlt hP j F₁ Nled offI (fun q hq => hitw ▸ List.mem_map_of_mem hq) st₃) (fun _ s₂ h₂ => wpAny_mono h₂ (fun f s₃ h₃ => ?_) fun _ _ e => e) fun _ _ e => e
    cases f with
    | next =>
      obtain ⟨h₄, tk₄, m₄, news₄, rfl, F₄, N₄, off₄, j₄⟩ := h₃
      refine ⟨n + 1 - (i + 1), by omega, h₄, tk₄, i + 1, m₄, news₄, rfl, hlt, rfl, ?_, F₄, fun p hp => N₄ p (List.mem_append_left _ hp), fun p hp hb => ?_, j₄⟩
      · exact st_back (led := news₄ ++ its) (src := src) (W.frame (i + 1)) st₃ hitw Nits F₁.keep F₄.keep (fun p hp => N₁ p (hJs _ _ _ j p hp)) N₄ (fun p hp => List.mem_append_right _ hp) (fun p hp => List.mem_append_left _ (hJs _ _ _ j₄ p hp)) hsrc
      · rw [← hitw] at hb
        obtain ⟨q, hq, e⟩ := List.mem_map.mp hb
        exact off₄ p hp q hq e
    | ret v => exact ret _ _ h₃
    | brk => exact h₃.elim
    | cont => exact h₃.elim
  · obtain rfl : i = n := Nat.le_antisymm hi (Nat.not_lt.mp hlt)
    refine W.done _ _ _ hst' fun h₁ tk₁ hk₁ => wpAny_execs_nil ?_
    exact fin h₁ tk₁ m' news' j ⟨F'.ns.at' fun o e => hk₁ L o hwL e, fun b o e => hk₁ b o (fun hb => by rw [hw₀ b hb] at e; cases e) (F'.keep b o e), F'.above⟩ fun p hp => ⟨hk₁ _ _ (off' p hp) (N' p hp).1, (N' p hp).2⟩
end
end Mine
end
section
open PySem PySem.W PySem.W.X PyProof.Rows PySem.Calls PyProof.Rows.LCg
namespace Mine
theorem PN_same {M : Model} {A : Around} {h₀ : Heap} {G : Addr} {ps : List (List Nat)} {led : List (Addr × Obj)} {h h' : Heap} {g : Array GenState} {d : Drawn} {t t' : Nat} {os : OsState} :
    PN M A h₀ G ps led ⟨h, g, d, t, os⟩ = PN M A h₀ G ps led ⟨h', g, d, t', os⟩ := by
  cases ps <;> rfl
section
variable {prog : Program} {w : World} {A : Around} {h₀ : Heap} {G : Addr}
theorem seg_enum {x y : Str} {px py tp : Pos} {kk : Nat} {body : List Stmt} {cn : Str} {cs : Scope} {a : Addr} {ccd : Value} {fs : List Frame} {z : Str} {e si : Addr} {n : Nat} {Pt : Nat → Array Value → Prop} {St : Nat → Heap → Prop} {Mid : Nat → Addr → Heap → Prop}
    (Post : Nat → Bool → List (List Nat)) (J : Nat → Bool → (Str → Option Value) → Prop)
    (hh : (A.over (.forLoop (.Tuple [.Name x px, .Name y py] kk tp) (.ref e) body [] (envOf cn cs G a ccd)) fs).handled = none)
    (W : WalksT prog w (A.over (.forLoop (.Tuple [.Name x px, .Name y py] kk tp) (.ref e) body [] (envOf cn cs G a ccd)) fs) e [e, si] [e, si] n Pt St Mid)
    (hR : ∀ i vals, i < n → Pt i vals → ∃ t c u, vals = #[.int i t, .str ⟨#[c]⟩ u] ∧ z.cps[i]? = some c)
    (hwo : ∀ i h, St i h → ∀ b ∈ [e, si], ∃ o, h.get? b = some o) (hGw : G ∉ [e, si]) (hw₀ : ∀ b ∈ [e, si], h₀.get? b = none)
    (hk : cs.kind = .function) (hx : cs.names.lookup x = some .local) (hy : cs.names.lookup y = some .local)
    (turn : ∀ i esc c t u led own m h g d tk os, i < n → z.cps[i]? = some c → own.map (·.1) = [e, si] → Fr h₀ G h (fun q => if q = y then some (.str ⟨#[c]⟩ u) else if q = x then some (.int i t) else m q) → News h₀ G h (own ++ led) → Apart own led → J i esc m →
      (∀ esc' led' own' m' h' g' d' tk' os', own'.map (·.1) = [e, si] → Fr h₀ G h' m' → News h₀ G h' (own' ++ led') → Apart own' led' → (∀ q ∈ own, q ∈ own') → J (i + 1) esc' m' →
        SegX (model prog w) A (.forLoop (.Tuple [.Name x px, .Name y py] kk tp) (.ref e) body [] (envOf cn cs G a ccd)) ((model prog w).den (.forLoop (.Tuple [.Name x px, .Name y py] kk tp) (.ref e) body [] (envOf cn cs G a ccd))) fs ⟨h', g', d', tk', os'⟩ (PN (model prog w) A h₀ G (Post (i + 1) esc') led' ⟨h', g', d', tk', os'⟩)) →
      SegX (model prog w) A (.forLoop (.Tuple [.Name x px, .Name y py] kk tp) (.ref e) body [] (envOf cn cs G a ccd)) ((execs body (envOf cn cs G a ccd)).wrap (kTurn (.Tuple [.Name x px, .Name y py] kk tp) (.ref e) body [] (envOf cn cs G a ccd)) (hTurn (envOf cn cs G a ccd)) id id) fs ⟨h, g, d, tk, os⟩ (PN (model prog w) A h₀ G (Post i esc) led ⟨h, g, d, tk, os⟩))
    (done : ∀ esc led own m h g d tk os, Fr h₀ G h m → News h₀ G h (own ++ led) → Apart own led → J n esc m → SegX (model prog w) A (.block [] (envOf cn cs G a ccd)) (.pure (.done .next)) fs ⟨h, g, d, tk, os⟩ (PN (model prog w) A h₀ G (Post n esc) led ⟨h, g, d, tk, os⟩)) :
    ∀ k i, i + k = n → ∀ esc led own m h g d tk os, own.map (·.1) = [e, si] → Fr h₀ G h m → News h₀ G h (own ++ led) → Apart own led → St i h → J i esc m →
      SegX (model prog w) A (.forLoop (.Tuple [.Name x px, .Name y py] kk tp) (.ref e) body [] (envOf cn cs G a ccd)) ((model prog w).den (.forLoop (.Tuple [.Name x px, .Name y py] kk tp) (.ref e) body [] (envOf cn cs G a ccd))) fs ⟨h, g, d, tk, os⟩ (PN (model prog w) A h₀ G (Post i esc) led ⟨h, g, d, tk, os⟩) := by
  intro k
  induction k with
  | zero =>
    rintro i hi esc led own m h g d tk os hown F N Ap st j
    obtain rfl : i = n := by omega
    have off : ∀ q ∈ led, q.1 ∉ [e, si] := fun q hq hb => by
      rw [← hown] at hb
      obtain ⟨p, hp, e1⟩ := List.mem_map.mp hb
      exact Ap p hp q hq e1
    refine sx_forLoop (W.done ⟨h, g, d, tk, os⟩ _ _ st fun h' tk' hk' => ?_)
    show SegX _ _ _ _ _ _ _
    rw [PN_same (h' := h') (t' := tk')]
    exact done esc led [] m h' g d tk' os ⟨F.ns.at' fun o e1 => hk' G o hGw e1, fun b o e1 => hk' b o (fun hb => by rw [hw₀ b hb] at e1; cases e1) (F.keep b o e1), F.above⟩
      (fun q hq => ⟨hk' _ _ (off q hq) (N q (List.mem_append_right _ hq)).1, (N q (List.mem_append_right _ hq)).2⟩) (fun _ hp => nomatch hp) j
  | succ k ih =>
    rintro i hi esc led own m h g d tk os hown F N Ap st j
    have hin : i < n := by omega
    have off : ∀ q ∈ led, q.1 ∉ [e, si] := fun q hq hb => by
      rw [← hown] at hb
      obtain ⟨p, hp, e1⟩ := List.mem_map.mp hb
      exact Ap p hp q hq e1
    refine sx_forLoop (W.item i ⟨h, g, d, tk, os⟩ _ _ hin st fun T vals h₁ tk₁ hP hTn hT hM hk₁ => ?_)
    obtain ⟨t, c, u, rfl, hc⟩ := hR i vals hin hP
    have hTw := W.apart i T h₁ hM
    refine W.go _ _ _ i T ⟨h₁, g, d, tk₁, os⟩ _ _ hM fun h₂ st₂ hk₂ => ?_
    have hT₂ : h₂.IsTuple T #[.int i t, .str ⟨#[c]⟩ u] := hT.at fun o e1 => hk₂ T o hTw e1
    refine assign_Tuple_tuple hh hT₂ rfl rfl fun h₅ he => ?_
    have he' : ∀ b o, h₂.get? b = some o → h₅.get? b = some o := fun b o e1 => he b o (Nat.ne_of_lt (Heap.lt_size e1)) e1
    have kept : ∀ b o, b ∉ [e, si] → h.get? b = some o → h₅.get? b = some o := fun b o hb e1 => he' b o (hk₂ b o hb (hk₁ b o hb e1))
    have st₅ : St (i + 1) h₅ := W.frame _ _ _ st₂ fun b hb o e1 => he' b o e1
    have F₅ : Fr h₀ G h₅ m := ⟨F.ns.at' fun o e1 => kept G o hGw e1, fun b o e1 => kept b o (fun hb => by rw [hw₀ b hb] at e1; cases e1) (F.keep b o e1), F.above⟩
    obtain ⟨its, hits, Nits⟩ := its_of (h := h₅) (L := G) (h₀ := h₀) (wr := [e, si]) (fun b hb => hwo _ _ st₅ b hb) hGw hw₀
    have N₅ : News h₀ G h₅ (its ++ led) := fun q hq => by
      rcases List.mem_append.mp hq with hq | hq
      · exact Nits q hq
      · exact ⟨kept _ _ (off q hq) (N q (List.mem_append_right _ hq)).1, (N q (List.mem_append_right _ hq)).2⟩
    have A₅ : Apart its led := fun p hp q hq e1 => off q hq (by rw [← hits, ← e1]; exact List.mem_map_of_mem hp)
    refine assignInOrder_cons (wpAny_assign_Name (stNK (s := ⟨h₅, g, d, tk₁, os⟩) F₅ N₅ (fun h₆ F₆ N₆ hs₆ _ => ?_) hk hx))
    refine assignInOrder_cons (wpAny_assign_Name (stNK (s := ⟨h₆, g, d, tk₁ + 1, os⟩) F₆ N₆ (fun h₃ F₃ N₃ hs₃ _ => ?_) hk hy))
    refine assignInOrder_nil ?_
    have st₃ : St (i + 1) h₃ := W.frame _ _ _ st₅ fun b hb o e1 => hs₃.extBut b o (fun q => hGw (q ▸ hb)) (hs₆.extBut b o (fun q => hGw (q ▸ hb)) e1)
    show SegX _ _ _ _ _ ⟨h₃, g, d, tk₁ + 1 + 1, os⟩ _
    rw [PN_same (h' := h₃) (t' := tk₁ + 1 + 1)]
    refine turn i esc c t u led its m h₃ g d (tk₁ + 1 + 1) os hin hc hits F₃ N₃ A₅ j fun esc' led' own' m' h' g' d' tk' os' hown' F' N' A' hsub j' => ?_
    refine ih (i + 1) (by omega) esc' led' own' m' h' g' d' tk' os' hown' F' N' A' (W.frame _ _ _ st₃ fun b hb o e1 => ?_) j'
    rw [← hits] at hb
    obtain ⟨p, hp, rfl⟩ := List.mem_map.mp hb
    have e2 := (N₃ p (List.mem_append_left _ hp)).1
    rw [e1] at e2; cases e2
    exact (N' p (List.mem_append_left _ (hsub p hp))).1
end
end Mine
end
section
open PySem PySem.W PyProof.Rows PySem.Calls PyProof.Rows.LCg
namespace Mine
theorem ne_data {h₀ h : Heap} {L a b : Addr} {o o' : Obj} {led : List (Addr × Obj)} (N : News h₀ L h led) (h1 : (a, o) ∈ led) (h2 : (b, o') ∈ led) (hd : o.data ≠ o'.data) : a ≠ b := by
  rintro rfl
  have x := (N _ h1).1
  have y := (N _ h2).1
  simp only at x y
  rw [x] at y; cases y; exact hd rfl
section
variable {prog : Program} {w : World} {A : Around} {E : Value → Shared → Prop} {h₀ : Heap} {L : Addr} {env : Env}

theorem for_enum_list {elts : List Expr} {kk : Nat} {tp : Pos} {body : List Stmt} {s : Shared} {m : Str → Option Value} {news : List (Addr × Obj)} {R : Result → Shared → Prop} {l : Addr} {its₀ : Array Value}
    {J : Nat → (Str → Option Value) → List (Addr × Obj) → Prop} {Ret : Value → Shared → Prop}
    (hh : A.handled = none) (F : Fr h₀ L s.heap m) (N : News h₀ L s.heap news) {lo : Obj} (hlm : (l, lo) ∈ news) (hlc : lo.cls = .type "list") {ep : Nat} (hld : lo.data = .seq its₀ ep) 
    (hJs : ∀ i m' news', J i m' news' → (l, lo) ∈ news') (h0 : J 0 m news) (hlen : (assignEach elts env).length = 2) (hstar : (assignEach elts env).findIdx? (·.1) = none)
    (turn : ∀ i t v m' news' its h tk (E' : Value → Shared → Prop), i < its₀.size → its₀[i]? = some v → J i m' news' → Fr h₀ L h m' → News h₀ L h (news' ++ its) → (∀ p ∈ news', ∀ q ∈ its, q.1 ≠ p.1) → (∀ q ∈ its, ∃ fs, q.2.data = .fields fs) →
      wpAny (model prog w) A (assignInOrder ((assignEach elts env).map (·.2)) [.int i t, v]) (fun _ s₂ => wpAny (model prog w) A (execs body env) (FEnd h₀ L its ⟨h, s.gens, s.drawn, tk, s.os⟩ (J (i + 1)) Ret) E' s₂) E' ⟨h, s.gens, s.drawn, tk, s.os⟩)
    (fin : ∀ h tk m' news', J its₀.size m' news' → Fr h₀ L h m' → News h₀ L h news' → R (.ok .next) ⟨h, s.gens, s.drawn, tk, s.os⟩)
    (ret : ∀ v s', Ret v s' → R (.ok (.ret v)) s') :
    wpAny (model prog w) A (call (.type "enumerate") [.ref l]) (fun x s₁ => wpAny (model prog w) A (pyIter x) (fun it s₂ => codeAny (model prog w) A (.forLoop (.Tuple elts kk tp) it body [] env) R s₂) E s₁) E s := by
  have hl : s.heap.IsList l its₀ := ⟨_, (N _ hlm).1, hlc, _, hld⟩
  have hlt : l < s.heap.objs.size := by obtain ⟨_, e, _⟩ := hl; exact Heap.lt_size e
  refine call_enumerate_list hl fun h' he hi hz hk => ?_
  refine wpAny_pyIter_enum he ?_
  refine forloop_T (src := [(l, lo)]) (WalksT.enumerateD (Draws.list (A := A.in1) hh s.heap.objs.size l (Nat.ne_of_lt hlt) its₀) (s.heap.objs.size + 1) (Nat.succ_ne_self _) (by simp only [List.mem_cons, List.not_mem_nil, or_false, not_or]; exact ⟨Nat.succ_ne_self _, Nat.ne_of_gt (Nat.lt_succ_of_lt hlt)⟩) (by simp)) hh (fun i h st b hb => ?_) ⟨⟨_, he⟩, hi, hl.at fun o e => hk _ o e⟩
    (F.keeps hk) (N.grown hk) ?_ ?_ ?_ ?_ (J := J) ?_ h0 ?_ hstar ?_ fin ret
  · rcases List.mem_cons.mp hb with rfl | hb
    · exact ⟨_, st.1.choose_spec⟩
    · rw [List.mem_singleton.mp hb]; obtain ⟨o, e, _⟩ := st.2.1; exact ⟨o, e⟩
  · intro hb
    have := F.ns.lt
    rcases List.mem_cons.mp hb with h | hb
    · rw [h] at this; exact Nat.not_lt.mpr (Nat.le_succ _) this
    · rw [List.mem_singleton.mp hb] at this; exact Nat.lt_irrefl _ this
  · intro b hb
    rcases List.mem_cons.mp hb with rfl | hb
    · exact fresh₀ F (Nat.le_succ _)
    · rw [List.mem_singleton.mp hb]; exact fresh₀ F (Nat.le_refl _)
  · intro p hp hb
    have := Heap.lt_size (N p hp).1
    rcases List.mem_cons.mp hb with h | hb
    · rw [h] at this; exact Nat.not_lt.mpr (Nat.le_succ _) this
    · rw [List.mem_singleton.mp hb] at this; exact Nat.lt_irrefl _ this
  · intro b hb hbw
    rcases List.mem_cons.mp hb with rfl | hb
    · exact absurd (List.mem_cons_self ..) hbw
    · rcases List.mem_cons.mp hb with rfl | hb
      · exact absurd (List.mem_cons_of_mem _ (List.mem_singleton.mpr rfl)) hbw
      · rw [List.mem_singleton.mp hb]; exact ⟨_, .inr (.head _)⟩
  · intro i m' news' j p hp
    rw [List.mem_singleton.mp hp]; exact hJs _ _ _ j
  · rintro vals i _ ⟨t, x, _, rfl⟩; exact hlen
  · rintro i vals m' news' its h tk E' hi' ⟨t, x, hx, rfl⟩ j F' N' off hit st
    refine turn i t x m' news' its h tk E' hi' hx j F' N' off fun q hq => ?_
    have hq2 := (N' q (List.mem_append_right _ hq)).1
    rcases List.mem_cons.mp (hit q hq) with e | e
    · obtain ⟨old, ho⟩ := st.1
      rw [e, ho] at hq2; exact ⟨_, by rw [← Option.some.inj hq2]⟩
    · obtain ⟨o, ho, _, hd⟩ := st.2.1
      rw [List.mem_singleton.mp e, ho] at hq2; exact ⟨_, by rw [← Option.some.inj hq2]; exact hd⟩
end
end Mine
end
section
open PySem PySem.W PyProof.Rows PySem.Calls PyProof.Rows.LCg
namespace Mine
section
variable {prog : Program} {w : World} {A : Around} {E : Value → Shared → Prop} {h₀ : Heap} {L : Addr} {env : Env}
theorem for_list {target : Expr} {body : List Stmt} {s : Shared} {m : Str → Option Value} {news : List (Addr × Obj)} {R : Result → Shared → Prop} {l : Addr} {its₀ : Array Value}
    {J : Nat → (Str → Option Value) → List (Addr × Obj) → Prop} {Ret : Value → Shared → Prop}
    (hh : A.handled = none) (F : Fr h₀ L s.heap m) (N : News h₀ L s.heap news) {lo : Obj} (hlm : (l, lo) ∈ news) (hlc : lo.cls = .type "list") {ep : Nat} (hld : lo.data = .seq its₀ ep)
    (hgo : ∀ I i (s' : Shared) v (Q' : Unit → Shared → Prop) (E' : Value → Shared → Prop), its₀[i]? = some v → s'.heap.IsListIter I l (i + 1) → Q' () s' → wpAny (model prog w) A (letOwnedTupleGo target (.ref I) v) Q' E' s')
    (hJs : ∀ i m' news', J i m' news' → (l, lo) ∈ news') (h0 : J 0 m news)
    (turn : ∀ i v m' news' its h tk (E' : Value → Shared → Prop), i < its₀.size → its₀[i]? = some v → J i m' news' → Fr h₀ L h m' → News h₀ L h (news' ++ its) → (∀ p ∈ news', ∀ q ∈ its, q.1 ≠ p.1) → (∀ q ∈ its, ∃ fs, q.2.data = .fields fs) →
      wpAny (model prog w) A (assign target env v) (fun _ s₂ => wpAny (model prog w) A (execs body env) (FEnd h₀ L its ⟨h, s.gens, s.drawn, tk, s.os⟩ (J (i + 1)) Ret) E' s₂) E' ⟨h, s.gens, s.drawn, tk, s.os⟩)
    (fin : ∀ h tk m' news', J its₀.size m' news' → Fr h₀ L h m' → News h₀ L h news' → R (.ok .next) ⟨h, s.gens, s.drawn, tk, s.os⟩)
    (ret : ∀ v s', Ret v s' → R (.ok (.ret v)) s') :
    wpAny (model prog w) A (pyIter (.ref l)) (fun it s₂ => codeAny (model prog w) A (.forLoop target it body [] env) R s₂) E s := by
  have hl : s.heap.IsList l its₀ := ⟨_, (N _ hlm).1, hlc, _, hld⟩
  have hlt : l < s.heap.objs.size := by obtain ⟨_, e, _⟩ := hl; exact Heap.lt_size e
  refine wpAny_pyIter_list hl ?_
  refine forloop_W (src := [(l, lo)]) (Walks.list hh s.heap.objs.size l (Nat.ne_of_lt hlt) its₀) (fun i s' v Q' E' hv st q => hgo _ i s' v Q' E' hv st.1 q) (fun i h st b hb => ?_) ⟨⟨_, Heap.get?_push_size _ rfl, rfl, rfl⟩, hl.push _⟩
    (F.pushS _) (N.pushKeep _) ?_ ?_ ?_ ?_ (J := J) ?_ h0 ?_ fin ret
  · rw [List.mem_singleton.mp hb]; obtain ⟨o, e, _⟩ := st.1; exact ⟨o, e⟩
  · intro hb; exact Nat.lt_irrefl _ (List.mem_singleton.mp hb ▸ F.ns.lt)
  · intro b hb; rw [List.mem_singleton.mp hb]; exact fresh₀ F (Nat.le_refl _)
  · intro p hp hb
    have := Heap.lt_size (N p hp).1
    rw [List.mem_singleton.mp hb] at this; exact Nat.lt_irrefl _ this
  · intro b hb hbw
    rcases List.mem_cons.mp hb with rfl | hb
    · exact absurd (List.mem_singleton.mpr rfl) hbw
    · rw [List.mem_singleton.mp hb]; exact ⟨_, .inr (.head _)⟩
  · intro i m' news' j p hp
    rw [List.mem_singleton.mp hp]; exact hJs _ _ _ j
  · intro i v m' news' its h tk E' hi hv j F' N' off hit st
    refine turn i v m' news' its h tk E' hi hv j F' N' off fun q hq => ?_
    have hq2 := (N' q (List.mem_append_right _ hq)).1
    obtain ⟨o, ho, _, hd⟩ := st.1
    rw [List.mem_singleton.mp (hit q hq), ho] at hq2
    exact ⟨_, by rw [← Option.some.inj hq2]; exact hd⟩
end
end Mine
end
section
open PySem PySem.W PyProof.Rows PySem.Calls PyProof.Rows.LCg
namespace Mine
section
variable {prog : Program} {w : World} {A : Around} {E : Value → Shared → Prop} {h₀ : Heap} {L : Addr} {env : Env}
/-- The end of a while's turn: the invariant again, at a smaller measure. -/
structure WEnd (h₀ : Heap) (L : Addr) (s : Shared) (k : Nat) (J : Nat → (Str → Option Value) → List (Addr × Obj) → Prop) (f : Flow) (s' : Shared) : Prop where
  intro ::
  out : f = .next ∧ ∃ k' h' tk m' news', k' < k ∧ s' = { s with heap := h', toks := tk } ∧ Fr h₀ L h' m' ∧ News h₀ L h' news' ∧ J k' m' news'
theorem WEnd.next {k k' : Nat} {hp h' : Heap} {g : Array GenState} {d : Drawn} {t tk : Nat} {os : OsState} {J : Nat → (Str → Option Value) → List (Addr × Obj) → Prop} {m' : Str → Option Value} {news' : List (Addr × Obj)}
    (F : Fr h₀ L h' m') (N : News h₀ L h' news') (hk : k' < k) (j : J k' m' news') : WEnd h₀ L ⟨hp, g, d, t, os⟩ k J .next ⟨h', g, d, tk, os⟩ := ⟨rfl, k', h', tk, m', news', hk, rfl, F, N, j⟩
theorem while_M {test : Expr} {body : List Stmt} {pos : Pos} {s : Shared} {m : Str → Option Value} {news : List (Addr × Obj)} {Q : Flow → Shared → Prop}
    (J : Nat → (Str → Option Value) → List (Addr × Obj) → Prop) (n : Nat) (F : Fr h₀ L s.heap m) (N : News h₀ L s.heap news) (h0 : J n m news)
    (turn : ∀ k m' news' h tk (E' : Value → Shared → Prop), J k m' news' → Fr h₀ L h m' → News h₀ L h news' →
      wpAny (model prog w) A (isTrue test env (eval test env)) (fun b s₂ => if b = true then wpAny (model prog w) A (execs body env) (WEnd h₀ L ⟨h, s.gens, s.drawn, tk, s.os⟩ k J) E' s₂ else Q .next s₂) E' ⟨h, s.gens, s.drawn, tk, s.os⟩) :
    wpAny (model prog w) A (exec (.While test body [] pos) env) Q E s := by
  refine wpAny_While ?_
  refine codeAny_whileLoop (fun k s' => ∃ h' tk m' news', s' = ⟨h', s.gens, s.drawn, tk, s.os⟩ ∧ Fr h₀ L h' m' ∧ News h₀ L h' news' ∧ J k m' news') ?_ n ⟨s.heap, s.toks, m, news, rfl, F, N, h0⟩
  rintro k s' ⟨h', tk, m', news', rfl, F', N', j⟩
  refine wpAny_mono (turn k m' news' h' tk _ j F' N') (fun b s₂ hb => ?_) fun _ _ e => e
  cases b with
  | false => exact wpAny_execs_nil hb
  | true =>
    simp only [if_true] at hb ⊢
    refine wpAny_mono hb (fun f s₃ h₃ => ?_) fun _ _ e => e
    obtain ⟨rfl, k', h₂, tk₂, m₂, news₂, hk, rfl, F₂, N₂, j₂⟩ := h₃.out
    exact ⟨k', hk, h₂, tk₂, m₂, news₂, rfl, F₂, N₂, j₂⟩
/-- The way out of a while. -/
structure XEnd (h₀ : Heap) (L : Addr) (s : Shared) (Jx : (Str → Option Value) → List (Addr × Obj) → Prop) (s' : Shared) : Prop where
  intro ::
  out : ∃ h' tk m' news', s' = { s with heap := h', toks := tk } ∧ Fr h₀ L h' m' ∧ News h₀ L h' news' ∧ Jx m' news'
theorem XEnd.mk {hp h' : Heap} {g : Array GenState} {d : Drawn} {t tk : Nat} {os : OsState} {Jx : (Str → Option Value) → List (Addr × Obj) → Prop} {m' : Str → Option Value} {news' : List (Addr × Obj)}
    (F : Fr h₀ L h' m') (N : News h₀ L h' news') (j : Jx m' news') : XEnd h₀ L ⟨hp, g, d, t, os⟩ Jx ⟨h', g, d, tk, os⟩ := ⟨h', tk, m', news', rfl, F, N, j⟩
theorem while_X {test : Expr} {body : List Stmt} {pos : Pos} {s : Shared} {m : Str → Option Value} {news : List (Addr × Obj)} {Q : Flow → Shared → Prop}
    (J : Nat → (Str → Option Value) → List (Addr × Obj) → Prop) (Jx : (Str → Option Value) → List (Addr × Obj) → Prop) (n : Nat) (F : Fr h₀ L s.heap m) (N : News h₀ L s.heap news) (h0 : J n m news)
    (turn : ∀ k m' news' h tk (E' : Value → Shared → Prop), J k m' news' → Fr h₀ L h m' → News h₀ L h news' →
      wpAny (model prog w) A (isTrue test env (eval test env)) (fun b s₂ => if b = true then wpAny (model prog w) A (execs body env) (WEnd h₀ L ⟨h, s.gens, s.drawn, tk, s.os⟩ k J) E' s₂ else XEnd h₀ L ⟨h, s.gens, s.drawn, tk, s.os⟩ Jx s₂) E' ⟨h, s.gens, s.drawn, tk, s.os⟩)
    (fin : ∀ h tk m' news', Jx m' news' → Fr h₀ L h m' → News h₀ L h news' → Q .next ⟨h, s.gens, s.drawn, tk, s.os⟩) :
    wpAny (model prog w) A (exec (.While test body [] pos) env) Q E s := by
  refine while_M J n F N h0 fun k m' news' h tk E' j F' N' => ?_
  refine wpAny_mono (turn k m' news' h tk E' j F' N') (fun b s₂ hb => ?_) fun _ _ e => e
  cases b with
  | true => exact hb
  | false =>
    obtain ⟨h₂, tk₂, m₂, news₂, rfl, F₂, N₂, j₂⟩ := hb.out
    exact fin h₂ tk₂ m₂ news₂ j₂ F₂ N₂
end
end Mine
end
section
open PySem PySem.W PyProof.Rows PySem.Calls PyProof.Rows.LCg
namespace Mine
section
variable {prog : Program} {w : World} {A : Around} {E : Value → Shared → Prop} {h₀ : Heap} {L : Addr} {env : Env}
/-- A while, its turn for any generators, drawn and os. -/
theorem while_Y {test : Expr} {body : List Stmt} {pos : Pos} {s : Shared} {m : Str → Option Value} {news : List (Addr × Obj)} {Q : Flow → Shared → Prop}
    (J : Nat → (Str → Option Value) → List (Addr × Obj) → Prop) (Jx : (Str → Option Value) → List (Addr × Obj) → Prop) (n : Nat) (F : Fr h₀ L s.heap m) (N : News h₀ L s.heap news) (h0 : J n m news)
    (turn : ∀ k m' news' h tk (g : Array GenState) (d : Drawn) (os : OsState) (E' : Value → Shared → Prop), J k m' news' → Fr h₀ L h m' → News h₀ L h news' →
      wpAny (model prog w) A (isTrue test env (eval test env)) (fun b s₂ => if b = true then wpAny (model prog w) A (execs body env) (WEnd h₀ L ⟨h, g, d, tk, os⟩ k J) E' s₂ else XEnd h₀ L ⟨h, g, d, tk, os⟩ Jx s₂) E' ⟨h, g, d, tk, os⟩)
    (fin : ∀ h tk m' news', Jx m' news' → Fr h₀ L h m' → News h₀ L h news' → Q .next ⟨h, s.gens, s.drawn, tk, s.os⟩) :
    wpAny (model prog w) A (exec (.While test body [] pos) env) Q E s :=
  while_X J Jx n F N h0 (fun k m' news' h tk E' j F' N' => turn k m' news' h tk s.gens s.drawn s.os E' j F' N') fin
end
end Mine
namespace Mine
section
variable {prog : Program} {w : World} {A : Around} {E : Value → Shared → Prop} {s : Shared} {h₀ : Heap} {L : Addr} {m : Str → Option Value} {news : List (Addr × Obj)}
/-- list(range(a, b, c)) where the range holds just one number. -/
theorem list_range_one {r : Addr} {a b c : Int} {t u v : Tok} {Q : Value → Shared → Prop} (hh : A.handled = none) (F : Fr h₀ L s.heap m) (N : News h₀ L s.heap news) (hr : IsRange s.heap r a b c t u v) (hsmall : Builtin.Range.small a b c = true) (hn : Builtin.Range.rangeSize a b c = ((1 : Nat) : Int))
    (h : ∀ D t c' h' tk, (∀ p ∈ news, p.1 ≠ D) → Fr h₀ L h' m → News h₀ L h' ((D, ({ cls := .type "list", data := .seq [Value.int a t].toArray c' } : Obj)) :: news) → Q (.ref D) { s with heap := h', toks := tk }) :
    wpAny (model prog w) A (call (.type "list") [.ref r]) Q E s := by
  refine call_list_range hh hr hsmall hn (by decide) fun h' tk acc c' hk hD hI => ?_
  obtain ⟨t', ht⟩ := hI.2 0 (acc[0]'(by rw [hI.1]; decide)) (by simp [hI.1])
  have hacc : acc = [Value.int a t'].toArray := by
    apply Array.ext
    · rw [hI.1]; rfl
    · intro i h1 h2
      have : i = 0 := by rw [hI.1] at h1; omega
      subst this
      rw [ht]; simp
  rw [hacc] at hD
  exact h _ t' c' h' tk (fun p hp => Nat.ne_of_lt (Heap.lt_size (N p hp).1)) (F.keeps hk) (news_pushed F N hk hD rfl)
end
end Mine
namespace Mine
section
variable {prog : Program} {w : World} {A : Around} {E : Value → Shared → Prop} {h₀ : Heap} {L : Addr} {env : Env}
/-- A for loop over a range by ones. -/
theorem for_range {x : Str} {px : Pos} {body : List Stmt} {s : Shared} {m : Str → Option Value} {news : List (Addr × Obj)} {R : Result → Shared → Prop} {r : Addr} {a b : Int} {t u v : Tok} {n : Nat}
    (J : Nat → (Str → Option Value) → List (Addr × Obj) → Prop) (Ret : Value → Shared → Prop)
    (hh : A.handled = none) (F : Fr h₀ L s.heap m) (N : News h₀ L s.heap news) (hr : IsRange s.heap r a b 1 t u v) (hsm : Builtin.Range.small a b 1 = true) (hn : Builtin.Range.rangeSize a b 1 = ((n : Nat) : Int)) (h0 : J 0 m news)
    (turn : ∀ i t m' news' its h tk (g : Array GenState) (d : Drawn) (os : OsState) (E' : Value → Shared → Prop), i < n → J i m' news' → Fr h₀ L h m' → News h₀ L h (news' ++ its) → (∀ p ∈ news', ∀ q ∈ its, q.1 ≠ p.1) →
      wpAny (model prog w) A (assign (.Name x px) env (.int (a + (i : Int)) t)) (fun _ s₂ => wpAny (model prog w) A (execs body env) (FEnd h₀ L its ⟨h, g, d, tk, os⟩ (J (i + 1)) Ret) E' s₂) E' ⟨h, g, d, tk, os⟩)
    (fin : ∀ h tk m' news', J n m' news' → Fr h₀ L h m' → News h₀ L h news' → R (.ok .next) ⟨h, s.gens, s.drawn, tk, s.os⟩)
    (ret : ∀ v s', Ret v s' → R (.ok (.ret v)) s') :
    wpAny (model prog w) A (pyIter (.ref r)) (fun it s₂ => codeAny (model prog w) A (.forLoop (.Name x px) it body [] env) R s₂) E s := by
  refine wpAny_pyIter_range hr hsm ?_
  refine forloop_W (src := []) (range_walks hh a n) (fun i s' v Q' E' hv st q => ?_) (fun i h st b hb => ?_) (by show IsRangeIter _ _ _ _ _; rw [hn]; simpa using Heap.get?_push_size _ rfl)
    (F.pushS _) (N.pushKeep _) ?_ ?_ ?_ ?_ (J := J) ?_ h0 ?_ fin ret
  · exact wpAny_pure q
  · rw [List.mem_singleton.mp hb]; exact ⟨_, st⟩
  · intro hb; exact Nat.lt_irrefl _ (List.mem_singleton.mp hb ▸ F.ns.lt)
  · intro b hb; rw [List.mem_singleton.mp hb]; exact fresh₀ F (Nat.le_refl _)
  · intro p hp hb
    have := Heap.lt_size (N p hp).1
    rw [List.mem_singleton.mp hb] at this; exact Nat.lt_irrefl _ this
  · intro b hb hbw
    exact absurd hb hbw
  · intro i m' news' j p hp
    cases hp
  · rintro i v m' news' its h tk E' hi ⟨t, rfl⟩ j F' N' off hit st
    exact turn i t m' news' its h tk _ _ _ E' hi j F' N' off
end
end Mine
namespace Mine
theorem Fr.named {h₀ h : Heap} {L : Addr} {m : Str → Option Value} (F : Fr h₀ L h m) : ∃ m', m' = m ∧ Fr h₀ L h m' := ⟨m, rfl, F⟩
end Mine
namespace Mine
theorem ladder_hd {m : Str → Option Value} {a : Str} {v : Option Value} (h : m a = v) : m = fun y => if y = a then v else m y := by
  funext y
  by_cases c : y = a
  · subst c; rw [if_pos rfl]; exact h
  · rw [if_neg c]
end Mine
namespace Mine
theorem ladder3 {m : Str → Option Value} {a b c : Str} {v1 v2 v3 : Option Value} (h1 : m a = v1) (h2 : m b = v2) (h3 : m c = v3) : m = fun y => if y = a then v1 else if y = b then v2 else if y = c then v3 else m y := by
  funext y
  by_cases c1 : y = a
  · subst c1; rw [if_pos rfl]; exact h1
  rw [if_neg c1]
  by_cases c2 : y = b
  · subst c2; rw [if_pos rfl]; exact h2
  rw [if_neg c2]
  by_cases c3 : y = c
  · subst c3; rw [if_pos rfl]; exact h3
  rw [if_neg c3]
end Mine
end
section
theorem Mine.reset_G4 : True := by
  w_top off
  trivial
open PySem PySem.W PySem.W.X PyProof.Rows PySem.Calls PyProof.Rows.LCg
namespace Mine
section
variable {prog : Program} {w : World} {A A₀ : Around} {s : Shared} {K : Frag} {L : Addr} {h₀ : Heap} {m mg mb : Str → Option Value} {news : List (Addr × Obj)} {p : Program} {loose : List Str} {mean : ExcName → Option Value}
theorem code_gen {R : Result → Shared → Prop} {name qual : Str} {params : Arguments} {body : List Stmt} {scope : Scope} {dV kV doc pm cdv ct oc : Value} {an od : Option Addr} {osl : Array (Option Value)} {f : Addr} {args : Args} {binds : List (Str × Value)}
    (F : Fr h₀ L s.heap m) (X₀ : K.In h₀) (N : News h₀ L s.heap news) (T : Top p loose mean mg mb h₀)
    (ho : K.lookup f = some ⟨oc, od, .func (fnOf name qual params body scope dV kV doc pm an cdv ct), osl⟩) (hcd : codeIn K cdv qual = true) (hroom : A.depth < recursionLimit)
    (hbind : BindsTo s (fnOf name qual params body scope dV kV doc pm an cdv ct) args binds) (hloc : ∀ y ∈ binds, scope.names.lookup y.1 = some .local)
    (h : ∀ G a h₁ tk, Fr h₀ L h₁ m → Fr h₀ G h₁ (fun y => binds.reverse.lookup y) → News h₀ L h₁ news → h₁.IsGen a s.gens.size → (∀ p ∈ news, p.1 < G) → L < G → G < a →
      R (.ok (.ret (.ref a))) { s with heap := h₁, toks := tk, gens := s.gens.push (.fresh (.func body (envOf qual scope G f cdv))) })
    (hco : scope.isCoroutine = false) (hgen : scope.isGenerator = true) (hk : scope.kind = .function)
    (hcell : ∀ x ∈ scope.names, x.2 ≠ .cell) : codeAny (model prog w) A (.call (.ref f) args) R s := by
  refine codeAny_call_generator (body := body) hroom ((X₀.keeps F.keep) _ _ ho) rfl hco hgen rfl (codeRec_of (X₀.keeps F.keep) hcd) ?_
  refine hbind _ _ _ _ ?_
  refine wpAny_newFunctionEnv hcell hloc (fun h' hn hs => ?_) hk
  have old : ∀ b o, s.heap.get? b = some o → h'.get? b = some o := fun b o e => hs.extBut b o (Nat.ne_of_lt (Heap.lt_size e)) (Heap.get?_push_of_some _ e)
  have F' : Fr h₀ L h' m := F.keeps old
  refine ⟨T.nolimit.keeps F'.keep, ?_⟩
  have hGa : s.heap.objs.size < h'.objs.size := hn.lt
  exact h s.heap.objs.size h'.objs.size _ _ (F'.push _) ⟨(hn.push _), fun b o e => Heap.get?_push_of_some _ (F'.keep b o e), Nat.le_trans F.above (Nat.le_of_lt F.ns.lt)⟩
    (fun q hq => ⟨Heap.get?_push_of_some _ (old _ _ (N q hq).1), (N q hq).2⟩) ⟨_, _, _, Heap.get?_push_size _ rfl, rfl, rfl, rfl⟩ (fun q hq => Heap.lt_size (N q hq).1) F.ns.lt hGa
end
/-- The pieces that `_iter_escaped_chars` yields. -/
def pcs : List Nat → Bool → List (List Nat)
  | [], false => []
  | [], true => [[92]]
  | c :: r, true => [92, c] :: pcs r false
  | c :: r, false => if c = 92 then pcs r true else [c] :: pcs r false
theorem seg_same {M : Model} {A A₂ : Around} {c : Code} {t : Sem Fin} {fs : List Frame} {h₀ : Heap} {G : Addr} {ps : List (List Nat)} {led : List (Addr × Obj)} {h h' : Heap} {g : Array GenState} {d : Drawn} {tk tk' : Nat} {os : OsState}
    (x : SegX M A c t fs ⟨h', g, d, tk', os⟩ (PN M A₂ h₀ G ps led ⟨h', g, d, tk', os⟩)) : SegX M A c t fs ⟨h', g, d, tk', os⟩ (PN M A₂ h₀ G ps led ⟨h, g, d, tk, os⟩) := by
  rw [PN_same (h' := h') (t' := tk')]; exact x
theorem drop_at {l : List Nat} {i c : Nat} (h : l[i]? = some c) : l.drop i = c :: l.drop (i + 1) := by
  rw [List.drop_eq_getElem_cons (List.getElem?_eq_some_iff.mp h).1]
  rw [(List.getElem?_eq_some_iff.mp h).2]
local macro_rules | `(tactic| walk_at "call type:enumerate") => `(tactic| refine Hold.mk ?_)
theorem escaped_c (w : World) (loose : List Str) (mean : ExcName → Option Value) (mg mb : Str → Option Value) (l : List Nat) (t : Tok) (hl : l.length ≤ 1000) (hasc : (tx l).cps.all (· < 128) = true) :
  ∀ (dp un : Nat) (gd : Option (List Code)) (cn : Str) (cs : Scope) (a' : Addr) (ccd : Value) (cl : List (Str × Addr)) (outer : List Env) (A₀ : Around) (base h₀ : Heap) (L : Addr) (m : Str → Option Value) (news : List (Addr × Obj)) (s : Shared) (Q E : Value → Shared → Prop)
  (BE : Below A₀ base outer h₀) (FE : Fr h₀ L s.heap m) (XE : (hd.heap_39 w.params).In h₀) (NE : News h₀ L s.heap news) (TE : Top topProg loose mean mg mb h₀) (hkE : cs.kind = .function)
  (hd1 : dp + 8 < recursionLimit) (hd2 : un + 16 * 8 < cLine)
  (hret : ∀ (a G : Addr) (mG : Str → Option Value) (gs' : Array GenState) (h' : Heap) (tk' : Nat), (AllBare s.gens → AllBare gs') → Fr h₀ L h' m → News h₀ L h' news → h'.IsGen a s.gens.size → GenN PySem.Challenge.rw_to0078_01.row.toRowW.prog w (ktrTop dp un gd cn cs L a' ccd cl outer) h₀ s.gens.size G (pcs l false) [] mG h' gs' →
      (∀ p ∈ news, p.1 < G) → L < G → G < a → h₀.get? a = none → Q (.ref a) { s with heap := h', toks := tk', gens := gs' }),
  wpAny (model PySem.Challenge.rw_to0078_01.row.toRowW.prog w) (ktrTop dp un gd cn cs L a' ccd cl outer) (call (.ref 74) [.str (tx l) t]) Q E s := by
  k_fill
  intro dp un gd cn cs a' ccd cl outer A₀ base h₀ L m news s Q E BE FE XE NE TE hkE hd1 hd2 hret
  refine wpAny_call ?_
  k_dflt (refine' code_gen (p := topProg) ?k1 ?k2 ?k3 ?k4 ?k6 ?k7 ?k8 ?k9 ?kB ?_ ?c2 ?c3 ?c4 ?c5; (case k1 => k_asm); (case k2 => k_asm); (case k3 => k_asm); (case k4 => k_asm); (case k6 => k_is); (case k7 => k_is); (case k8 => ktr_room); (case k9 => exact BindsTo.of_eq rfl); (case c5 => decide); (case kB => exact locs rfl); (case c2 => exact rfl); (case c3 => exact rfl); (case c4 => exact rfl); k_whole; intro G a h₁ tk₁ F₁ FG N₁ hga hlt hLG hGa)
  dsimp only
  have ha₀ : h₀.get? a = none := Heap.get?_none_of_le (Nat.le_trans FG.above (Nat.le_of_lt hGa))
  refine hret a G _ _ h₁ tk₁ (fun q => AllBare.push q rfl) F₁ N₁ hga ⟨FG, fun _ h => (nomatch h), ⟨_, _, _, _, by rw [Array.getElem?_push_size], .inl ⟨rfl, rfl, rfl⟩, ?_⟩⟩ hlt hLG hGa ha₀
  rintro ⟨hp, gg, dd, tt, oo⟩ led' F N Ap
  refine sx_func ?_
  refine sx_execs_cons ?_
  refine sx_wrap ?_
  k_steps
  show SegX _ _ _ ((execs _ _).wrap _ _ _ _) _ _ _
  refine sx_execs_cons ?_
  refine sx_wrap ?_
  k_steps
  show SegX _ _ _ ((execs _ _).wrap _ _ _ _) _ _ _
  refine sx_execs_cons ?_
  refine sx_For ?_
  k_steps
  refine Hold.of ?_
  rename Fr _ _ _ _ => F2
  rename News _ _ _ _ => N2
  refine call_enumerate_str fun h' he hi hz hk => ?_
  refine wpAny_pyIter_enum he ?_
  intro p
  show SegX _ _ _ _ _ ⟨h', gg, dd, _, oo⟩ _
  rw [show strIterType (tx l) = "str_ascii_iterator" from by simp only [strIterType, hasc, if_true]] at hi
  have F3 : Fr h₀ G h' _ := F2.keeps hk
  have N3 : News h₀ G h' led' := fun q hq => ⟨hk _ _ (N2 q hq).1, (N2 q hq).2⟩
  have hGlt : G < h'.objs.size := F3.ns.lt
  have hsz : (tx l).cps.size = l.length := by unfold tx; simp
  have hGz : G < _ := F2.ns.lt
  have hN2lt : ∀ q ∈ led', q.1 < _ := fun q hq => Heap.lt_size (N2 q hq).1
  have frS : ∀ b, _ ≤ b → h₀.get? b = none := fun b hb => fresh₀ F2 hb
  obtain ⟨own, hown, Nown⟩ := its_of (h := h') (L := G) (h₀ := h₀) (wr := [_, _]) (fun b hb => by
      rcases List.mem_cons.mp hb with rfl | hb
      · exact ⟨_, he⟩
      · rw [List.mem_singleton.mp hb]; obtain ⟨o, e1, _⟩ := hi; exact ⟨o, e1⟩) (fun hb => by
      rcases List.mem_cons.mp hb with hb | hb
      · exact Nat.lt_irrefl _ (hb ▸ Nat.lt_succ_of_lt hGz)
      · exact Nat.lt_irrefl _ (List.mem_singleton.mp hb ▸ hGz)) (fun b hb => by
      rcases List.mem_cons.mp hb with rfl | hb
      · exact frS _ (Nat.le_succ _)
      · rw [List.mem_singleton.mp hb]; exact frS _ (Nat.le_refl _))
  refine seg_same (seg_enum (z := tx l) (fun i esc => pcs (l.drop i) esc) (fun i esc m => m (Str.ofString "escape") = some (.bool esc) ∧ ∃ pv pt, m (Str.ofString "pos") = some (.int pv pt))
    (by rfl) (WalksT.enumerateD (Draws.strAscii (A := Around.in1 _) (by rfl) _ (tx l) t) _ (Nat.succ_ne_self _) (by simp) (by simp)) (fun i vals _ hP => ?_) (fun i h st b hb => ?_) ?_ ?_ rfl rfl rfl ?_ ?_ (tx l).cps.size 0 (Nat.zero_add _) false led' own _ h' gg dd _ oo hown F3 ?_ ?_ ⟨⟨_, he⟩, hi⟩ ⟨rfl, 0, _, rfl⟩)
  · obtain ⟨t', _, ⟨c, u, hc, rfl⟩, rfl⟩ := hP; exact ⟨t', c, u, rfl, hc⟩
  · rcases List.mem_cons.mp hb with rfl | hb
    · exact ⟨_, st.1.choose_spec⟩
    · rw [List.mem_singleton.mp hb]; obtain ⟨o, e1, _⟩ := st.2; exact ⟨o, e1⟩
  · intro hb
    rcases List.mem_cons.mp hb with hb | hb
    · exact Nat.lt_irrefl _ (hb ▸ Nat.lt_succ_of_lt hGz)
    · exact Nat.lt_irrefl _ (List.mem_singleton.mp hb ▸ hGz)
  · intro b hb
    rcases List.mem_cons.mp hb with rfl | hb
    · exact frS _ (Nat.le_succ _)
    · rw [List.mem_singleton.mp hb]; exact frS _ (Nat.le_refl _)
  · intro i esc c tt2 u led own2 m2 h2 g2 d2 tk2 os2 hin hc hown2 FF NN AA j IH
    have hlc : l[i]? = some c := by have e := hc; unfold tx at e; simpa using e
    obtain ⟨j1, pv, pt, j2⟩ := j
    rw [ladder_hd j1] at FF
    clear F2 N2 F3 N3
    cases esc
    · refine sx_execs_cons ?_
      refine sx_If ?_
      k_steps
      show SegX _ _ _ ((execs _ _).wrap _ _ _ _) _ _ _
      refine sx_execs_cons ?_
      refine sx_If ?_
      k_steps
      · rename_i hEq
        have hc92 : c = 92 := by
          have e1 : (⟨#[c]⟩ : Str) = Str.ofString "\\" := by simpa using hEq
          have e2 : #[c] = #[92] := congrArg Str.cps e1
          simpa using e2
        show SegX _ _ _ ((execs _ _).wrap _ _ _ _) _ _ _
        refine sx_execs_cons ?_
        refine sx_wrap ?_
        k_steps
        show SegX _ _ _ ((execs _ _).wrap _ _ _ _) _ _ _
        refine sx_execs_nil ?_
        show SegX _ _ _ ((execs _ _).wrap _ _ _ _) _ _ _
        refine sx_execs_nil ?_
        show SegX _ _ _ ((execs _ _).wrap _ _ _ _) _ _ _
        refine sx_execs_nil ?_
        show SegX _ _ _ (.pure (.again _)) _ _ _
        refine s_again _ _ _ _ _ _ _ _ rfl ?_
        rename Fr _ _ _ _ => F9
        rename News _ _ _ _ => N9
        rw [drop_at hlc, show pcs (c :: l.drop (i + 1)) false = pcs (l.drop (i + 1)) true from by rw [hc92]; rfl]
        exact seg_same (IH true led own2 _ _ g2 d2 _ os2 hown2 F9 N9 AA (fun q h => h) ⟨rfl, _, _, rfl⟩)
      · rename_i hEq
        have hc92 : c ≠ 92 := by
          rintro rfl
          exact absurd hEq (by decide)
        show SegX _ _ _ ((execs _ _).wrap _ _ _ _) _ _ _
        refine sx_execs_cons ?_
        refine sx_Expr_Yield rfl rfl rfl ?_
        k_steps
        rename_i T hT2 FT NT lT ll kk pp hkk
        show PN _ _ _ _ (pcs (l.drop i) false) led _ _ ⟨hT2, g2, d2, _, os2⟩
        rw [drop_at hlc, show pcs (c :: l.drop (i + 1)) false = [c] :: pcs (l.drop (i + 1)) false from by simp only [pcs, if_neg hc92]]
        refine ⟨T, _, _, ll, kk, _, pp, _, own2, _, hT2, _, rfl, rfl, ⟨_, (NT _ (.head _)).1, rfl, _, rfl⟩, FT, fun q hq => NT q (.tail _ hq), AA, fun s'' led'' F'' N'' A'' => ?_⟩
        obtain ⟨hq, gq, dq, tq, oq⟩ := s''
        rw [hkk]
        show SegX _ _ _ ((execs _ _).wrap _ _ _ _) _ _ _
        refine sx_execs_nil ?_
        show SegX _ _ _ ((execs _ _).wrap _ _ _ _) _ _ _
        refine sx_execs_nil ?_
        show SegX _ _ _ ((execs _ _).wrap _ _ _ _) _ _ _
        refine sx_execs_nil ?_
        show SegX _ _ _ (.pure (.again _)) _ _ _
        refine s_again _ _ _ _ _ _ _ _ rfl ?_
        exact IH false led'' own2 _ _ gq dq _ oq hown2 F'' N'' A'' (fun q h => h) ⟨rfl, _, _, rfl⟩
    · refine sx_execs_cons ?_
      refine sx_If ?_
      k_steps
      refine sx_execs_cons ?_
      refine sx_Expr_Yield rfl rfl rfl ?_
      k_steps
      rename_i tU kU _ T hT2 FT NT lT ll kk pp hkk
      show PN _ _ _ _ (pcs (l.drop i) true) led _ _ ⟨hT2, g2, d2, _, os2⟩
      rw [drop_at hlc]
      refine ⟨T, _, _, ll, kk, _, pp, _, own2, _, hT2, _, rfl, rfl, ⟨_, (NT _ (.head _)).1, rfl, _, rfl⟩, FT, fun q hq => NT q (.tail _ hq), AA, fun s'' led'' F'' N'' A'' => ?_⟩
      obtain ⟨hq, gq, dq, tq, oq⟩ := s''
      rw [hkk]
      refine sx_execs_cons ?_
      refine sx_wrap ?_
      clear FT NT
      k_steps
      show SegX _ _ _ ((execs _ _).wrap _ _ _ _) _ _ _
      refine sx_execs_nil ?_
      show SegX _ _ _ ((execs _ _).wrap _ _ _ _) _ _ _
      refine sx_execs_nil ?_
      show SegX _ _ _ (.pure (.again _)) _ _ _
      refine s_again _ _ _ _ _ _ _ _ rfl ?_
      rename Fr _ _ _ _ => F9
      rename News _ _ _ _ => N9
      exact seg_same (IH false led'' own2 _ _ gq dq _ oq hown2 F9 N9 A'' (fun q h => h) ⟨rfl, _, _, rfl⟩)
  · intro esc led own2 m2 h2 g2 d2 tk2 os2 FF NN AA j
    obtain ⟨j1, pv, pt, j2⟩ := j
    rw [ladder3 j1 j2 j2] at FF
    clear F2 N2 F3 N3
    rw [hsz, List.drop_length]
    refine s_pop _ _ _ _ _ _ _ (.ok .next) _ rfl _ _ _ _ _ _ _ ?_
    show SegX _ _ _ ((execs _ _).wrap _ _ _ _) _ _ _
    refine sx_execs_cons ?_
    refine sx_If ?_
    cases esc
    · k_steps
      show SegX _ _ _ ((execs _ _).wrap _ _ _ _) _ _ _
      refine sx_execs_nil ?_
      show SegX _ _ _ ((execs _ _).wrap _ _ _ _) _ _ _
      refine sx_execs_nil ?_
      refine s_end _ _ _ _ _ _ (.ok (.ret .none)) _ rfl ?_
      exact ⟨rfl, h2, _, rfl, fun q hq => NN q (List.mem_append_right _ hq), FF.keep⟩
    · k_steps
      show SegX _ _ _ ((execs _ _).wrap _ _ _ _) _ _ _
      refine sx_execs_cons ?_
      refine sx_Expr_Yield rfl rfl rfl ?_
      k_steps
      rename_i T hT2 FT NT lT ll kk pp hkk
      show PN _ _ _ _ ([92] :: []) led _ _ ⟨hT2, g2, d2, _, os2⟩
      refine ⟨T, _, _, ll, kk, _, pp, _, own2, _, hT2, _, rfl, rfl, ⟨_, (NT _ (.head _)).1, rfl, _, rfl⟩, FT, fun q hq => NT q (.tail _ hq), AA, fun s'' led'' F'' N'' A'' => ?_⟩
      obtain ⟨hq, gq, dq, tq, oq⟩ := s''
      rw [hkk]
      show SegX _ _ _ ((execs _ _).wrap _ _ _ _) _ _ _
      refine sx_execs_nil ?_
      show SegX _ _ _ ((execs _ _).wrap _ _ _ _) _ _ _
      refine sx_execs_nil ?_
      refine s_end _ _ _ _ _ _ (.ok (.ret .none)) _ rfl ?_
      exact ⟨rfl, hq, _, rfl, fun q hq' => N'' q (List.mem_append_right _ hq'), F''.keep⟩
  · intro q hq
    rcases List.mem_append.mp hq with hq | hq
    · exact Nown q hq
    · exact N3 q hq
  · intro q hq r hr e1
    have : q.1 ∈ own.map (·.1) := List.mem_map_of_mem hq
    rw [hown, e1] at this
    rcases List.mem_cons.mp this with h1 | h1
    · exact Nat.lt_irrefl _ (h1 ▸ Nat.lt_succ_of_lt (hN2lt r hr))
    · exact Nat.lt_irrefl _ (List.mem_singleton.mp h1 ▸ hN2lt r hr)
end Mine
end
section
theorem Mine.reset_S1 : True := by
  w_top off
  trivial
open PySem PySem.W PyProof.Rows PySem.Calls PyProof.Rows.LCg
namespace Mine

-- plain facts: bits, signs
theorem bitAnd_one (a : Int) (h : 0 ≤ a) : Builtin.bitAnd a 1 = a % 2 := by
  obtain ⟨k, rfl⟩ := Int.eq_ofNat_of_zero_le h
  show ((k &&& 1 : Nat) : Int) = _
  rw [Nat.and_one_is_mod]; rfl
def bit (N k : Nat) : Nat := N / 2 ^ k % 2
theorem bit_int (N k : Nat) : Builtin.bitAnd ((N : Int).fdiv (2 ^ k)) 1 = (bit N k : Nat) := by
  have e : ((N : Int).fdiv (2 ^ k)) = ((N / 2 ^ k : Nat) : Int) := by
    have : ((2 : Int) ^ k) = ((2 ^ k : Nat) : Int) := by push_cast; rfl
    rw [this, ← Int.ofNat_fdiv]
  rw [e, bitAnd_one _ (Int.natCast_nonneg _)]
  rfl
theorem bit_lt (N k : Nat) : bit N k < 2 := Nat.mod_lt _ (by decide)
/-- The k-th sign of 'abcdefgabcdefgh', small. -/
def sg (k : Nat) : Nat := if k = 14 then 104 else 97 + k % 7
theorem signs_get : ∀ i, i < 15 → (Str.ofString "abcdefgabcdefgh").cps[i]? = some (sg i) := by decide +kernel
theorem signs_size : (Str.ofString "abcdefgabcdefgh").cps.size = 15 := by decide +kernel
theorem upper_sg : ∀ i, i < 15 → Txt.upper ⟨#[sg i]⟩ = ⟨#[sg i - 32]⟩ := by decide +kernel
def ch (N k : Nat) : Nat := if bit N k = 1 then sg k - 32 else sg k
def spell (N : Nat) : List Nat := (List.range 15).map (ch N)
theorem flatten_ones (f : Nat → Nat) : ∀ l : List Nat, (l.map fun j => [f j]).flatten = l.map f
  | [] => rfl
  | a :: r => by simp [flatten_ones f r]
theorem isList_of {h₀ h : Heap} {L D : Addr} {ys : List Value} {led : List (Addr × Obj)} (N : News h₀ L h led) (hm : (D, lst ys) ∈ led) : h.IsList D ys.toArray := ⟨_, (N _ hm).1, rfl, _, rfl⟩

def subC (x y : Str) : Int := if x == y then 0 else if Txt.lower x == Txt.lower y then 1 else 2
theorem sub_c (w : World) (loose : List Str) (mean : ExcName → Option Value) (mg mb : Str → Option Value) (x y : Str) (tx ty : Tok) :
  Con w loose mean mg mb 81 1 [.str x tx, .str y ty] (fun _ => x.length = 1 ∧ y.length = 1) (fun t => .int (subC x y) t) := by
  unfold Con
  k_fill
  intros
  rename_i hret
  refine wpAny_call ?_
  k_dflt cell_enter
  k_steps
  all_goals (refine cb_retI hret ?_ (by k_asm) (by k_asm); simp_all [subC])

local macro_rules | `(tactic| walk_at "eval ListComp") => `(tactic| refine Hold.mk ?_)
local macro_rules | `(tactic| walk_at "call type:enumerate") => `(tactic| refine Hold.mk ?_)
local macro_rules | `(tactic| walk_at "call builtin:str.join") => `(tactic| refine Hold.mk ?_)
theorem spelled_c (w : World) (loose : List Str) (mean : ExcName → Option Value) (mg mb : Str → Option Value) (n : Nat) (tn : Tok) :
  Con w loose mean mg mb 230 1 [.int n tn] (fun _ => True) (fun t => .str (tx (spell n)) t) := by
  unfold Con
  k_fill
  intros
  rename_i hret
  refine wpAny_call ?_
  (k_dflt (refine' code_defC ?k1 ?k2 ?k3 ?k4 ?k5 ?kA ?kF ?kK ?k6 ?k7 ?k8 ?k9 ?kB ?kD ?_ ?c2 ?c3 ?c4; (case kA => exact rfl); (case kF => exact rfl); (case kK => assumption); (case k1 => k_asm); (case k2 => k_asm); (case k3 => k_asm); (case k4 => k_asm); (case k5 => k_asm); (case k6 => k_is); (case k7 => k_is); (case k8 => ktr_room); (case k9 => exact BindsTo.of_eq rfl); (case kB => exact rfl); (case kD => decide +kernel); (case c2 => exact rfl); (case c3 => exact rfl); (case c4 => exact rfl); k_whole; intro g' L' h' tk' cells' FG' F' N' Y' B' X' T' l1; k_cells Y'; (try simp only [List.cons_append, List.nil_append] at N'); (try dsimp only); (try k_lift B'); (try (show wpAny _ _ _ _ _ _; k_fold))))
  replace F' : Fr g' L' h' (fun _ => none) := F'
  rename_i oN dN
  replace dN : oN.data = .cell (some (.int n tn)) := dN
  k_steps
  refine Hold.of ?_
  refine ListComp_M (F₀ := by k_asm) (by with_unfolding_all rfl) (by decide) (by rfl) (by decide) ?_
  k_steps
  refine Hold.of ?_
  refine enum_str_M (by decide +kernel) rfl (by k_asm) (by k_asm) (by rfl) (by rfl) (by rfl) (by decide) (by decide) (Rel := fun i ys => StrsAre ys (((List.range i).map fun j => [ch n j]).map tx)) .nil ?_ ?_
  · intro i C oC m₂ ys led h g tk E' hi hB hC hR F N hCm hsub
    obtain ⟨a, b, ⟨t, c, u, rfl, hc, rfl⟩, hk, hs⟩ := hB
    rw [signs_size] at hi
    rw [signs_get i hi] at hc
    cases hc
    refine wpAny_tests_nil ?_
    simp only [if_true]
    have hm1 : (L' + 1, oN) ∈ led := hsub _ (List.Mem.head _)
    have hlen : Str.length ⟨#[sg i]⟩ = 1 := rfl
    k_steps
    · rename_i hb _
      replace hb : Builtin.bitAnd ((n : Int).fdiv (2 ^ i)) 1 ≠ 0 := hb
      rw [bit_int] at hb
      have hb1 : bit n i = 1 := by have := bit_lt n i; omega
      refine MEnd.mk F N ?_
      rw [List.range_succ, List.map_append, List.map_append, upper_sg i hi]
      have : tx [ch n i] = ⟨#[sg i - 32]⟩ := by show tx [ch n i] = tx [sg i - 32]; rw [ch, if_pos hb1]
      simp only [List.map_cons, List.map_nil]
      rw [this]
      exact strs_snoc hR
    · rename_i hb
      replace hb : Builtin.bitAnd ((n : Int).fdiv (2 ^ i)) 1 = 0 := hb
      rw [bit_int] at hb
      have hb1 : ¬ bit n i = 1 := by omega
      refine MEnd.mk F N ?_
      rw [List.range_succ, List.map_append, List.map_append]
      have : tx [ch n i] = ⟨#[sg i]⟩ := by show tx [ch n i] = tx [sg i]; rw [ch, if_neg hb1]
      simp only [List.map_cons, List.map_nil]
      rw [this]
      exact strs_snoc hR
  · intro hx D h tk ys hR F N off hD hDL F' N'
    k_steps
    refine Hold.of ?_
    rw [signs_size] at hR
    refine join_M (isList_of N' (List.Mem.head _)) hR ?_ fun t' k => ?_
    · simp only [List.map_map, Function.comp_def, List.length_map, List.length_cons, List.length_nil]; decide
    rw [flatten_ones]
    k_steps
    all_goals (refine cb_retS hret ?_ (by k_asm) (by first | k_asm | (refine' cb_drop ?cbN ?cbS; (case cbN => assumption); (case cbS => kcj_all))); rfl)
end Mine
end
section
open PySem PySem.W PyProof.Rows
namespace Mine
theorem xor_add_and (a : Nat) : ∀ b, (a ^^^ b) + 2 * (a &&& b) = a + b := by
  induction a using Nat.strongRecOn with
  | ind a ih =>
    intro b
    by_cases ha : a = 0
    · subst ha; simp
    · have h := ih (a / 2) (by omega) (b / 2)
      have e1 : (a ^^^ b) / 2 = a / 2 ^^^ b / 2 := Nat.xor_div_two
      have e2 : (a &&& b) / 2 = a / 2 &&& b / 2 := Nat.and_div_two
      have e3 : (a ^^^ b) % 2 = (a % 2) ^^^ (b % 2) := by simpa using Nat.xor_mod_two_pow (a := a) (b := b) (n := 1)
      have e4 : (a &&& b) % 2 = (a % 2) &&& (b % 2) := by simpa using Nat.and_mod_two_pow (a := a) (b := b) (n := 1)
      have f : (a % 2 ^^^ b % 2) + 2 * (a % 2 &&& b % 2) = a % 2 + b % 2 := by
        rcases Nat.mod_two_eq_zero_or_one a with h1 | h1 <;> rcases Nat.mod_two_eq_zero_or_one b with h2 | h2 <;> rw [h1, h2] <;> rfl
      rw [← e1, ← e2] at h
      rw [← e3, ← e4] at f
      omega
theorem bitAnd_nat (a b : Nat) : Builtin.bitAnd (a : Int) (b : Int) = ((a &&& b : Nat) : Int) := rfl
theorem bitXor_nat (a b : Nat) : Builtin.bitXor (a : Int) (b : Int) = ((a ^^^ b : Nat) : Int) := by
  rw [bitXor_and, bitAnd_nat]
  have := xor_add_and a b
  omega
theorem fdiv_pow (a k : Nat) : ((a : Int).fdiv (2 ^ k)) = ((a / 2 ^ k : Nat) : Int) := by
  have : ((2 : Int) ^ k) = ((2 ^ k : Nat) : Int) := by push_cast; rfl
  rw [this, ← Int.ofNat_fdiv]
theorem ints_at {vs : List Value} {ns : List Nat} (h : IntsAre vs (ns.map fun x => ((x : Nat) : Int))) {i : Nat} {v : Value} (e : vs[i]? = some v) : ∃ k t, ns[i]? = some k ∧ v = .int ((k : Nat) : Int) t := by
  obtain ⟨k, t, e1, e2⟩ := IntsAre.at h i v e
  rw [List.getElem?_map] at e2
  cases hk : ns[i]? with
  | none => rw [hk] at e2; cases e2
  | some k' => rw [hk] at e2; cases e2; exact ⟨k', t, rfl, e1⟩
theorem ints_arr {its : Array Value} {ns : List Nat} {i : Nat} {v : Value} (h : IntsAre its.toList (ns.map fun x => ((x : Nat) : Int))) (e : its[i]? = some v) : ∃ k t, ns[i]? = some k ∧ v = .int ((k : Nat) : Int) t :=
  ints_at h (by rw [Array.getElem?_toList]; exact e)
theorem take_snoc {α : Type} {l : List α} {i : Nat} {a : α} (h : l[i]? = some a) : l.take (i + 1) = l.take i ++ [a] := by
  rw [List.take_add_one, h]; rfl
theorem sum_cast (l : List Nat) : (l.map fun x => ((x : Nat) : Int)).sum = ((l.sum : Nat) : Int) := by
  induction l with
  | nil => rfl
  | cons a r ih => rw [List.map_cons, List.sum_cons, List.sum_cons, ih]; push_cast; rfl
end Mine
end
section
theorem Mine.reset_S2 : True := by
  w_top off
  trivial
open PySem PySem.W PyProof.Rows PySem.Calls PyProof.Rows.LCg
namespace Mine
def sevs : List Nat := [0, 7, 25, 30, 42, 45, 51, 52, 75, 76, 82, 85, 97, 102, 120, 127]
def sevL : List Int := sevs.map fun x => ((x : Nat) : Int)
def seven (N : Nat) : Nat := (N &&& 127) ^^^ (N / 128 &&& 127)
def ks8 : List Nat := [0, 1, 2, 3, 4, 5, 6, 14]
def par8 (N : Nat) : Nat := (ks8.map (bit N)).sum
def kept (N fl : Nat) : Bool := sevs.contains (seven N) && (par8 N + fl / 2 ^ sevs.idxOf (seven N)) % 2 == 0
theorem mem_of {h₀ h : Heap} {L : Addr} {led : List (Addr × Obj)} (N : News h₀ L h led) {p : Addr × Obj} (hm : p ∈ led) : p ∈ led := hm
theorem isListD {h₀ h : Heap} {L D : Addr} {xs : Array Value} {ep : Nat} {led : List (Addr × Obj)} (N : News h₀ L h led) (hm : (D, ({ cls := .type "list", data := .seq xs ep } : Obj)) ∈ led) : h.IsList D xs := ⟨_, (N _ hm).1, rfl, _, rfl⟩
theorem seven_int (n : Nat) : Builtin.bitXor (Builtin.bitAnd (n : Int) 127) (Builtin.bitAnd ((n : Int).fdiv (2 ^ 7)) 127) = ((seven n : Nat) : Int) := by
  have h := fdiv_pow n 7
  rw [h, show (127 : Int) = ((127 : Nat) : Int) from rfl, bitAnd_nat, bitAnd_nat, bitXor_nat]; rfl
theorem any_sevL (k : Nat) : sevL.any (· == (k : Int)) = sevs.contains k := by
  unfold sevL
  rw [List.any_map, List.contains_eq_any_beq]
  congr 1; funext x
  show ((x : Int) == (k : Int)) = (k == x)
  rw [Bool.eq_iff_iff, beq_iff_eq, beq_iff_eq]; omega
theorem idxOf_map_cast (k : Nat) : ∀ l : List Nat, (l.map fun x => ((x : Nat) : Int)).idxOf ((k : Nat) : Int) = l.idxOf k
  | [] => rfl
  | a :: r => by
    rw [List.map_cons, List.idxOf_cons, List.idxOf_cons, idxOf_map_cast k r]
    have : ((a : Int) == (k : Int)) = (a == k) := by rw [Bool.eq_iff_iff, beq_iff_eq, beq_iff_eq]; omega
    rw [this]
theorem idx_sevL (k : Nat) : sevL.idxOf ((k : Nat) : Int) = sevs.idxOf k := idxOf_map_cast k sevs
theorem fmod2 (a : Nat) : ((a : Int).fmod 2 == 0) = (a % 2 == 0) := by
  rw [Bool.eq_iff_iff, beq_iff_eq, beq_iff_eq, Int.fmod_eq_emod_of_nonneg _ (by decide)]; omega
theorem kept_int (n fl : Nat) (hc : sevs.contains (seven n) = true) : (((((List.map (bit n) ks8).sum : Nat) : Int) + (fl : Int).fdiv (2 ^ ((List.idxOf (seven n) sevs : Nat) : Int).toNat)).fmod 2 == 0) = kept n fl := by
  have e : ((fl : Int).fdiv (2 ^ ((List.idxOf (seven n) sevs : Nat) : Int).toNat)) = ((fl / 2 ^ List.idxOf (seven n) sevs : Nat) : Int) := fdiv_pow _ _
  unfold kept
  rw [e, hc, Bool.true_and, ← Int.natCast_add, fmod2]; rfl
local macro_rules | `(tactic| walk_at "eval ListComp") => `(tactic| refine Hold.mk ?_)
local macro_rules | `(tactic| walk_at "compareOp NotIn int ref") => `(tactic| refine Hold.mk ?_)
local macro_rules | `(tactic| walk_at "call builtin:list.index") => `(tactic| refine Hold.mk ?_)
local macro_rules | `(tactic| walk_at "pyIter ref") => `(tactic| refine Hold.mk ?_)
local macro_rules | `(tactic| walk_at "call builtin:sum") => `(tactic| refine Hold.mk ?_)
theorem kept_c (w : World) (loose : List Str) (mean : ExcName → Option Value) (mg mb : Str → Option Value) (n fl : Nat) (l : Addr) (tn tf : Tok) (items : List Value) (ep : Nat) (hit : IntsAre items sevL) :
  Con w loose mean mg mb 250 1 [.int n tn, .ref l, .int fl tf] (fun news => (l, ({ cls := .type "list", data := .seq items.toArray ep } : Obj)) ∈ news) (fun t => .bool (kept n fl)) := by
  unfold Con
  k_fill
  intros
  rename_i hml hd1 hd2 hret
  refine wpAny_call ?_
  (k_dflt (refine' code_defC ?k1 ?k2 ?k3 ?k4 ?k5 ?kA ?kF ?kK ?k6 ?k7 ?k8 ?k9 ?kB ?kD ?_ ?c2 ?c3 ?c4; (case kA => exact rfl); (case kF => exact rfl); (case kK => assumption); (case k1 => k_asm); (case k2 => k_asm); (case k3 => k_asm); (case k4 => k_asm); (case k5 => k_asm); (case k6 => k_is); (case k7 => k_is); (case k8 => ktr_room); (case k9 => exact BindsTo.of_eq rfl); (case kB => exact rfl); (case kD => decide +kernel); (case c2 => exact rfl); (case c3 => exact rfl); (case c4 => exact rfl); k_whole; intro g' L' h' tk' cells' FG' F' N' Y' B' X' T' l1; k_cells Y'; (try simp only [List.cons_append, List.nil_append] at N'); (try dsimp only); (try k_lift B'); (try (show wpAny _ _ _ _ _ _; k_fold))))
  replace F' : Fr g' L' h' (fun x => if x = "flags" then some (.int fl tf) else if x = "sevens" then some (.ref l) else none) := F'
  rename_i oN dN
  replace dN : oN.data = .cell (some (.int n tn)) := dN
  k_steps
  refine Hold.of ?_
  refine notin_list_ints (isListD (by k_asm) (.tail _ hml)) hit ?_
  have h7 : Builtin.bitXor (Builtin.bitAnd (n : Int) 127) (Builtin.bitAnd ((n : Int).fdiv (2 ^ (7 : Int).toNat)) 127) = ((seven n : Nat) : Int) := seven_int n
  rw [h7, any_sevL]
  cases hc : sevs.contains (seven n)
  · simp only [Bool.not_false]
    k_steps
    all_goals (refine cb_retB hret ?_ (by k_asm) (by first | k_asm | (refine' cb_drop ?cbN ?cbS; (case cbN => assumption); (case cbS => kcj_all))); unfold kept; rw [hc]; rfl)
  · simp only [Bool.not_true]
    k_steps
    refine Hold.of ?_
    refine ListComp_M (F₀ := by k_asm) (by with_unfolding_all rfl) (by decide) (by rfl) (by decide) ?_
    k_steps
    refine Hold.of ?_
    refine iter_list_M (its := #[_, _, _, _, _, _, _, _]) rfl (by k_asm) (by k_asm) (Or.inr ⟨_, .head _, rfl, _, rfl⟩) (by rfl) (by rfl) (by show (8 : Nat) ≤ sizeLine; decide) (Rel := fun i ys => IntsAre ys ((ks8.take i).map fun k => ((bit n k : Nat) : Int))) .nil ?_ ?_
    · intro i C oC m₂ ys led h g tk E' hi hB hC hR F N hCm hsub
      obtain ⟨v, hv, hk⟩ := hB
      obtain ⟨kk, tv, hks, rfl⟩ := ints_arr (ns := ks8) (by exact .cons 0 _ (.cons 1 _ (.cons 2 _ (.cons 3 _ (.cons 4 _ (.cons 5 _ (.cons 6 _ (.cons 14 _ .nil)))))))) hv
      refine wpAny_tests_nil ?_
      simp only [if_true]
      have hm1 : (L' + 1, oN) ∈ led := hsub _ (.tail _ (.head _))
      k_steps
      refine MEnd.mk F N ?_
      rw [take_snoc hks, List.map_append]
      have e : Builtin.bitAnd ((n : Int).fdiv (2 ^ ((kk : Nat) : Int).toNat)) 1 = ((bit n kk : Nat) : Int) := bit_int n kk
      rw [e]
      exact ints_snoc hR
    · intro hx D h tk ys hR F N off hD hDL F'' N''
      k_steps
      refine Hold.of ?_
      have hR' : IntsAre ys ((ks8.map (bit n)).map fun x => ((x : Nat) : Int)) := by
        have : ks8.take 8 = ks8 := rfl
        have hR2 := hR
        rw [show (#[_, _, _, _, _, _, _, _] : Array Value).size = 8 from rfl, this] at hR2
        rw [List.map_map]; exact hR2
      refine sumK rfl (by k_asm) (by k_asm) (isList_of N (.head _)) hR' ?_
      intro h2 tk2 t2 F2 N2
      rw [sum_cast]
      have hmem := mem_of N2 (List.Mem.tail _ (List.Mem.tail _ (List.Mem.tail _ hml)))
      k_steps
      refine Hold.of ?_
      rw [h7]
      refine index_list_ints (isListD (by k_asm) hmem) hit (by decide +kernel) (by
        have := any_sevL (seven n)
        rw [hc, List.any_eq_true] at this
        obtain ⟨x, hx, e⟩ := this
        rw [← eq_of_beq e]; exact hx) ?_
      rw [idx_sevL]
      k_steps
      refine cb_retB hret ?_ (by k_asm) (by first | k_asm | (refine' cb_drop ?cbN ?cbS; (case cbN => assumption); (case cbS => kcj_all)))
      exact kept_int n fl hc
end Mine
end
section
open PySem PySem.W PyProof.Rows PySem.Calls PyProof.Rows.LCg
namespace Mine
theorem tl_item_neg {l : List Nat} {k : Nat} (h0 : 0 < k) (h1 : k ≤ l.length) : Txt.item (tx l) (-(k : Int)) = tx [l.getD (l.length - k) 0] := by
  have := item_closes_neg (x := tx l) (i := -(k : Int)) (j := ((l.length - k : Nat) : Int)) (by omega) (by rw [tx_length]; omega) (by rw [tx_length]; omega)
  rw [eq_of_beq this]
  show (⟨#[_]⟩ : Str) = ⟨#[_]⟩
  simp [tx, Array.getD_eq_getD_getElem?, List.getD_eq_getElem?_getD]
theorem tl_to_neg {l : List Nat} {k : Nat} (h0 : 0 < k) (h1 : k ≤ l.length) : Txt.slice (tx l) none (some (-(k : Int))) = tx (l.take (l.length - k)) := by
  have := slice_closes_to_neg (x := tx l) (j := -(k : Int)) (k := ((l.length - k : Nat) : Int)) (by omega) (by rw [tx_length]; omega) (by rw [tx_length]; omega)
  rw [eq_of_beq this]
  simp [tx]
theorem tl_item {l : List Nat} {i : Nat} (h : i < l.length) : Txt.item (tx l) ((i : Nat) : Int) = tx [l.getD i 0] := by
  have := item_closes (x := tx l) (i := ((i : Nat) : Int)) ⟨by omega, by rw [tx_length]; omega⟩
  rw [eq_of_beq this]
  show (⟨#[_]⟩ : Str) = ⟨#[_]⟩
  simp [tx, Array.getD_eq_getD_getElem?, List.getD_eq_getElem?_getD]
theorem tl_from {l : List Nat} {i : Nat} (h : i ≤ l.length) : Txt.slice (tx l) (some ((i : Nat) : Int)) none = tx (l.drop i) := by
  have := slice_closes_fromL (x := tx l) (i := ((i : Nat) : Int)) (b := (l.length : Int)) (by omega) (by rw [tx_length]; omega) (by rw [tx_length])
  rw [eq_of_beq this]
  simp only [tx, Int.toNat_natCast]
  congr 2
  apply List.take_of_length_le
  rw [List.length_drop]; omega
theorem tl_all (l : List Nat) : Txt.slice (tx l) none none = tx l := by
  have e : Txt.slice (tx l) none none = Txt.slice (tx l) (some ((0 : Nat) : Int)) none := by
    unfold Txt.slice
    have : ∀ n, Builtin.Str.strSliceIndices none none 1 n = Builtin.Str.strSliceIndices (some ((0 : Nat) : Int)) none 1 n := by
      intro n; unfold Builtin.Str.strSliceIndices; simp; rw [show max (0:Int) (min 0 (n:Int)) = 0 by omega]
    simp only [this]
  rw [e, tl_from (Nat.zero_le _)]; rfl
theorem slice_whole (x : Str) : Txt.slice x none none = x := by
  have e : tx x.cps.toList = x := by unfold tx; simp
  have := tl_all x.cps.toList
  rw [e] at this; exact this
theorem tx_inj {a b : List Nat} (h : tx a = tx b) : a = b := by
  have := congrArg (fun s : Str => s.cps.toList) h
  simpa [tx] using this
theorem tx_beq (a b : List Nat) : (tx a == tx b) = decide (a = b) := by
  rw [Bool.eq_iff_iff, beq_iff_eq, decide_eq_true_eq]
  exact ⟨tx_inj, congrArg tx⟩
theorem getD_mid (p q : List Nat) (x : Nat) : (p ++ x :: q).getD p.length 0 = x := by
  rw [List.getD_eq_getElem?_getD, List.getElem?_append_right (Nat.le_refl _), Nat.sub_self]; rfl
theorem getD_front (p q : List Nat) (x : Nat) {i : Nat} (h : i < p.length) : (p ++ x :: q).getD i 0 = p.getD i 0 := by
  rw [List.getD_eq_getElem?_getD, List.getD_eq_getElem?_getD, List.getElem?_append_left h]
end Mine
end
section
open PySem PySem.W PyProof.Rows PySem.Calls PyProof.Rows.LCg
namespace Mine
theorem spell_len (n : Nat) : (tx (spell n)).length = 15 := by rw [tx_length]; unfold spell; rw [List.length_map, List.length_range]
theorem spell_item (n i : Nat) (h : i < 15) : Txt.item (tx (spell n)) ((i : Nat) : Int) = tx [ch n i] := by
  rw [tl_item (by unfold spell; rw [List.length_map, List.length_range]; exact h)]
  unfold spell
  rw [List.getD_eq_getElem?_getD, List.getElem?_map, List.getElem?_range h]
  rfl
def chb (b k : Nat) : Nat := if b = 1 then sg k - 32 else sg k
theorem subC_chb : ∀ k, k < 7 → ∀ b, b < 2 → ∀ c, c < 2 → subC (tx [chb b k]) (tx [chb c (k + 7)]) = if b = c then 0 else 1 := by decide +kernel
theorem subC_same : ∀ k, k < 15 → ∀ b, b < 2 → ∀ c, c < 2 → b ≠ c → subC (tx [chb b k]) (tx [chb c k]) = 1 ∧ chb b k ≠ chb c k := by decide +kernel
theorem bit_tb (n k : Nat) : bit n k = (n.testBit k).toNat := by
  unfold bit
  rw [Nat.testBit_eq_decide_div_mod_eq]
  rcases Nat.mod_two_eq_zero_or_one (n / 2 ^ k) with h | h <;> simp [h]
theorem bit_seven (n k : Nat) (hk : k < 7) : bit (seven n) k = if bit n k = bit n (k + 7) then 0 else 1 := by
  rw [bit_tb, bit_tb, bit_tb]
  unfold seven
  rw [Nat.testBit_xor, Nat.testBit_and, Nat.testBit_and, show (127 : Nat) = 2 ^ 7 - 1 by decide, Nat.testBit_two_pow_sub_one, show (128 : Nat) = 2 ^ 7 by decide, Nat.testBit_div_two_pow]
  have : decide (k < 7) = true := decide_eq_true hk
  rw [this, Bool.and_true, Bool.and_true]
  cases n.testBit k <;> cases n.testBit (k + 7) <;> rfl
theorem unlike_at (n k : Nat) (hk : k < 7) : subC (tx [ch n k]) (tx [ch n (k + 7)]) = ((bit (seven n) k : Nat) : Int) := by
  have h := subC_chb k hk (bit n k) (bit_lt n k) (bit n (k + 7)) (bit_lt n (k + 7))
  show subC (tx [chb (bit n k) k]) (tx [chb (bit n (k + 7)) (k + 7)]) = _
  rw [h, bit_seven n k hk]
  split <;> rfl
/-- The numbers of `unlike`. -/
def unlL (n : Nat) : List Int := (List.range 7).map fun k => ((bit (seven n) k : Nat) : Int)
/-- One of the sums. -/
def cnt (n sh : Nat) : Nat := (((List.range 7).filter fun k => (k + 1) &&& sh != 0).map (bit (seven n))).sum
def cntL (n : Nat) : List Nat := [cnt n 1, cnt n 2, cnt n 4, par8 n]
def signL : List Nat := [120, 121, 122, 112]
def markL : List Nat → List Nat → List Nat
  | c :: r, x :: s => List.replicate c 92 ++ x :: markL r s
  | _, _ => []
theorem pcs_run (x : Nat) (hx : x ≠ 92) (t : List Nat) : ∀ c, ∃ q, (∀ p ∈ q, p = [92, 92]) ∧ pcs (List.replicate c 92 ++ x :: t) false = q ++ (if c % 2 = 0 then [x] else [92, x]) :: pcs t false
  | 0 => ⟨[], fun _ h => (nomatch h), by simp [pcs, hx]⟩
  | 1 => ⟨[], fun _ h => (nomatch h), by simp [pcs]⟩
  | c + 2 => by
    obtain ⟨q, h1, h2⟩ := pcs_run x hx t c
    refine ⟨[92, 92] :: q, fun p hp => ?_, ?_⟩
    · rcases List.mem_cons.mp hp with rfl | hp
      · rfl
      · exact h1 p hp
    · rw [List.replicate_succ, List.replicate_succ, List.cons_append, List.cons_append]
      simp only [pcs, if_true, Nat.add_mod_right, h2, List.cons_append]
theorem marks_mem (a b c d : Nat) : ∀ x ∈ signL, ([x] ∈ pcs (markL [a, b, c, d] signL) false ↔ (if x = 120 then a else if x = 121 then b else if x = 122 then c else d) % 2 = 0) := by
  have e0 : markL [a, b, c, d] signL = List.replicate a 92 ++ 120 :: (List.replicate b 92 ++ 121 :: (List.replicate c 92 ++ 122 :: (List.replicate d 92 ++ 112 :: []))) := rfl
  obtain ⟨q1, u1, v1⟩ := pcs_run 120 (by decide) (List.replicate b 92 ++ 121 :: (List.replicate c 92 ++ 122 :: (List.replicate d 92 ++ 112 :: []))) a
  obtain ⟨q2, u2, v2⟩ := pcs_run 121 (by decide) (List.replicate c 92 ++ 122 :: (List.replicate d 92 ++ 112 :: [])) b
  obtain ⟨q3, u3, v3⟩ := pcs_run 122 (by decide) (List.replicate d 92 ++ 112 :: []) c
  obtain ⟨q4, u4, v4⟩ := pcs_run 112 (by decide) [] d
  have hq : ∀ q : List (List Nat), (∀ p ∈ q, p = [92, 92]) → ∀ x : Nat, [x] ∉ q := fun q h x hm => by have := h _ hm; simp at this
  intro x hx
  rw [e0, v1, v2, v3, v4]
  have e5 : pcs [] false = [] := rfl
  rw [e5]
  simp only [List.mem_append, List.mem_cons, hq q1 u1 x, hq q2 u2 x, hq q3 u3 x, hq q4 u4 x, false_or, List.not_mem_nil, or_false]
  simp only [signL, List.mem_cons, List.not_mem_nil, or_false] at hx
  have ei : ∀ (p : Prop) [Decidable p] (y : Nat), ([x] = if p then [y] else [92, y]) ↔ (p ∧ x = y) := fun p _ y => by by_cases h : p <;> simp [h]
  rw [ei, ei, ei, ei]
  rcases hx with rfl | rfl | rfl | rfl <;> simp
end Mine
namespace Mine
abbrev bsl : Str := Str.ofString "\\"
theorem fold_bs : ∀ (k : Nat) (acc : Array Nat), (List.replicate k (#[92] : Array Nat)).foldl (· ++ ·) acc = acc ++ (List.replicate k 92).toArray
  | 0, acc => by simp
  | k + 1, acc => by rw [List.replicate_succ, List.foldl_cons, fold_bs k, List.replicate_succ]; apply Array.ext'; simp
theorem mul_bs (k : Nat) : Txt.mul (Str.ofString "\\") ((k : Nat) : Int) = tx (List.replicate k 92) := by
  unfold Txt.mul
  rcases Nat.lt_or_ge k 1 with h | h
  · obtain rfl : k = 0 := by omega
    rfl
  · rw [if_neg (by omega)]
    rcases Nat.eq_or_lt_of_le h with h1 | h1
    · obtain rfl := h1
      rfl
    · rw [if_neg (by rw [Bool.or_eq_true, beq_iff_eq, beq_iff_eq]; rintro (e | e); omega; exact absurd e (by decide))]
      show (⟨(List.replicate ((k : Int).toNat) (#[92] : Array Nat)).foldl (· ++ ·) #[]⟩ : Str) = _
      rw [Int.toNat_natCast, fold_bs]
      unfold tx; simp
theorem sum_bits_le (m : Nat) : ∀ l : List Nat, (l.map (bit m)).sum ≤ l.length
  | [] => Nat.le_refl _
  | k :: r => by
    have := sum_bits_le m r
    have := bit_lt m k
    simp only [List.map_cons, List.sum_cons, List.length_cons]; omega
theorem cnt_le (n sh : Nat) : cnt n sh ≤ 8 := by
  unfold cnt
  refine Nat.le_trans (sum_bits_le _ _) (Nat.le_trans (List.length_filter_le _ _) (by decide))
theorem cntL_le (n : Nat) : ∀ k ∈ cntL n, k ≤ 8 := by
  intro k hk
  simp only [cntL, List.mem_cons, List.not_mem_nil, or_false] at hk
  rcases hk with rfl | rfl | rfl | rfl
  · exact cnt_le n 1
  · exact cnt_le n 2
  · exact cnt_le n 4
  · exact sum_bits_le n ks8
def marked (n : Nat) : List Nat := markL (cntL n) signL
theorem marked_ascii (n : Nat) : (tx (marked n)).cps.all (· < 128) = true := by
  have h : ∀ c ∈ marked n, c < 128 := by
    intro c hc
    simp [marked, cntL, signL, markL] at hc
    omega
  rw [Array.all_eq_true']
  intro c hc
  have : c ∈ marked n := by unfold tx at hc; simpa using hc
  simpa using h c this
theorem marked_len (n : Nat) : (marked n).length ≤ 36 := by
  have h := cntL_le n
  unfold marked cntL signL at *
  simp only [markL, List.length_append, List.length_cons, List.length_replicate, List.length_nil]
  have h1 := h (cnt n 1) (by simp)
  have h2 := h (cnt n 2) (by simp)
  have h3 := h (cnt n 4) (by simp)
  have h4 := h (par8 n) (by simp)
  omega
theorem pcs_len : ∀ (l : List Nat) (b : Bool), (pcs l b).length ≤ l.length + 1
  | [], false => by simp [pcs]
  | [], true => by simp [pcs]
  | c :: r, true => by have := pcs_len r false; simp only [pcs, List.length_cons]; omega
  | c :: r, false => by
    have h1 := pcs_len r true
    have h2 := pcs_len r false
    simp only [pcs]
    split
    · simp only [List.length_cons]; omega
    · simp only [List.length_cons]; omega
end Mine
namespace Mine
theorem odd_any (n i : Nat) (hi : i < 4) : (((pcs (marked n) false).map tx).any (· == tx [signL.getD i 0])) = decide ((cntL n).getD i 0 % 2 = 0) := by
  rw [Bool.eq_iff_iff, List.any_eq_true, decide_eq_true_eq]
  have h := marks_mem (cnt n 1) (cnt n 2) (cnt n 4) (par8 n)
  have key : [signL.getD i 0] ∈ pcs (marked n) false ↔ (cntL n).getD i 0 % 2 = 0 := by
    have : i = 0 ∨ i = 1 ∨ i = 2 ∨ i = 3 := by omega
    rcases this with rfl | rfl | rfl | rfl
    · exact h 120 (by decide)
    · exact h 121 (by decide)
    · exact h 122 (by decide)
    · exact h 112 (by decide)
  rw [← key]
  constructor
  · rintro ⟨z, hz, e⟩
    obtain ⟨p, hp, rfl⟩ := List.mem_map.mp hz
    rw [tx_beq, decide_eq_true_eq] at e
    rw [← e]; exact hp
  · intro hm
    exact ⟨_, List.mem_map_of_mem hm, by rw [tx_beq, decide_eq_true_eq]⟩
/-- The place that the sums tell. -/
def spotN (n : Nat) : Nat := cnt n 1 % 2 + 2 * (cnt n 2 % 2) + 4 * (cnt n 4 % 2)
theorem spot_int (n : Nat) : ((cnt n 1 % 2 : Nat) : Int) + 2 * ((cnt n 2 % 2 : Nat) : Int) + 4 * ((cnt n 4 % 2 : Nat) : Int) = ((spotN n : Nat) : Int) := by
  unfold spotN; push_cast; rfl
/-- The letters of the word that is meant. -/
def onesS (n : Nat) : List Nat := ((List.range 7).filter fun k => bit (seven n) k != if k + 1 = spotN n then 1 else 0).map fun k => 97 + k
end Mine
namespace Mine
theorem unl_getD (n i : Nat) (h : i < 7) : ((List.range 7).map fun k => ((bit (seven n) k : Nat) : Int)).getD (((i : Nat) : Int)).toNat 0 = ((bit (seven n) i : Nat) : Int) := by
  rw [Int.toNat_natCast, List.getD_eq_getElem?_getD, List.getElem?_map, List.getElem?_range h]; rfl
end Mine
namespace Mine
def cntS (s sh : Nat) : Nat := (((List.range 7).filter fun k => (k + 1) &&& sh != 0).map (bit s)).sum
def spotS (s : Nat) : Nat := cntS s 1 % 2 + 2 * (cntS s 2 % 2) + 4 * (cntS s 4 % 2)
def codeS (s : Nat) : Nat := s ^^^ (if spotS s = 0 then 0 else 2 ^ (spotS s - 1))
def kS (s : Nat) : Nat := sevs.idxOf (codeS s)
theorem tab_facts : ∀ s, s < 128 → kS s < 16 ∧ ((List.range 7).filter fun k => bit s k != if k + 1 = spotS s then 1 else 0) = ((List.range 7).filter fun j => bit (sevs.getD (kS s) 0) j == 1) ∧ spotS s < 8 := by decide +kernel
theorem seven_lt (n : Nat) : seven n < 128 := by
  unfold seven
  exact Nat.xor_lt_two_pow (n := 7) (Nat.lt_of_le_of_lt Nat.and_le_right (by decide)) (Nat.lt_of_le_of_lt Nat.and_le_right (by decide))
theorem spotN_eq (n : Nat) : spotN n = spotS (seven n) := rfl
def lateN (n fl : Nat) : Nat := (par8 n % 2 + fl / 2 ^ kS (seven n)) % 2
def faultN (n fl : Nat) : Nat := if spotN n = 0 then (if lateN n fl = 1 then 14 else 15) else (if lateN n fl = 1 then spotN n - 1 else spotN n + 6)
def mendN (n fl : Nat) : Nat := (n ^^^ 2 ^ faultN n fl) &&& 32767
end Mine
end
section
open PySem PySem.W PyProof.Rows PySem.Calls PyProof.Rows.LCg
namespace Mine
theorem split15 (g : Nat → Nat) : ∀ f, f < 15 → (List.range 15).map g = (List.range f).map g ++ g f :: (List.range (14 - f)).map fun j => g (f + 1 + j)
  | 0, _ => rfl
  | 1, _ => rfl
  | 2, _ => rfl
  | 3, _ => rfl
  | 4, _ => rfl
  | 5, _ => rfl
  | 6, _ => rfl
  | 7, _ => rfl
  | 8, _ => rfl
  | 9, _ => rfl
  | 10, _ => rfl
  | 11, _ => rfl
  | 12, _ => rfl
  | 13, _ => rfl
  | 14, _ => rfl
  | k + 15, h => absurd h (by omega)
theorem bit_flip (n f k : Nat) (hk : k < 15) : bit ((n ^^^ 2 ^ f) &&& 32767) k = if k = f then 1 - bit n k else bit n k := by
  rw [bit_tb, bit_tb, show (32767 : Nat) = 2 ^ 15 - 1 by decide, Nat.testBit_and, Nat.testBit_xor, Nat.testBit_two_pow_sub_one, Nat.testBit_two_pow]
  have : decide (k < 15) = true := decide_eq_true hk
  rw [this, Bool.and_true]
  by_cases h : k = f
  · subst h
    rw [if_pos rfl, decide_eq_true rfl]
    cases n.testBit k <;> rfl
  · rw [if_neg h, decide_eq_false (fun e => h e.symm), Bool.xor_false]
theorem lev_split (n f : Nat) (hf : f < 15) : ∃ p q x y, spell n = p ++ x :: q ∧ spell ((n ^^^ 2 ^ f) &&& 32767) = p ++ y :: q ∧ p.length + q.length = 14 ∧ x ≠ y ∧ subC (tx [y]) (tx [x]) = 1 := by
  refine ⟨(List.range f).map (ch n), (List.range (14 - f)).map fun j => ch n (f + 1 + j), ch n f, ch ((n ^^^ 2 ^ f) &&& 32767) f, split15 (ch n) f hf, ?_, by rw [List.length_map, List.length_map, List.length_range, List.length_range]; omega, ?_, ?_⟩
  · have e := split15 (ch ((n ^^^ 2 ^ f) &&& 32767)) f hf
    refine e.trans ?_
    congr 1
    · refine List.map_congr_left fun k hk => ?_
      have hk' := List.mem_range.mp hk
      have hb : bit ((n ^^^ 2 ^ f) &&& 32767) k = bit n k := by rw [bit_flip n f k (by omega), if_neg (by omega)]
      unfold ch; rw [hb]
    · congr 1
      refine List.map_congr_left fun j hj => ?_
      have hj' := List.mem_range.mp hj
      have hb : bit ((n ^^^ 2 ^ f) &&& 32767) (f + 1 + j) = bit n (f + 1 + j) := by rw [bit_flip n f (f + 1 + j) (by omega), if_neg (by omega)]
      unfold ch; rw [hb]
  · have h := subC_same f hf (bit n f) (bit_lt n f) (bit ((n ^^^ 2 ^ f) &&& 32767) f) (bit_lt _ f) (by rw [bit_flip n f f hf, if_pos rfl]; have := bit_lt n f; omega)
    exact h.2
  · have h := subC_same f hf (bit ((n ^^^ 2 ^ f) &&& 32767) f) (bit_lt _ f) (bit n f) (bit_lt n f) (by rw [bit_flip n f f hf, if_pos rfl]; have := bit_lt n f; omega)
    exact h.1
theorem mend_same (n : Nat) (hn : n < 32768) : (n ^^^ 2 ^ 15) &&& 32767 = n := by
  apply Nat.eq_of_testBit_eq
  intro k
  rw [show (32767 : Nat) = 2 ^ 15 - 1 by decide, Nat.testBit_and, Nat.testBit_xor, Nat.testBit_two_pow_sub_one, Nat.testBit_two_pow]
  by_cases h : k < 15
  · rw [decide_eq_true h, decide_eq_false (by omega), Bool.xor_false, Bool.and_true]
  · rw [decide_eq_false h, Bool.and_false]
    exact (Nat.testBit_lt_two_pow (Nat.lt_of_lt_of_le hn (Nat.pow_le_pow_right (n := 2) (i := 15) (by decide) (by omega)))).symm
end Mine
end
section
theorem Mine.reset_S3 : True := by
  w_top off
  trivial
open PySem PySem.W PyProof.Rows PySem.Calls PyProof.Rows.LCg
namespace Mine
local macro_rules | `(tactic| walk_at "eval ListComp") => `(tactic| refine Hold.mk ?_)
local macro_rules | `(tactic| walk_at "pyIter ref") => `(tactic| refine Hold.mk ?_)
def ballN (n : Nat) : List Nat := n :: (List.range 15).map fun k => n ^^^ 2 ^ k
theorem ballI (n : Nat) : [(n : Int)] ++ (List.range 15).map (fun k => ((n ^^^ 2 ^ k : Nat) : Int)) = (ballN n).map fun x => ((x : Nat) : Int) := by
  unfold ballN; rw [List.map_cons, List.map_map]; rfl
local macro_rules | `(tactic| walk_at "call ref") => `(tactic| refine Hold.mk ?_)
theorem ball_c (w : World) (loose : List Str) (mean : ExcName → Option Value) (mg mb : Str → Option Value) (n fl : Nat) (l : Addr) (tn tf : Tok) (items : List Value) (ep : Nat) (hit : IntsAre items sevL) :
  ConL w loose mean mg mb 255 2 [.int n tn, .ref l, .int fl tf] (fun news => (l, ({ cls := .type "list", data := .seq items.toArray ep } : Obj)) ∈ news) (fun ys => IntsAre ys (((ballN n).filter fun x => kept x fl).map fun x => ((x : Nat) : Int))) := by
  unfold ConL
  k_fill
  intros
  rename_i hml hd1 hd2 hret
  refine wpAny_call ?_
  (k_dflt (refine' code_defC ?k1 ?k2 ?k3 ?k4 ?k5 ?kA ?kF ?kK ?k6 ?k7 ?k8 ?k9 ?kB ?kD ?_ ?c2 ?c3 ?c4; (case kA => exact rfl); (case kF => exact rfl); (case kK => assumption); (case k1 => k_asm); (case k2 => k_asm); (case k3 => k_asm); (case k4 => k_asm); (case k5 => k_asm); (case k6 => k_is); (case k7 => k_is); (case k8 => ktr_room); (case k9 => exact BindsTo.of_eq rfl); (case kB => exact rfl); (case kD => decide +kernel); (case c2 => exact rfl); (case c3 => exact rfl); (case c4 => exact rfl); k_whole; intro g' L' h' tk' cells' FG' F' N' Y' B' X' T' l1; k_cells Y'; (try simp only [List.cons_append, List.nil_append] at N'); (try dsimp only); (try k_lift B'); (try (show wpAny _ _ _ _ _ _; k_fold))))
  replace F' : Fr g' L' h' (fun x => none) := F'

  rename_i oF oS oN dF dS dN
  replace dN : oN.data = .cell (some (.int n tn)) := dN
  replace dS : oS.data = .cell (some (.ref l)) := dS
  replace dF : oF.data = .cell (some (.int fl tf)) := dF
  k_steps
  refine Hold.of ?_
  refine ListComp_M (F₀ := by k_asm) (by with_unfolding_all rfl) (by decide) (by rfl) (by decide) ?_
  k_steps
  refine Hold.of ?_
  refine iter_range_M (n := 15) rfl (by k_asm) (by k_asm) (by first | assumption | exact (News.get (by k_asm) (.head _))) (by decide) (by rfl) (by rfl) (by rfl) (by decide) (Rel := fun i ys => IntsAre ys ((List.range i).map fun k => ((n ^^^ 2 ^ k : Nat) : Int))) .nil ?_ ?_
  · intro i C oC m₂ ys led h g tk E' hi hB hC hR F N hCm hsub
    obtain ⟨_, ⟨tv, rfl⟩, hk⟩ := hB
    rw [Int.zero_add] at hk
    refine wpAny_tests_nil ?_
    simp only [if_true]
    have hm1 : (L' + 1, oN) ∈ led := hsub _ (by simp)
    k_steps
    refine MEnd.mk F N ?_
    rw [List.range_succ, List.map_append]
    have e : Builtin.bitXor (n : Int) (1 * 2 ^ ((i : Nat) : Int).toNat) = ((n ^^^ 2 ^ i : Nat) : Int) := by
      rw [Int.one_mul, ← bitXor_nat, Int.natCast_pow]; rfl
    rw [e]
    exact ints_snoc hR
  · intro hx D h tk ys hR F N off hD hDL F'' N''
    k_steps
    refine Hold.of ?_
    refine ListComp_M (F₀ := by k_asm) (by with_unfolding_all rfl) (by decide) (by rfl) (by decide) ?_
    k_steps
    (with_reducible rename IntsAre _ _ => hW)
    rw [ballI] at hW
    have hWl := hW.length
    rw [List.length_map, show (ballN n).length = 16 from by simp [ballN]] at hWl
    refine Hold.of ?_
    refine iter_list_M rfl (by k_asm) (by k_asm) (Or.inr ⟨_, .head _, rfl, _, rfl⟩) (by rfl) (by rfl) (by rw [List.size_toArray, hWl]; decide) (Rel := fun i ys => IntsAre ys ((((ballN n).take i).filter fun x => kept x fl).map fun x => ((x : Nat) : Int))) .nil ?_ ?_
    · intro i C oC m₂ ys led h g tk E' hi hB hC hR F N hCm hsub
      obtain ⟨v, hv, hk⟩ := hB
      obtain ⟨kk, tv, hks, rfl⟩ := ints_arr (ns := ballN n) hW hv
      have hml2 : (l, ({ cls := .type "list", data := .seq items.toArray ep } : Obj)) ∈ led := hsub _ (by repeat (first | exact hml | exact List.Mem.head _ | apply List.Mem.tail))
      have cN : (L' + 1, oN) ∈ led := hsub _ (by repeat (first | exact List.Mem.head _ | apply List.Mem.tail))
      have cS : (L' + 1 + 1, oS) ∈ led := hsub _ (by repeat (first | exact List.Mem.head _ | apply List.Mem.tail))
      have cF : (L' + 1 + 1 + 1, oF) ∈ led := hsub _ (by repeat (first | exact List.Mem.head _ | apply List.Mem.tail))
      refine wpAny_tests_one ?_
      k_steps
      refine Hold.of ?_
      (k_here; k_dflt (refine' Con.use (kept_c _ _ _ _ _ _ _ _ _ _ _ _ ?kh) ?k1 ?k2 ?k3 ?k4 ?k5 ?kK ?kp ?kd ?ku ?_; (case kh => assumption); (case k1 => k_asm); (case k2 => k_asm); (case k3 => k_asm); (case k4 => k_asm); (case k5 => k_asm); (case kK => exact rfl); (case kp => assumption); (case kd => ktr_room); (case ku => ktr_units); intro t9 h9 tk9 F9 N9; (try dsimp only); (try k_fold)))
      k_steps
      · rename_i hkp
        refine MEnd.mk (by k_asm) (by k_asm) ?_
        rw [take_snoc hks, List.filter_append, List.map_append, List.filter_cons, if_pos hkp]
        exact ints_snoc hR
      · rename_i hkp
        refine MEnd.mk (by k_asm) (by k_asm) ?_
        rw [take_snoc hks, List.filter_append, List.map_append, List.filter_cons, if_neg (by rw [hkp]; decide)]
        simpa using hR
    · intro hx2 D2 h2 tk2 ys2 hR2 F2 N2 off2 hD2 hDL2 F3 N3
      k_steps
      refine hret D2 ys2 _ _ _ ?_ (by k_asm) (by first | k_asm | (refine' cb_drop ?cbN ?cbS; (case cbN => assumption); (case cbS => first | kcj_all | (intro p hp; cases hp with | head => exact List.Mem.head _ | tail _ hp => (repeat (first | exact hp | apply List.Mem.tail))))))
      rw [List.size_toArray, hWl, show (ballN n).take 16 = ballN n from List.take_of_length_le (by simp [ballN])] at hR2
      exact hR2
end Mine
end
section
open PySem PySem.W PyProof.Rows PySem.Calls PyProof.Rows.LCg
namespace Mine
def dl (k : Nat) : Nat := if k = 14 then 0 else 2 ^ (k % 7)
def ep' (k : Nat) : Nat := if k < 7 ∨ k = 14 then 1 else 0
theorem bit_xor2 (n k j : Nat) : bit (n ^^^ 2 ^ k) j = if j = k then 1 - bit n j else bit n j := by
  rw [bit_tb, bit_tb, Nat.testBit_xor, Nat.testBit_two_pow]
  by_cases h : j = k
  · subst h; rw [if_pos rfl, decide_eq_true rfl]; cases n.testBit j <;> rfl
  · rw [if_neg h, decide_eq_false (fun e => h e.symm), Bool.xor_false]
theorem seven_tb (n k : Nat) : (seven n).testBit k = (decide (k < 7) && (n.testBit k ^^ n.testBit (k + 7))) := by
  unfold seven
  rw [Nat.testBit_xor, Nat.testBit_and, Nat.testBit_and, show (127 : Nat) = 2 ^ 7 - 1 by decide, Nat.testBit_two_pow_sub_one, show (128 : Nat) = 2 ^ 7 by decide, Nat.testBit_div_two_pow]
  cases decide (k < 7) <;> cases n.testBit k <;> cases n.testBit (k + 7) <;> rfl
theorem seven_flip (n k : Nat) (hk : k < 15) : seven (n ^^^ 2 ^ k) = seven n ^^^ dl k := by
  apply Nat.eq_of_testBit_eq
  intro j
  rw [Nat.testBit_xor, seven_tb, seven_tb, Nat.testBit_xor, Nat.testBit_xor, Nat.testBit_two_pow, Nat.testBit_two_pow]
  unfold dl
  by_cases hj : j < 7
  · rw [decide_eq_true hj, Bool.true_and, Bool.true_and]
    by_cases h14 : k = 14
    · subst h14
      rw [if_pos rfl, Nat.zero_testBit, decide_eq_false (by omega), decide_eq_false (by omega)]
      simp
    · rw [if_neg h14, Nat.testBit_two_pow]
      by_cases h1 : k < 7
      · rw [Nat.mod_eq_of_lt h1, decide_eq_false (show ¬ k = j + 7 by omega)]
        by_cases h2 : k = j
        · rw [decide_eq_true h2]; cases n.testBit j <;> cases n.testBit (j + 7) <;> rfl
        · rw [decide_eq_false h2]; cases n.testBit j <;> cases n.testBit (j + 7) <;> rfl
      · have e : k % 7 = k - 7 := by omega
        rw [e, decide_eq_false (show ¬ k = j by omega)]
        by_cases h2 : k = j + 7
        · rw [decide_eq_true h2, decide_eq_true (show k - 7 = j by omega)]; cases n.testBit j <;> cases n.testBit (j + 7) <;> rfl
        · rw [decide_eq_false h2, decide_eq_false (show ¬ k - 7 = j by omega)]; cases n.testBit j <;> cases n.testBit (j + 7) <;> rfl
  · rw [decide_eq_false hj, Bool.false_and, Bool.false_and]
    by_cases h14 : k = 14
    · rw [if_pos h14, Nat.zero_testBit]; rfl
    · rw [if_neg h14, Nat.testBit_two_pow, decide_eq_false (show ¬ k % 7 = j by omega)]; rfl
theorem par_step (k : Nat) (f : Nat → Nat) (hf : ∀ j, f j < 2) : ∀ l : List Nat, (l.map fun j => if j = k then 1 - f j else f j).sum % 2 = ((l.map f).sum + l.count k) % 2
  | [] => rfl
  | a :: r => by
    have ih := par_step k f hf r
    have ha := hf a
    rw [List.map_cons, List.sum_cons, List.map_cons, List.sum_cons, List.count_cons]
    generalize (List.map (fun j => if j = k then 1 - f j else f j) r).sum = u at *
    generalize (List.map f r).sum = v at *
    generalize List.count k r = c at *
    generalize f a = x at *
    clear hf
    by_cases h : a = k
    · rw [if_pos h, if_pos (by rw [beq_iff_eq]; exact h)]
      clear h; omega
    · rw [if_neg h, if_neg (by rw [beq_iff_eq]; exact h)]
      clear h; omega
theorem ks8_count : ∀ k, k < 15 → ks8.count k = ep' k := by decide +kernel
theorem par_flip (n k : Nat) (hk : k < 15) : par8 (n ^^^ 2 ^ k) % 2 = (par8 n + ep' k) % 2 := by
  unfold par8
  rw [← ks8_count k hk, ← par_step k (bit n) (bit_lt n) ks8]
  congr 3
  funext j
  exact bit_xor2 n k j
theorem near_code : ∀ s, s < 128 → ∀ k, k < 15 → sevs.contains (s ^^^ dl k) = true → s ^^^ dl k = codeS s := by decide +kernel
theorem self_code : ∀ s, s < 128 → sevs.contains s = true → s = codeS s := by decide +kernel
def faultS (s lt : Nat) : Nat := if spotS s = 0 then (if lt = 1 then 14 else 15) else (if lt = 1 then spotS s - 1 else spotS s + 6)
theorem one_left : ∀ s, s < 128 → ∀ lt, lt < 2 → ((if sevs.contains s && lt == 0 then [15] else []) ++ (List.range 15).filter fun k => sevs.contains (s ^^^ dl k) && (ep' k + lt) % 2 == 0) = [faultS s lt] := by decide +kernel
theorem fault_eq (n fl : Nat) : faultN n fl = faultS (seven n) (lateN n fl) := rfl
theorem kept_flip (n fl k : Nat) (hk : k < 15) : kept (n ^^^ 2 ^ k) fl = (sevs.contains (seven n ^^^ dl k) && (ep' k + lateN n fl) % 2 == 0) := by
  unfold kept
  rw [seven_flip n k hk]
  cases hc : sevs.contains (seven n ^^^ dl k) with
  | false => rfl
  | true =>
    have e := near_code (seven n) (seven_lt n) k hk hc
    have p := par_flip n k hk
    rw [e, Bool.true_and, Bool.true_and]
    unfold lateN kS
    rw [Bool.eq_iff_iff, beq_iff_eq, beq_iff_eq]
    omega
theorem kept_self (n fl : Nat) : kept n fl = (sevs.contains (seven n) && lateN n fl == 0) := by
  unfold kept
  cases hc : sevs.contains (seven n) with
  | false => rfl
  | true =>
    have e := self_code (seven n) (seven_lt n) hc
    rw [Bool.true_and, Bool.true_and]
    unfold lateN kS
    rw [← e, Bool.eq_iff_iff, beq_iff_eq, beq_iff_eq]
    omega
def at' (n k : Nat) : Nat := if k = 15 then n else n ^^^ 2 ^ k
theorem low15 (n k : Nat) (hn : n < 32768) (hk : k < 15) : (n ^^^ 2 ^ k) &&& 32767 = n ^^^ 2 ^ k ∧ n ^^^ 2 ^ k < 32768 := by
  have h : n ^^^ 2 ^ k < 2 ^ 15 := Nat.xor_lt_two_pow hn (Nat.pow_lt_pow_right (by decide) hk)
  refine ⟨?_, h⟩
  rw [show (32767 : Nat) = 2 ^ 15 - 1 by decide, Nat.and_two_pow_sub_one_eq_mod, Nat.mod_eq_of_lt h]
theorem perfect (n fl : Nat) (hn : n < 32768) : (ballN n).filter (fun x => kept x fl) = [mendN n fl] ∧ mendN n fl = at' n (faultN n fl) ∧ faultN n fl ≤ 15 ∧ mendN n fl < 32768 := by
  have hl : lateN n fl < 2 := Nat.mod_lt _ (by decide)
  have h1 := one_left (seven n) (seven_lt n) (lateN n fl) hl
  rw [← fault_eq] at h1
  have hf : faultN n fl ≤ 15 := by
    have hs := (tab_facts (seven n) (seven_lt n)).2.2
    rw [fault_eq]; unfold faultS
    split <;> split <;> omega
  have hm : mendN n fl = at' n (faultN n fl) := by
    unfold mendN at'
    rcases Nat.lt_or_ge (faultN n fl) 15 with h | h
    · rw [if_neg (by omega)]; exact (low15 n _ hn h).1
    · have e : faultN n fl = 15 := by omega
      rw [if_pos e, e]; exact mend_same n hn
  have hlt : mendN n fl < 32768 := Nat.lt_of_le_of_lt Nat.and_le_right (by decide)
  refine ⟨?_, hm, hf, hlt⟩
  have e2 : (ballN n).filter (fun x => kept x fl) = (((if sevs.contains (seven n) && lateN n fl == 0 then [15] else []) ++ (List.range 15).filter fun k => sevs.contains (seven n ^^^ dl k) && (ep' k + lateN n fl) % 2 == 0)).map (at' n) := by
    unfold ballN
    rw [List.filter_cons, kept_self, List.map_append, List.filter_map]
    have e3 : ((List.range 15).filter ((fun x => kept x fl) ∘ fun k => n ^^^ 2 ^ k)).map (fun k => n ^^^ 2 ^ k) = ((List.range 15).filter fun k => sevs.contains (seven n ^^^ dl k) && (ep' k + lateN n fl) % 2 == 0).map (at' n) := by
      have e4 : (List.range 15).filter ((fun x => kept x fl) ∘ fun k => n ^^^ 2 ^ k) = (List.range 15).filter fun k => sevs.contains (seven n ^^^ dl k) && (ep' k + lateN n fl) % 2 == 0 :=
        List.filter_congr fun k hk => kept_flip n fl k (List.mem_range.mp hk)
      rw [e4]
      refine List.map_congr_left fun k hk => ?_
      have := List.mem_range.mp (List.mem_filter.mp hk).1
      unfold at'
      rw [if_neg (by omega)]
    rw [e3]
    split
    · rfl
    · rfl
  rw [e2, h1, List.map_cons, List.map_nil, hm]
theorem kept_mend (n fl : Nat) (hn : n < 32768) : kept (mendN n fl) fl = true := by
  have h := (perfect n fl hn).1
  have : mendN n fl ∈ (ballN n).filter (fun x => kept x fl) := by rw [h]; exact List.mem_singleton.mpr rfl
  exact (List.mem_filter.mp this).2
theorem only_one (n fl x : Nat) (hn : n < 32768) (hx : x ∈ ballN n) (hk : kept x fl = true) : x = mendN n fl := by
  have h := (perfect n fl hn).1
  have : x ∈ (ballN n).filter (fun x => kept x fl) := List.mem_filter.mpr ⟨hx, hk⟩
  rw [h] at this
  exact List.mem_singleton.mp this
theorem in_ball (n k : Nat) (hk : k < 15) : n ^^^ 2 ^ k ∈ ballN n := List.mem_cons_of_mem _ (List.mem_map_of_mem (f := fun k => n ^^^ 2 ^ k) (List.mem_range.mpr hk))
theorem three : ∀ a, a < 15 → ∀ b, b < 15 → ∀ c, c < 15 → (a == b || a == c || b == c || ((List.range 15).map (bit (2 ^ a ^^^ 2 ^ b ^^^ 2 ^ c))).sum == 3) = true := by decide +kernel
theorem pow_ne {a b : Nat} (h : a ≠ b) : 2 ^ a ≠ 2 ^ b := fun e => by
  rcases Nat.lt_or_gt_of_ne h with g | g
  · have := Nat.pow_lt_pow_right (a := 2) (by decide) g; omega
  · have := Nat.pow_lt_pow_right (a := 2) (by decide) g; omega
theorem xor_same2 (n m : Nat) : n ^^^ m ^^^ m = n := by rw [Nat.xor_assoc, Nat.xor_self, Nat.xor_zero]
theorem distance (n fl a b : Nat) (hn : n < 32768) (ha : a < 15) (hb : b < 15) (hab : a ≠ b) :
    let told := mendN n fl
    let changed := told ^^^ 2 ^ a ^^^ 2 ^ b
    changed < 32768 ∧ mendN changed fl ≠ changed ∧ ((List.range 15).map (bit (told ^^^ mendN changed fl))).sum = 3 := by
  intro told changed
  have ht : told < 32768 := (perfect n fl hn).2.2.2
  have hkt : kept told fl = true := kept_mend n fl hn
  have hm1 : told ^^^ 2 ^ a < 32768 := (low15 told a ht ha).2
  have hch : changed < 32768 := (low15 _ b hm1 hb).2
  have xinj : ∀ {x y z : Nat}, x ^^^ y = x ^^^ z → y = z := fun {x y z} h => by
    have := congrArg (fun t => x ^^^ t) h
    simpa [← Nat.xor_assoc] using this
  have hnk : kept changed fl = false := by
    cases hc : kept changed fl with
    | false => rfl
    | true =>
      have e1 := only_one (told ^^^ 2 ^ a) fl changed hm1 (in_ball _ b hb) hc
      have e2 := only_one (told ^^^ 2 ^ a) fl told hm1 (by have := in_ball (told ^^^ 2 ^ a) a ha; rwa [xor_same2] at this) hkt
      have e3 : told ^^^ 2 ^ a ^^^ 2 ^ b = told := e1.trans e2.symm
      rw [Nat.xor_assoc] at e3
      have e4 : 2 ^ a ^^^ 2 ^ b = 0 := xinj (x := told) (by rw [e3, Nat.xor_zero])
      have e5 : 2 ^ a = 2 ^ b := by
        have := congrArg (fun t => t ^^^ 2 ^ b) e4
        simpa [xor_same2] using this
      exact absurd e5 (pow_ne hab)
  have hp := perfect changed fl hch
  have hk3 := kept_mend changed fl hch
  have hne : mendN changed fl ≠ changed := fun e => by rw [e, hnk] at hk3; cases hk3
  refine ⟨hch, hne, ?_⟩
  have hc15 : faultN changed fl < 15 := by
    rcases Nat.lt_or_ge (faultN changed fl) 15 with h | h
    · exact h
    · exfalso; apply hne; rw [hp.2.1]; unfold at'; rw [if_pos (by omega)]
  have e6 : mendN changed fl = told ^^^ 2 ^ a ^^^ 2 ^ b ^^^ 2 ^ faultN changed fl := by
    rw [hp.2.1]; unfold at'; rw [if_neg (by omega)]
  generalize faultN changed fl = c at *
  have hac : a ≠ c := fun e => by
    subst e
    have e7 : mendN changed fl = told ^^^ 2 ^ b := by
      rw [e6, Nat.xor_assoc, Nat.xor_assoc, Nat.xor_comm (2 ^ b), ← Nat.xor_assoc (2 ^ a), Nat.xor_self, Nat.zero_xor]
    rw [e7] at hk3
    have q1 := only_one told fl _ ht (in_ball told b hb) hk3
    have q2 := only_one told fl told ht (List.mem_cons_self ..) hkt
    have e8 : 2 ^ b = 0 := xinj (x := told) (by rw [Nat.xor_zero]; exact q1.trans q2.symm)
    exact absurd e8 (Nat.pos_iff_ne_zero.mp (Nat.two_pow_pos b))
  have hbc : b ≠ c := fun e => by
    subst e
    have e7 : mendN changed fl = told ^^^ 2 ^ a := by rw [e6, xor_same2]
    rw [e7] at hk3
    have q1 := only_one told fl _ ht (in_ball told a ha) hk3
    have q2 := only_one told fl told ht (List.mem_cons_self ..) hkt
    have e8 : 2 ^ a = 0 := xinj (x := told) (by rw [Nat.xor_zero]; exact q1.trans q2.symm)
    exact absurd e8 (Nat.pos_iff_ne_zero.mp (Nat.two_pow_pos a))
  have e9 : told ^^^ mendN changed fl = 2 ^ a ^^^ 2 ^ b ^^^ 2 ^ c := by
    rw [e6, ← Nat.xor_assoc, ← Nat.xor_assoc, ← Nat.xor_assoc, Nat.xor_self, Nat.zero_xor]
  rw [e9]
  have h3 := three a ha b hb c hc15
  rw [beq_false_of_ne hab, beq_false_of_ne hac, beq_false_of_ne hbc, Bool.false_or, Bool.false_or, Bool.false_or] at h3
  exact eq_of_beq h3
end Mine
end
section
theorem Mine.reset_V1 : True := by
  w_top off
  trivial
open PySem PySem.W PyProof.Rows PySem.Calls PyProof.Rows.LCg
namespace Mine

def sevK : Nat → List Int
  | 0 => [0]
  | i + 1 => sevK i ++ (sevK i).map fun x => Builtin.bitXor x ([7, 25, 42, 75].getD i 0)
theorem sevK4 : sevK 4 = sevL := by decide +kernel
theorem sevK_len : ∀ i, (sevK i).length = 2 ^ i
  | 0 => rfl
  | i + 1 => by rw [sevK, List.length_append, List.length_map, sevK_len i, Nat.pow_succ]; omega
local macro_rules | `(tactic| walk_at "eval ListComp") => `(tactic| refine Hold.mk ?_)
local macro_rules | `(tactic| walk_at "pyIter ref") => `(tactic| refine Hold.mk ?_)
theorem ints_arrI : ∀ {ys : List Value} {ns : List Int} {i : Nat} {v : Value}, IntsAre ys ns → ys.toArray[i]? = some v → ∃ k t, ns[i]? = some k ∧ v = .int k t := by
  intro ys ns i v h hv
  rw [List.getElem?_toArray] at hv
  induction h generalizing i with
  | nil => simp at hv
  | cons k t r ih =>
    cases i with
    | zero => simp at hv; exact ⟨k, t, by simp, hv.symm⟩
    | succ i => simp at hv; obtain ⟨k, t, a, b⟩ := ih hv; exact ⟨k, t, by simpa using a, b⟩
theorem sevens_c (w : World) (loose : List Str) (mean : ExcName → Option Value) (mg mb : Str → Option Value) :
  ConL w loose mean mg mb 235 1 [] (fun _ => True) (fun ys => IntsAre ys sevL) := by
  unfold ConL
  k_fill
  intro dp un gd cn cs a ccd cl outer A₀ base h₀ L m news s Q E BE FE XE NE TE hkE hpE hd1 hd2 hret
  refine wpAny_call ?_
  (k_dflt (refine' code_defC ?k1 ?k2 ?k3 ?k4 ?k5 ?kA ?kF ?kK ?k6 ?k7 ?k8 ?k9 ?kB ?kD ?_ ?c2 ?c3 ?c4; (case kA => exact rfl); (case kF => exact rfl); (case kK => assumption); (case k1 => k_asm); (case k2 => k_asm); (case k3 => k_asm); (case k4 => k_asm); (case k5 => k_asm); (case k6 => k_is); (case k7 => k_is); (case k8 => ktr_room); (case k9 => exact BindsTo.of_eq rfl); (case kB => exact rfl); (case kD => decide +kernel); (case c2 => exact rfl); (case c3 => exact rfl); (case c4 => exact rfl); k_whole; intro g' L' h' tk' cells' FG' F' N' Y' B' X' T' l1; k_cells Y'; (try simp only [List.cons_append, List.nil_append] at N'); (try dsimp only); (try k_lift B'); (try (show wpAny _ _ _ _ _ _; k_fold))))
  replace F' : Fr g' L' h' (fun x => none) := F'
  rename_i oR dR
  replace dR : oR.data = .cell none := dR
  k_steps
  refine wpAny_For ?_
  k_steps
  refine Hold.of ?_
  rename_i D0 _ _ _ I0 h0 F0 N0 l10
  have hl : h0.IsList I0 #[.int 7 tk, .int 25 (tk + 1), .int 42 (tk + 1 + 1), .int 75 (tk + 1 + 1 + 1)] := ⟨_, (N0 _ (.head _)).1, rfl, _, rfl⟩
  refine wpAny_pyIter_list hl ?_
  have hlt : I0 < h0.objs.size := by obtain ⟨_, e, _⟩ := hl; exact Heap.lt_size e
  have N0' : News g' L' h0 ((L' + 1, oR) :: (D0, listOf #[.int 0 tk'] 0) :: (I0, listOf #[.int 7 tk, .int 25 (tk + 1), .int 42 (tk + 1 + 1), .int 75 (tk + 1 + 1 + 1)] 0) :: news) := fun p hp => N0 p (by simp only [List.mem_cons] at hp ⊢; rcases hp with h | h | h | h <;> simp [h])
  refine forloop_W (src := [(I0, listOf #[.int 7 tk, .int 25 (tk + 1), .int 42 (tk + 1 + 1), .int 75 (tk + 1 + 1 + 1)] 0)]) (Walks.list rfl h0.objs.size I0 (Nat.ne_of_lt hlt) #[.int 7 tk, .int 25 (tk + 1), .int 42 (tk + 1 + 1), .int 75 (tk + 1 + 1 + 1)]) (fun _ _ _ _ _ _ _ q => wpAny_pure q) (fun i h st b hb => ?_) ⟨⟨_, Heap.get?_push_size _ rfl, rfl, rfl⟩, hl.push _⟩
    (F0.pushS _) (N0'.pushKeep _) ?_ ?_ ?_ ?_
    (J := fun i m' news' => ∃ D ys ep oC rest, news' = (L' + 1, oC) :: (D, ({ cls := .type "list", data := .seq ys.toArray ep } : Obj)) :: rest ∧ IntsAre ys (sevK i) ∧ (I0, listOf #[.int 7 tk, .int 25 (tk + 1), .int 42 (tk + 1 + 1), .int 75 (tk + 1 + 1 + 1)] 0) ∈ rest ∧ (∀ p ∈ news, p ∈ rest) ∧ (∀ p ∈ rest, p.1 ≠ L' + 1) ∧ (∃ v, oC.data = .cell v) ∧ m' = fun x => if x = Str.ofString "sevens" then some (Value.ref D) else (none : Option Value))
    ?_ ?_ ?_ ?_ (Ret := fun _ _ => False) (fun _ _ e => e.elim)
  · rw [List.mem_singleton.mp hb]; obtain ⟨o, e, _⟩ := st.1; exact ⟨o, e⟩
  · intro hb; exact Nat.lt_irrefl _ (List.mem_singleton.mp hb ▸ F0.ns.lt)
  · intro b hb; rw [List.mem_singleton.mp hb]; exact fresh₀ F0 (Nat.le_refl _)
  · intro p hp hb
    have := Heap.lt_size (N0' p hp).1
    rw [List.mem_singleton.mp hb] at this; exact Nat.lt_irrefl _ this
  · intro b hb hbw
    rcases List.mem_cons.mp hb with rfl | hb
    · exact absurd (List.mem_singleton.mpr rfl) hbw
    · rw [List.mem_singleton.mp hb]; exact ⟨_, .inr (.head _)⟩
  · rintro i m' news' ⟨D, ys, ep, oC, rest, rfl, _, hm, _⟩ p hp
    rw [List.mem_singleton.mp hp]; exact .tail _ (.tail _ hm)
  · refine ⟨D0, [.int 0 tk'], 0, oR, _, rfl, .cons 0 _ .nil, .head _, fun p hp => .tail _ hp, ?_, ⟨_, dR⟩, rfl⟩
    intro p hp
    rcases List.mem_cons.mp hp with rfl | hp
    · exact (ne_data N0' (.head _) (.tail _ (.tail _ (.head _))) (by rw [dR]; exact fun h => by cases h)).symm
    · exact fun e => Nat.lt_irrefl _ (Nat.lt_trans (Nat.lt_succ_self _) (e ▸ l1 p hp))
  · rintro i v m' news' its h tk1 E' hi hv ⟨D, ys, ep, oC, rest, rfl, hys, hI, hn, hne, ⟨vC, dC⟩, rfl⟩ F N offI hitI stI
    obtain ⟨kv, tv, rfl, hkv⟩ : ∃ kv tv, v = Value.int kv tv ∧ kv = ([7, 25, 42, 75] : List Int).getD i 0 := by
      replace hi : i < 4 := hi
      match i, hi, hv with
      | 0, _, rfl => exact ⟨_, _, rfl, rfl⟩
      | 1, _, rfl => exact ⟨_, _, rfl, rfl⟩
      | 2, _, rfl => exact ⟨_, _, rfl, rfl⟩
      | 3, _, rfl => exact ⟨_, _, rfl, rfl⟩
    replace hi : i < 4 := hi
    have hDR : D ≠ L' + 1 := ne_data N (.tail _ (.head _)) (.head _) (by rw [dC]; exact fun h => by cases h)
    simp only [List.cons_append] at N
    refine wpAny_assign_Name ?_
    refine storeX_C F N (by rfl) (UpdF.head fun p hp => ?_) dC fun h2 oC2 F2 N2 d2 => ?_
    · rcases List.mem_cons.mp hp with rfl | hp
      · exact hDR
      · rcases List.mem_append.mp hp with hp | hp
        · exact hne p hp
        · exact offI (L' + 1, oC) (.head _) p hp
    have hitO : ∀ q ∈ its, ∀ xs ep, q.2.data ≠ .seq xs ep := fun q hq xs ep e => by
      obtain ⟨o, ho, _, hd⟩ := stI.1
      have h1 := (N q (.tail _ (.tail _ (List.mem_append_right _ hq)))).1
      rw [List.mem_singleton.mp (hitI q hq), ho] at h1
      cases h1; rw [hd] at e; cases e
    clear N F
    have hlen : ys.length ≤ 8 := by rw [hys.length, sevK_len]; exact Nat.le_trans (Nat.pow_le_pow_right (by decide) (by omega : i ≤ 3)) (by decide)
    k_steps
    refine Hold.of ?_
    refine ListComp_M (F₀ := by k_asm) (by with_unfolding_all rfl) (by decide) (by rfl) (by decide) ?_
    k_steps
    refine Hold.of ?_
    refine iter_list_M rfl F2 N2 (Or.inr ⟨_, .tail _ (.head _), rfl, _, rfl⟩) (by rfl) (by rfl) (by rw [List.size_toArray]; exact Nat.le_trans hlen (by decide)) (Rel := fun j zs => IntsAre zs (((sevK i).take j).map fun x => Builtin.bitXor x kv)) .nil ?_ ?_
    · intro j C oC m₂ zs led h3 g3 tk3 E3 hj hB hC hR F3 N3 hCm hsub
      obtain ⟨x, hx, hk⟩ := hB
      obtain ⟨kk, tx', hks, rfl⟩ := ints_arrI hys hx
      have hm1 : (L' + 1, oC2) ∈ led := hsub _ (.head _)
      refine wpAny_tests_nil ?_
      simp only [if_true]
      k_steps
      refine MEnd.mk F3 N3 ?_
      rw [take_snoc hks, List.map_append]
      exact ints_snoc hR
    · intro hx3 D3 h3 tk3 zs hR3 F3 N3 off3 hD3 hDL3 F4 N4
      rw [List.size_toArray, hys.length, List.take_length] at hR3
      have hlen2 : zs.length ≤ 8 := by rw [hR3.length, List.length_map, ← hys.length]; exact hlen
      k_steps
      rename_i hp4 hp5 F5 N5
      have F6 : Fr g' L' hp5 (fun x => if x = Str.ofString "sevens" then some (Value.ref h3.objs.size) else (none : Option Value)) := by
        have e : (fun x => if x = Str.ofString "sevens" then some (Value.ref h3.objs.size) else (none : Option Value)) = (fun y => if y = Str.ofString "sevens" then some (Value.ref h3.objs.size) else if y = Str.ofString "sevens" then some (Value.ref D) else none) := by
          funext y; by_cases h : y = Str.ofString "sevens" <;> simp [h]
        rw [e]; exact F5
      have N6 : News g' L' hp5 (((L' + 1, oC2) :: (h3.objs.size, ({ cls := .type "list", data := .seq (ys ++ zs).toArray 0 } : Obj)) :: rest) ++ its) := fun p hp => N5 p (by
        simp only [List.cons_append, List.mem_cons] at hp ⊢
        rcases hp with h | h | h
        · exact .inr (.inr (.inl h))
        · exact .inl h
        · exact .inr (.inr (.inr (.inr h))))
      refine FEnd.next F6 N6 ?_ ⟨_, ys ++ zs, _, oC2, rest, rfl, (by show IntsAre _ (sevK i ++ _); rw [← hkv]; exact hys.append hR3), hI, hn, hne, ⟨_, d2⟩, rfl⟩
      intro p hp q hq
      rcases List.mem_cons.mp hp with rfl | hp
      · exact offI (L' + 1, oC) (.head _) q hq
      · rcases List.mem_cons.mp hp with rfl | hp
        · exact ne_data N6 (.tail _ (.tail _ (List.mem_append_right _ hq))) (.tail _ (.head _)) (hitO q hq _ _)
        · exact offI p (.tail _ (.tail _ hp)) q hq
  · rintro h tk2 m' news' ⟨D, ys, ep, oC, rest, rfl, hys, hI, hn, hne, ⟨vC, dC⟩, rfl⟩ F N
    rw [show (#[.int 7 tk, .int 25 (tk + 1), .int 42 (tk + 1 + 1), .int 75 (tk + 1 + 1 + 1)] : Array Value).size = 4 from rfl, sevK4] at hys
    k_steps
    refine hret D ys ep _ _ hys (by k_asm) (by first | k_asm | (refine' cb_drop ?cbN ?cbS; (case cbN => assumption); (case cbS => first | kcj_all | (intro p hp; cases hp with | head => exact List.Mem.tail _ (List.Mem.head _) | tail _ hp => exact List.Mem.tail _ (List.Mem.tail _ (hn _ hp))))))
end Mine
end
section
open PySem PySem.W PyProof.Rows PySem.Calls PyProof.Rows.LCg
namespace Mine
/-- The letters of a number's ones. -/
def onesL (base x : Nat) : List Nat := ((List.range 7).filter fun j => bit x j == 1).map fun j => base + j
def sevenAt (k : Nat) : Nat := sevs.getD k 0
def flagAt (fl k : Nat) : Nat := fl / 2 ^ k
def dg (q : Nat) : List Nat := (Str.ofString (toString (q : Int))).cps.toList
theorem dg_tx (q : Nat) : Str.ofString (toString (q : Int)) = tx (dg q) := rfl
def numL (q : Nat) : List Nat := dg (q / 10) ++ [95] ++ dg (q % 10)
theorem fdiv10 (q : Nat) : ((q : Int)).fdiv 10 = ((q / 10 : Nat) : Int) := by rw [show (10 : Int) = ((10 : Nat) : Int) from rfl, ← Int.ofNat_fdiv]
theorem fmod10 (q : Nat) : ((q : Int)).fmod 10 = ((q % 10 : Nat) : Int) := by rw [Int.fmod_eq_emod_of_nonneg _ (by decide)]; rfl
inductive RowsAre (fl : Nat) : Nat → List Value → List (Addr × Obj) → Prop
  | nil (led) : RowsAre fl 0 [] led
  | snoc {i ys led T o} (h : RowsAre fl i ys led) (hm : (T, o) ∈ led) (hc : o.cls = .type "tuple") (t1 t2 : Tok) {nn} (hd : o.data = .seq #[.str (tx (86 :: onesL 65 (sevenAt i))) t1, .str (tx (numL (flagAt fl i))) t2] nn) : RowsAre fl (i + 1) (ys ++ [.ref T]) led
theorem RowsAre.length {fl i : Nat} {ys : List Value} {led : List (Addr × Obj)} (h : RowsAre fl i ys led) : ys.length = i := by
  induction h with
  | nil => rfl
  | snoc _ _ _ _ _ _ ih => rw [List.length_append, ih]; rfl
theorem RowsAre.mono {fl i : Nat} {ys : List Value} {led led' : List (Addr × Obj)} (h : RowsAre fl i ys led) (hs : ∀ p ∈ led, p ∈ led') : RowsAre fl i ys led' := by
  induction h with
  | nil => exact .nil _
  | snoc _ hm hc t1 t2 hd ih => exact .snoc (ih hs) (hs _ hm) hc t1 t2 hd
theorem caps_get : ∀ i, i < 7 → (Str.ofString "ABCDEFG").cps[i]? = some (65 + i) := by decide +kernel
theorem bit_of_ne {n k : Nat} (h : Builtin.bitAnd ((n : Int).fdiv (2 ^ k)) 1 ≠ 0) : bit n k = 1 := by
  rw [bit_int] at h; have := bit_lt n k; omega
theorem bit_of_eq {n k : Nat} (h : Builtin.bitAnd ((n : Int).fdiv (2 ^ k)) 1 = 0) : bit n k = 0 := by
  rw [bit_int] at h; omega
end Mine
end
section
open PySem PySem.W PyProof.Rows PySem.Calls PyProof.Rows.LCg
namespace Mine

def nameCode : Array Nat := #[14, 10, 4, 1, 1, 22, 0, 31, 16, 127, 0, 13, 7, 22, 0, 31, 16, 127, 0, 1]
def valueCode : Array Nat := #[14, 14, 4, 1, 1, 9, 4294966783, 0, 0, 2147483648, 0, 0, 0, 0, 0, 13, 11, 9, 4294966783, 0, 0, 2147483648, 0, 0, 0, 0, 0, 1]
def okSign (c : Nat) : Prop := 32 ≤ c ∧ c < 127
theorem inSet_name (c : Nat) (h : okSign c) (seen : Sre.Seen) : ∃ seen', Sre.inSet nameCode c nameCode.size 5 true seen = .ok (false, seen') := by
  obtain ⟨h1, h2⟩ := h
  have a1 : (decide (0 ≤ c) && decide (c ≤ 31)) = false := by rw [decide_eq_false (show ¬ c ≤ 31 by omega), Bool.and_false]
  have a2 : (c == 127) = false := by rw [beq_eq_false_iff_ne]; omega
  refine ⟨((seen.add 22).add 16).add 0, ?_⟩
  show (if (decide (0 ≤ c) && decide (c ≤ 31)) = true then (.ok (true, seen.add 22) : Except String (Bool × Sre.Seen)) else if (c == 127) = true then .ok (true, (seen.add 22).add 16) else .ok (false, ((seen.add 22).add 16).add 0)) = _
  rw [a1, a2]; rfl
theorem testBits : ∀ c, c < 127 → 32 ≤ c → ((valueCode.getD (5 + (1 + c / 32)) 0).testBit (c % 32)) = false := by decide +kernel
theorem inSet_value (c : Nat) (h : okSign c) (seen : Sre.Seen) : ∃ seen', Sre.inSet valueCode c valueCode.size 5 true seen = .ok (false, seen') := by
  obtain ⟨h1, h2⟩ := h
  have a := testBits c h2 h1
  refine ⟨(seen.add 9).add 0, ?_⟩
  show (if (decide (c < 256) && (valueCode.getD (5 + (1 + c / 32)) 0).testBit (c % 32)) = true then (.ok (true, seen.add 9) : Except String (Bool × Sre.Seen)) else .ok (false, (seen.add 9).add 0)) = _
  rw [a, Bool.and_false]; rfl

def CodeNo (code : Array Nat) : Prop := ∀ c, okSign c → ∀ seen, ∃ seen', Sre.inSet code c code.size 5 true seen = .ok (false, seen')
theorem admitted_none {m : Sre.M} (hc : CodeNo m.code) (ht : ∀ i, i < m.lim → okSign (m.text.getD i 0)) : ∀ (fuel s : Nat) (seen : Sre.Seen), ∃ seen', m.admitted fuel s seen = .ok (none, seen')
  | 0, s, seen => ⟨seen, rfl⟩
  | fuel + 1, s, seen => by
    unfold Sre.M.admitted
    by_cases h : s ≥ m.lim
    · rw [if_pos h]; exact ⟨seen, rfl⟩
    · rw [if_neg h]
      obtain ⟨s1, e1⟩ := hc _ (ht s (by omega)) seen
      rw [e1]
      exact admitted_none hc ht fuel (s + 1) s1

theorem attempt_fails {m : Sre.M} (hc : CodeNo m.code) (hf : m.hasFirstSet = true) (ht : ∀ i, i < m.lim → okSign (m.text.getD i 0)) (s : Nat) (first : Bool) :
    ∃ m', m.attemptFrom s first = m' ∧ m'.answer = some false ∧ m'.frames = m.frames ∧ m'.outcome = m.outcome := by
  obtain ⟨seen', e⟩ := admitted_none hc ht (m.lim + 1 - s) s m.seen
  unfold Sre.M.attemptFrom
  rw [hf]
  simp only [Bool.not_true, Bool.false_eq_true, if_false]
  rw [e]
  exact ⟨_, rfl, rfl, rfl, rfl⟩
theorem search_fails {code text : Array Nat} (hc : CodeNo code) (hf : ∀ m : Sre.M, m.code = code → m.hasFirstSet = true) (ht : ∀ i, i < text.size → okSign (text.getD i 0)) :
    ∃ m, m.outcome = some .failed ∧ Sre.M.runFor 4 (Sre.forSearch code text 0 0 text.size false) = m := by
  have key : ∃ m, Sre.forSearch code text 0 0 text.size false = m ∧ m.answer = some false ∧ m.frames = [] ∧ m.outcome = none := by
    unfold Sre.forSearch
    dsimp only
    split
    · exact ⟨_, rfl, rfl, rfl, rfl⟩
    · exact attempt_fails hc (hf _ rfl) ht _ _
  obtain ⟨m, e, ha, hfr, ho⟩ := key
  rw [e]
  refine ⟨_, ?_, rfl⟩
  have s1 : m.step = { m with outcome := some .failed } := by
    unfold Sre.M.step
    rw [ho, ha, hfr]; rfl
  have r4 : Sre.M.runFor 4 m = { m with outcome := some .failed } := by
    show (if m.outcome.isSome then m else Sre.M.runFor 3 m.step) = _
    rw [ho, s1]; rfl
  rw [r4]
end Mine
end
section
open PySem PySem.W PyProof.Rows PySem.Calls PyProof.Rows.LCg
namespace Mine
theorem owner_re : True := trivial
theorem slot_re_search : Slot "re.Pattern" "search" "re.Pattern.search" :=
  .of (owner := "re.Pattern") (n := "search") (by rw [typeLookup_type, builtinLookup_eq_fast]; kernel_rfl) (by decide +kernel) (by decide +kernel) (by decide +kernel)
    (by first | exact .inl (by decide +kernel) | exact .inr (by decide +kernel)) (by rw [isSubtype_type]; kernel_rfl)
theorem type_re_search : typeOf (.builtin "re.Pattern.search") = pure (.type "method_descriptor") := by show builtinType _ = _; rw [builtinType_eq_fast]; kernel_rfl
theorem entry_re_search : entryFor table "re.Pattern.search" = some Builtin.«re.Pattern.search» := entryFor_of_tree (by kernel_rfl)
theorem args_re_search (a b : Value) : argsOk "re.Pattern.search" ⟨[a, b], []⟩ := by
  unfold argsOk
  kernel_rfl
theorem named_eq (z : Str) (u : Tok) : Builtin.Re.reNamed "re.Pattern.search" "search" ["string", "pos", "endpos"] 1 [.str z u] [] = pure [some (.str z u), none, none] := by rfl
end Mine
namespace Mine
section
variable {prog : Program} {w : World} {A : Around} {E : Value → Shared → Prop} {s : Shared}
theorem wpAny_rules {Q : PUnit → Shared → Prop} (b : Nat → Bool) (f : Nat → String) : ∀ (l : List Nat), Q ⟨⟩ s →
    wpAny (model prog w) A (forIn l PUnit.unit fun i (_ : PUnit) => if b i = true then do rule (f i); pure (ForInStep.yield PUnit.unit) else pure (ForInStep.yield PUnit.unit)) Q E s
  | [], h => by rw [List.forIn_nil]; exact wpAny_pure h
  | i :: r, h => by
    rw [List.forIn_cons]
    refine wpAny_bind ?_
    cases hb : b i with
    | false => exact wpAny_pure (wpAny_rules b f r h)
    | true => exact wpAny_bind (wpAny_rule (wpAny_pure (wpAny_rules b f r h)))
theorem runToEnd_fails {m0 m : Sre.M} {Q : Option Sre.M → Shared → Prop} (hr : Sre.M.runFor 4 m0 = m) (ho : m.outcome = some .failed) (h : Q none s) : wpAny (model prog w) A (Builtin.Re.reRunToEnd m0) Q E s := by
  have hd : Builtin.Re.reDrive (2 ^ 64) m0 = pure m := by
    rw [show (2 ^ 64 : Nat) = (2 ^ 64 - 1) + 1 from rfl]
    show (if (Sre.M.runFor 4 m0).outcome.isSome = true then pure (Sre.M.runFor 4 m0) else _) = _
    rw [hr, ho]; rfl
  unfold Builtin.Re.reRunToEnd
  rw [hd]
  refine wpAny_bind (wpAny_pure ?_)
  refine wpAny_bind (wpAny_rules (fun i => m.seen.has i) (fun i => Sre.names.getD i "") _ ?_)
  rw [ho]
  exact wpAny_pure h

theorem search_call {p tt : Addr} {src : Str} {a1 a2 a3 a4 : Tok} {items : List Value} {code : Array Nat} {z : Str} {u : Tok} {od : Option Addr} {osl : Array (Option Value)} {on : Nat} {Q : Value → Shared → Prop}
    (hp : s.heap.get? p = some { cls := .type "re.Pattern", dict := none, data := .fields #[.str src a1, .int 32 a2, .int 0 a3, .none, .none, .ref tt, .int 0 a4], slots := #[] })
    (ht : s.heap.get? tt = some { cls := .type "tuple", dict := od, data := .seq items.toArray on, slots := osl }) (hcode : (items.toArray.map Builtin.Re.reRawOf).map (·.toNat) = code)
    (hc : CodeNo code) (hf : ∀ m : Sre.M, m.code = code → m.hasFirstSet = true) (hz : ∀ i, i < z.cps.size → okSign (z.cps.getD i 0)) (hzs : z.cps.size ≤ 1000) (h : Q .none s) :
    wpAny (model prog w) A (call (.builtin "re.Pattern.search") [.ref p, .str z u]) Q E s := by
  refine wpAny_call_entry slot_re_search ⟨_, hp, rfl⟩ entry_re_search ?_ (args_re_search _ _)
  show wpAny _ _ (Builtin.Re.reTarget "re.Pattern.search" "search" ⟨[.ref p, .str z u], []⟩ >>= fun t => Builtin.Re.reAnswer t (Sre.forSearch t.code t.text t.groups t.pos t.lim false)) _ _ s
  refine wpAny_bind ?_
  unfold Builtin.Re.reTarget
  dsimp only
  rw [named_eq]
  refine wpAny_bind (wpAny_pure ?_)
  dsimp only
  refine wpAny_bind (wpAny_pure ?_)
  refine wpAny_bind (wpAny_pure ?_)
  refine wpAny_bind ?_
  show wpAny _ _ (load p >>= _) _ _ s
  refine wpAny_bind (wpAny_load hp ?_)
  refine wpAny_pure ?_
  refine wpAny_bind ?_
  show wpAny _ _ (pure (z.cps, 0)) _ _ s
  refine wpAny_pure ?_
  dsimp only
  show wpAny _ _ (Builtin.Re.reNoCollectionInside (.str z u) 0 >>= fun _ => Builtin.Re.reRawItems (.ref tt) >>= fun xs => pure ({ pattern := .ref p, string := .str z u, code := xs.map (·.toNat), text := z.cps, kind := 0, groups := 0, pos := min (Int.toNat 0) z.cps.size, lim := min (2 ^ 63 - 1 : Int).toNat z.cps.size } : Builtin.Re.ReTarget)) _ _ s
  refine wpAny_bind (wpAny_pure ?_)
  refine wpAny_bind ?_
  unfold Builtin.Re.reRawItems
  refine wpAny_bind ?_
  unfold seqItems?
  refine wpAny_bind (wpAny_load ht ?_)
  refine wpAny_pure ?_
  refine wpAny_pure ?_
  refine wpAny_pure ?_
  dsimp only [Option.getD]
  rw [hcode]
  have hl : min (2 ^ 63 - 1 : Int).toNat z.cps.size = z.cps.size := by
    have : (2 ^ 63 - 1 : Int).toNat = 9223372036854775807 := by decide
    rw [this]; omega
  have h0 : min (Int.toNat 0) z.cps.size = 0 := by simp
  rw [hl, h0]
  unfold Builtin.Re.reAnswer
  dsimp only
  obtain ⟨m, ho, hr⟩ := search_fails hc hf hz
  refine wpAny_bind (runToEnd_fails hr ho ?_)
  exact wpAny_pure ⟨_, rfl, h⟩
end
end Mine
end
section
theorem Mine.reset_V3 : True := by
  w_top off
  trivial
open PySem PySem.W PyProof.Rows PySem.Calls PyProof.Rows.LCg
namespace Mine
def ConK (w : World) (loose : List Str) (mean : ExcName → Option Value) (mg mb : Str → Option Value) (f : Addr) (k : Nat) (vs : List Value) (kw : List (Str × Value)) (Pre : List (Addr × Obj) → Prop) (R : Tok → Value) : Prop :=
  ∀ (dp un : Nat) (gd : Option (List Code)) (cn : Str) (cs : Scope) (a : Addr) (ccd : Value) (cl : List (Str × Addr)) (outer : List Env) (A₀ : Around) (base h₀ : Heap) (L : Addr) (m : Str → Option Value) (news : List (Addr × Obj)) (s : Shared) (Q E : Value → Shared → Prop),
    Below A₀ base outer h₀ → Fr h₀ L s.heap m → (hd.heap_39 w.params).In h₀ → News h₀ L s.heap news → Top topProg loose mean mg mb h₀ → cs.kind = .function →
    Pre news → dp + k < recursionLimit → un + 16 * k < cLine →
    (∀ (t : Tok) (h' : Heap) (tk' : Nat), Fr h₀ L h' m → News h₀ L h' news → Q (R t) { s with heap := h', toks := tk' }) →
      wpAny (model PySem.Challenge.rw_to0078_01.row.toRowW.prog w) (ktrTop dp un gd cn cs L a ccd cl outer) (call (.ref f) vs kw) Q E s
theorem plain_re : PlainAttrs "re.Pattern" := 
  ⟨⟨"object.__getattribute__", by rw [typeLookup_type, builtinLookup_eq_fast]; kernel_rfl, by decide +kernel⟩, by rw [typeLookup_type, builtinLookup_eq_fast]; kernel_rfl⟩
theorem first_name (m : Sre.M) (h : m.code = nameCode) : m.hasFirstSet = true := by
  unfold Sre.M.hasFirstSet; rw [h]; decide
theorem first_value (m : Sre.M) (h : m.code = valueCode) : m.hasFirstSet = true := by
  unfold Sre.M.hasFirstSet; rw [h]; decide
theorem pat_name (w : World) : ∃ src a1 a2 a3 a4, (hd.heap_39 w.params).lookup 93 = some { cls := .type "re.Pattern", dict := none, data := .fields #[.str src a1, .int 32 a2, .int 0 a3, .none, .none, .ref 92, .int 0 a4], slots := #[] } := ⟨_, _, _, _, _, rfl⟩
theorem pat_value (w : World) : ∃ src a1 a2 a3 a4, (hd.heap_39 w.params).lookup 98 = some { cls := .type "re.Pattern", dict := none, data := .fields #[.str src a1, .int 32 a2, .int 0 a3, .none, .none, .ref 97, .int 0 a4], slots := #[] } := ⟨_, _, _, _, _, rfl⟩
theorem tup_name (w : World) : ∃ od osl on, ∃ items : List Value, (hd.heap_39 w.params).lookup 92 = some { cls := .type "tuple", dict := od, data := .seq items.toArray on, slots := osl } ∧ (items.toArray.map Builtin.Re.reRawOf).map (·.toNat) = nameCode := ⟨_, _, _, _, rfl, by decide +kernel⟩
theorem tup_value (w : World) : ∃ od osl on, ∃ items : List Value, (hd.heap_39 w.params).lookup 97 = some { cls := .type "tuple", dict := od, data := .seq items.toArray on, slots := osl } ∧ (items.toArray.map Builtin.Re.reRawOf).map (·.toNat) = valueCode := ⟨_, _, _, _, rfl, by decide +kernel⟩
theorem search_name {prog : Program} {w : World} {A : Around} {E : Value → Shared → Prop} {s : Shared} {Q : Value → Shared → Prop} {z : Str} {u : Tok} (X : (hd.heap_39 w.params).In s.heap) (hz : ∀ c ∈ z.cps.toList, okSign c) (hlen : z.length ≤ 1000) (h : Q .none s) : wpAny (model prog w) A (call (.builtin "re.Pattern.search") [.ref 93, .str z u]) Q E s := by
  obtain ⟨src, a1, a2, a3, a4, e1⟩ := pat_name w
  obtain ⟨od, osl, on, items, e2, e3⟩ := tup_name w
  refine search_call (X _ _ e1) (X _ _ e2) e3 (fun c h seen => inSet_name c h seen) first_name (fun i hi => hz _ ?_) hlen h
  rw [Array.getD_eq_getD_getElem?, Array.getElem?_eq_getElem hi]; exact Array.getElem_mem_toList hi
theorem search_value {prog : Program} {w : World} {A : Around} {E : Value → Shared → Prop} {s : Shared} {Q : Value → Shared → Prop} {z : Str} {u : Tok} (X : (hd.heap_39 w.params).In s.heap) (hz : ∀ c ∈ z.cps.toList, okSign c) (hlen : z.length ≤ 1000) (h : Q .none s) : wpAny (model prog w) A (call (.builtin "re.Pattern.search") [.ref 98, .str z u]) Q E s := by
  obtain ⟨src, a1, a2, a3, a4, e1⟩ := pat_value w
  obtain ⟨od, osl, on, items, e2, e3⟩ := tup_value w
  refine search_call (X _ _ e1) (X _ _ e2) e3 (fun c h seen => inSet_value c h seen) first_value (fun i hi => hz _ ?_) hlen h
  rw [Array.getD_eq_getD_getElem?, Array.getElem?_eq_getElem hi]; exact Array.getElem_mem_toList hi
local macro_rules | `(tactic| walk_at "getMethod ref") => `(tactic| refine Hold.mk ?_)
theorem convert_c (w : World) (loose : List Str) (mean : ExcName → Option Value) (mg mb : Str → Option Value) (x : Addr) (z : Str) (t : Tok) (nm : Bool) (hz : ∀ c ∈ z.cps.toList, okSign c) (hlen : z.length ≤ 1000) :
  ConK w loose mean mg mb 120 2 [.ref x, .str z t] [("name", .bool nm)] (fun _ => True) (fun t => .str z t) := by
  unfold ConK
  k_fill
  intro dp un gd cn cs a ccd cl outer A₀ base h₀ L m news s Q E BE FE XE NE TE hkE hpE hd1 hd2 hret
  refine wpAny_call ?_
  k_dflt cell_enter
  k_steps
  · refine Hold.of ?_
    rename_i F N
    have X2 : (hd.heap_39 w.params).In _ := (by assumption : (hd.heap_39 w.params).In _).keeps F.keep
    obtain ⟨src, a1, a2, a3, a4, e1⟩ := pat_name w
    refine getMethod_builtin ⟨_, X2 _ _ e1, rfl⟩ plain_re slot_re_search type_re_search (fun a e => by cases e; exact ⟨_, X2 _ _ e1, rfl⟩) ?_
    k_steps
    refine search_name X2 hz hlen ?_
    k_steps
    refine cb_retS hret rfl (by k_asm) (by k_asm)
  · refine Hold.of ?_
    rename_i F N
    have X2 : (hd.heap_39 w.params).In _ := (by assumption : (hd.heap_39 w.params).In _).keeps F.keep
    obtain ⟨src, a1, a2, a3, a4, e1⟩ := pat_value w
    refine getMethod_builtin ⟨_, X2 _ _ e1, rfl⟩ plain_re slot_re_search type_re_search (fun a e => by cases e; exact ⟨_, X2 _ _ e1, rfl⟩) ?_
    k_steps
    refine search_value X2 hz hlen ?_
    k_steps
    refine cb_retS hret rfl (by k_asm) (by k_asm)
end Mine
end
section
open PySem PySem.W PyProof.Rows PySem.Calls PyProof.Rows.LCg PySem.NumText
namespace Mine
theorem dg_eq (q : Nat) : dg q = (Nat.toDigits 10 q).map Char.toNat := KIN.signs_num q
theorem dg_digits (q : Nat) : ∀ c ∈ dg q, 48 ≤ c ∧ c ≤ 57 := by
  intro c hc
  rw [dg_eq] at hc
  obtain ⟨ch, hch, e⟩ := List.mem_map.mp hc
  have r := digit_range (Nat.isDigit_of_mem_toDigits (by decide) (by decide) hch)
  rw [← e]
  exact r
theorem dg_small (q : Nat) (h : q < 10) : dg q = [48 + q] := by
  rw [dg_eq, Nat.toDigits_of_lt_base h]
  revert h q; decide
theorem dg_len {k q : Nat} (hk : 1 ≤ k) (h : q < 10 ^ k) : (dg q).length ≤ k := by
  rw [dg_eq, List.length_map]; exact digits10_le hk h
theorem dg_val (q : Nat) : digitsVal (dg q) = q := by rw [dg_eq]; exact KIN.val_back q
theorem numL_ok (q : Nat) : ∀ c ∈ numL q, 32 ≤ c ∧ c < 127 := by
  intro c hc
  unfold numL at hc
  rcases List.mem_append.mp hc with hc | hc
  · rcases List.mem_append.mp hc with hc | hc
    · have := dg_digits _ c hc; omega
    · have := List.mem_singleton.mp hc; omega
  · have := dg_digits _ c hc; omega
theorem numL_len (q : Nat) (h : q < 65536) : (numL q).length ≤ 20 := by
  unfold numL
  rw [List.length_append, List.length_append]
  have a := dg_len (k := 5) (q := q / 10) (by decide) (by omega)
  have b := dg_len (k := 5) (q := q % 10) (by decide) (by omega)
  simp only [List.length_singleton]; omega
theorem num_text (q : Nat) (h : q < 65536) : PySem.intText? (tx (dg (q / 10) ++ dg (q % 10))) = some ((q : Nat) : Int) := by
  have hd : AllDigits (tx (dg (q / 10) ++ dg (q % 10))).cps.toList := fun c hc => by
    rw [tx_cps] at hc
    rcases List.mem_append.mp hc with hc | hc <;> exact dg_digits _ c hc
  have e := intText_digits hd (by rw [tx_cps, dg_small (q % 10) (by omega)]; simp) (by
    rw [tx_length, List.length_append]
    have a := dg_len (k := 5) (q := q / 10) (by decide) (by omega)
    have b := dg_len (k := 5) (q := q % 10) (by decide) (by omega)
    omega)
  rw [e, tx_cps, dg_small (q % 10) (by omega), digitsVal_snoc, dg_val]
  congr 2; omega
end Mine
end
section
local macro_rules | `(tactic| walk_at "pad 0") => `(tactic| skip)
theorem Mine.reset_V4 : True := by
  w_top off
  trivial
open PySem PySem.W PyProof.Rows PySem.Calls PyProof.Rows.LCg
namespace Mine
def ConH (w : World) (loose : List Str) (mean : ExcName → Option Value) (mg mb : Str → Option Value) (f : Addr) (k : Nat) (vs : List Value) (Pre : List (Addr × Obj) → Prop) (Res : Value → List (Addr × Obj) → Prop) : Prop :=
  ∀ (dp un : Nat) (gd : Option (List Code)) (cn : Str) (cs : Scope) (a : Addr) (ccd : Value) (cl : List (Str × Addr)) (outer : List Env) (A₀ : Around) (base h₀ : Heap) (L : Addr) (m : Str → Option Value) (news : List (Addr × Obj)) (s : Shared) (Q E : Value → Shared → Prop),
    Below A₀ base outer h₀ → Fr h₀ L s.heap m → (hd.heap_39 w.params).In h₀ → News h₀ L s.heap news → Top topProg loose mean mg mb h₀ → cs.kind = .function →
    Pre news → dp + k < recursionLimit → un + 16 * k < cLine →
    (∀ (v : Value) (own : List (Addr × Obj)) (h' : Heap) (tk' : Nat), Res v own → Fr h₀ L h' m → News h₀ L h' (own ++ news) → Q v { s with heap := h', toks := tk' }) →
      wpAny (model PySem.Challenge.rw_to0078_01.row.toRowW.prog w) (ktrTop dp un gd cn cs L a ccd cl outer) (call (.ref f) vs) Q E s
local macro_rules | `(tactic| walk_at "pyIter ref") => `(tactic| refine Hold.mk ?_)
local macro_rules | `(tactic| k_all) => `(tactic| assumption)
local macro_rules | `(tactic| k_ne) => `(tactic| assumption)
theorem ConK.use {w : World} {loose : List Str} {mean : ExcName → Option Value} {mg mb : Str → Option Value} {f : Addr} {k : Nat} {vs : List Value} {kw : List (Str × Value)} {Pre : List (Addr × Obj) → Prop} {R : Tok → Value} (C : ConK w loose mean mg mb f k vs kw Pre R)
    {dp un : Nat} {gd : Option (List Code)} {cn : Str} {cs : Scope} {a : Addr} {ccd : Value} {cl : List (Str × Addr)} {outer : List Env} {A₀ : Around} {base h₀ : Heap} {L : Addr} {m : Str → Option Value} {news : List (Addr × Obj)} {s : Shared} {Q E : Value → Shared → Prop}
    (B : Below A₀ base outer h₀) (F : Fr h₀ L s.heap m) (X : (hd.heap_39 w.params).In h₀) (N : News h₀ L s.heap news) (T : Top topProg loose mean mg mb h₀) (hk : cs.kind = .function) (hp : Pre news) (hd : dp + k < recursionLimit) (hu : un + 16 * k < cLine)
    (ret : ∀ (t : Tok) (h' : Heap) (tk' : Nat), Fr h₀ L h' m → News h₀ L h' news → Q (R t) { s with heap := h', toks := tk' }) :
    wpAny (model PySem.Challenge.rw_to0078_01.row.toRowW.prog w) (ktrTop dp un gd cn cs L a ccd cl outer) (call (.ref f) vs kw) Q E s := C _ _ _ _ _ _ _ _ _ _ _ _ _ _ _ _ _ _ B F X N T hk hp hd hu ret
theorem RowsAre.at {fl n : Nat} {ys : List Value} {led : List (Addr × Obj)} (h : RowsAre fl n ys led) {i : Nat} {v : Value} (e : ys[i]? = some v) :
    ∃ T o t1 t2 nn, v = .ref T ∧ (T, o) ∈ led ∧ o.cls = .type "tuple" ∧ o.data = .seq #[.str (tx (86 :: onesL 65 (sevenAt i))) t1, .str (tx (numL (flagAt fl i))) t2] nn := by
  induction h with
  | nil => simp at e
  | @snoc j ys led T o h hm hc t1 t2 nn hd ih =>
    have hl := h.length
    by_cases hj : i < ys.length
    · rw [List.getElem?_append_left hj] at e; exact ih e
    · rw [List.getElem?_append_right (Nat.not_lt.mp hj)] at e
      have : i = j := by
        have := (List.getElem?_eq_some_iff.mp e).1
        simp at this; omega
      subst this
      rw [hl, Nat.sub_self] at e
      cases e
      exact ⟨T, o, t1, t2, nn, rfl, hm, hc, hd⟩
theorem lookup_if {y k : Str} {v : Value} {r : List (Str × Value)} : List.lookup y ((k, v) :: r) = if y = k then some v else List.lookup y r := by
  rw [show List.lookup y ((k, v) :: r) = (match y == k with | true => some v | false => List.lookup y r) from rfl]
  by_cases h : y = k
  · subst h; simp
  · rw [if_neg h, show (y == k) = false from by simpa using h]
theorem okRow : ∀ i, i < 16 → ∀ c ∈ (tx (86 :: onesL 65 (sevenAt i))).cps.toList, okSign c := by
  unfold okSign; decide +kernel
theorem okNum (fl i : Nat) (hfl : fl < 65536) : ∀ c ∈ (tx (numL (flagAt fl i))).cps.toList, okSign c := by
  intro c hc; exact numL_ok _ c hc
theorem lenRow : ∀ i, i < 16 → (tx (86 :: onesL 65 (sevenAt i))).length ≤ 1000 := by
  decide +kernel
theorem lenNum (fl i : Nat) (hfl : fl < 65536) : (tx (numL (flagAt fl i))).length ≤ 1000 := by
  rw [tx_length]; exact Nat.le_trans (numL_len _ (Nat.lt_of_le_of_lt (Nat.div_le_self _ _) hfl)) (by decide)
def headObj (w : World) (t : Tok) (R0 : Addr) : Obj := dictOf [⟨PyData.keyHash w.params (Str.ofString "_headers"), Value.str (Str.ofString "_headers") t, Value.ref R0⟩] 1
def IsHeaders (w : World) (v : Value) (own : List (Addr × Obj)) (R0 : Addr) : Prop := ∃ (x d : Addr) (t : Tok), v = .ref x ∧ own = [(x, instObj 221 d), (d, headObj w t R0)]
theorem make_c (w : World) (loose : List Str) (mean : ExcName → Option Value) (mg mb : Str → Option Value) (fl : Nat) (hfl : fl < 65536) (R0 : Addr) (ys : List Value) (ep : Nat) :
  ConH w loose mean mg mb 221 20 [.ref R0] (fun news => (R0, ({ cls := .type "list", data := .seq ys.toArray ep } : Obj)) ∈ news ∧ RowsAre fl 16 ys news) (fun v own => IsHeaders w v own R0) := by
  unfold ConH
  k_fill
  intro dp un gd cn cs a ccd cl outer A₀ base h₀ L m news s Q E BE FE XE NE TE hkE hpE hd1 hd2 hret
  obtain ⟨hR0, hRows⟩ := hpE
  (k_dflt (refine' call_cls ?k1 ?k2 ?k3 ?k4 ?k5 ?k6 ?_; (case k1 => k_asm); (case k2 => k_asm); (case k3 => k_asm); (case k4 => k_is); (case k5 => k_is); (case k6 => k_is); k_whole; intro x' d' h' F' N' l1 l2))
  k_dflt (refine' code_def ?k1 ?k2 ?k3 ?k4 ?k5 ?kA ?kF ?kK ?k6 ?k7 ?k8 ?k9 ?kB ?_ ?c2 ?c3 ?c4 ?c5; (case kA => exact rfl); (case kF => exact rfl); (case kK => assumption); (case k1 => k_asm); (case k2 => k_asm); (case k3 => k_asm); (case k4 => k_asm); (case k5 => k_asm); (case k6 => k_is); (case k7 => k_is); (case k8 => (first | ktr_room | (simp only [depth_under_make]; omega))); (case k9 => exact binds_K (by k_in) rfl (by k_is) rfl rfl rfl); (case c5 => decide); (case kB => exact locs rfl); (case c2 => exact rfl); (case c3 => exact rfl); (case c4 => exact rfl); k_whole; intro g' L' h' FG' F' N' B' X' T'; (try dsimp only); (try k_lift B'); (try k_fold))
  replace F' : Fr g' L' h' (fun y => if y = Str.ofString "headers" then some (.ref R0) else if y = Str.ofString "self" then some (.ref x') else none) := by
    have e : (fun y => List.lookup y ([(Str.ofString "self", Value.ref x'), (Str.ofString "headers", Value.ref R0)].reverse)) = (fun y => if y = Str.ofString "headers" then some (.ref R0) else if y = Str.ofString "self" then some (.ref x') else none) := by
      funext y; simp only [List.reverse_cons, List.reverse_nil, List.nil_append, List.cons_append, lookup_if, List.lookup_nil]
    rw [← e]; exact F'
  have hneD : ∀ p ∈ news, p.1 ≠ d' := fun p hp e => Nat.lt_irrefl _ (e ▸ l1 p hp)
  have hneX : ∀ p ∈ news, p.1 ≠ x' := fun p hp e => Nat.lt_irrefl _ (Nat.lt_trans l2 (e ▸ l1 p hp))
  have hxd : x' ≠ d' := fun e => Nat.lt_irrefl _ (e ▸ l2)
  have hm := mem_of N' (List.Mem.tail _ (List.Mem.tail _ hR0))
  k_steps
  refine wpAny_For ?_
  k_steps
  refine Hold.of ?_
  rename_i hx tkx h0 F0 N0
  have hm0 := mem_of N0 (List.Mem.tail _ (List.Mem.tail _ hR0))
  have hlY : ys.length = 16 := hRows.length
  refine for_list rfl F0 N0 hm0 rfl rfl (fun I i s' v Q' E' hv hI hq => ?_)
    (J := fun i m' news' => news' = (x', instObj 221 d') :: (d', dictOf [⟨PyData.keyHash w.params (Str.ofString "_headers"), Value.str (Str.ofString "_headers") (tkx + 1), Value.ref R0⟩] 1) :: news ∧ ∃ o1 o2, m' = fun y => if y = Str.ofString "v" then o1 else if y = Str.ofString "k" then o2 else if y = Str.ofString "headers" then some (.ref R0) else if y = Str.ofString "self" then some (.ref x') else none)
    ?_ ?_ ?_ ?_ (Ret := fun _ _ => False) (fun _ _ e => e.elim)
  · obtain ⟨T, o, t1, t2, nn, rfl, _⟩ := hRows.at (by rw [List.getElem?_toArray] at hv; exact hv)
    exact wpAny_letOwnedTupleGo_listiter hI hq
  · rintro i m' news' ⟨rfl, _⟩; exact hm0
  · exact ⟨rfl, none, none, by
      funext y
      by_cases c0 : y = Str.ofString "headers"
      · subst c0; rfl
      by_cases c1 : y = Str.ofString "self"
      · subst c1; rfl
      by_cases c2 : y = Str.ofString "v"
      · subst c2; rfl
      by_cases c3 : y = Str.ofString "k"
      · subst c3; rfl
      simp only [if_neg c0, if_neg c1, if_neg c2, if_neg c3]⟩
  · rintro i v m' news' its h tk1 E' hi hv ⟨rfl, o1, o2, rfl⟩ F N offI hitF
    obtain ⟨T, o, t1, t2, nn, rfl, hTm, hTc, hTd⟩ := hRows.at (by rw [List.getElem?_toArray] at hv; exact hv)
    have hi16 : i < 16 := by rw [List.size_toArray, hlY] at hi; exact hi
    refine unpackN_ F N ⟨o, (N (T, o) (List.mem_append_left _ (.tail _ (.tail _ hTm)))).1, hTc, _, hTd⟩ rfl (by rfl) (by rfl) fun h1 F1 N1 => ?_
    simp only [List.cons_append] at N1
    refine assignInOrder_cons (wpAny_assign_Name (storeX_L F1 N1 fun h2 F2 N2 => ?_))
    refine assignInOrder_cons (wpAny_assign_Name (storeX_L F2 N2 fun h3 F3 N3 => ?_))
    refine assignInOrder_nil ?_
    clear N F N1 F1 F2 N2
    k_steps
    refine' ConK.use (convert_c _ _ _ _ _ x' _ _ true (okRow i hi16) ?hz) ?k1 ?k2 ?k3 ?k4 ?k5 ?kK ?kp ?kd ?ku ?_; (case hz => exact lenRow i hi16); (case k1 => k_asm); (case k2 => k_asm); (case k3 => k_asm); (case k4 => k_asm); (case k5 => k_asm); (case kK => exact rfl); (case kp => trivial); (case kd => ktr_room); (case ku => ((try simp only [units_in1, units_deeper, Around.mark_units, units_caller, units_under_make]); (try dsimp only [ktrTop]); have hcL9 := cLine_is; omega))
    intro t4 h4 tk4 F4 N4
    k_steps
    refine' ConK.use (convert_c _ _ _ _ _ x' _ _ false (okNum fl i hfl) ?hz) ?k1 ?k2 ?k3 ?k4 ?k5 ?kK ?kp ?kd ?ku ?_; (case hz => exact lenNum fl i hfl); (case k1 => k_asm); (case k2 => k_asm); (case k3 => k_asm); (case k4 => k_asm); (case k5 => k_asm); (case kK => exact rfl); (case kp => trivial); (case kd => ktr_room); (case ku => ((try simp only [units_in1, units_deeper, Around.mark_units, units_caller, units_under_make]); (try dsimp only [ktrTop]); have hcL9 := cLine_is; omega))
    intro t5 h5 tk5 F5 N5
    k_steps
    refine FEnd.next F5 N5 ?_ ⟨rfl, some (Value.str (tx (numL (flagAt fl i))) t2), some (Value.str (tx (86 :: onesL 65 (sevenAt i))) t1), ?_⟩
    · exact offI
    · funext y
      by_cases c1 : y = Str.ofString "v"
      · simp only [if_pos c1]
      · by_cases c2 : y = Str.ofString "k"
        · simp only [if_neg c1, if_pos c2]
        · simp only [if_neg c1, if_neg c2]
  · rintro h tk2 m' news' ⟨rfl, o1, o2, rfl⟩ F N
    k_steps
    rename_i kF kN _ _
    refine hret _ [(_, _), (_, _)] _ _ ?_ kF kN
    exact ⟨x', d', _, rfl, rfl⟩
end Mine
end
section
theorem Mine.reset_V5 : True := by
  w_top off
  trivial
open PySem PySem.W PyProof.Rows PySem.Calls PyProof.Rows.LCg
namespace Mine
local macro_rules | `(tactic| walk_at "eval ListComp") => `(tactic| refine Hold.mk ?_)
local macro_rules | `(tactic| walk_at "pyIter ref") => `(tactic| refine Hold.mk ?_)
local macro_rules | `(tactic| walk_at "call type:enumerate") => `(tactic| refine Hold.mk ?_)
local macro_rules | `(tactic| walk_at "call builtin:str.join") => `(tactic| refine Hold.mk ?_)
local macro_rules | `(tactic| walk_at "binaryOp Add str str") => `(tactic| refine Hold.mk ?_)
local macro_rules | `(tactic| walk_at "call type:str") => `(tactic| refine Hold.mk ?_)
local macro_rules | `(tactic| k_all) => `(tactic| assumption)
local macro_rules | `(tactic| k_ne) => `(tactic| assumption)
def IsTable (w : World) (fl : Nat) (v : Value) (own : List (Addr × Obj)) : Prop := ∃ (x d : Addr) (t : Tok) (R0 : Addr) (ys : List Value) (ep : Nat) (rest : List (Addr × Obj)), v = .ref x ∧ own = (x, instObj 221 d) :: (d, headObj w t R0) :: (R0, ({ cls := .type "list", data := .seq ys.toArray ep } : Obj)) :: rest ∧ RowsAre fl 16 ys rest
theorem ConH.use {w : World} {loose : List Str} {mean : ExcName → Option Value} {mg mb : Str → Option Value} {f : Addr} {k : Nat} {vs : List Value} {Pre : List (Addr × Obj) → Prop} {Res : Value → List (Addr × Obj) → Prop} (C : ConH w loose mean mg mb f k vs Pre Res)
    {dp un : Nat} {gd : Option (List Code)} {cn : Str} {cs : Scope} {a : Addr} {ccd : Value} {cl : List (Str × Addr)} {outer : List Env} {A₀ : Around} {base h₀ : Heap} {L : Addr} {m : Str → Option Value} {news : List (Addr × Obj)} {s : Shared} {Q E : Value → Shared → Prop}
    (B : Below A₀ base outer h₀) (F : Fr h₀ L s.heap m) (X : (hd.heap_39 w.params).In h₀) (N : News h₀ L s.heap news) (T : Top topProg loose mean mg mb h₀) (hk : cs.kind = .function) (hp : Pre news) (hd : dp + k < recursionLimit) (hu : un + 16 * k < cLine)
    (ret : ∀ (v : Value) (own : List (Addr × Obj)) (h' : Heap) (tk' : Nat), Res v own → Fr h₀ L h' m → News h₀ L h' (own ++ news) → Q v { s with heap := h', toks := tk' }) :
    wpAny (model PySem.Challenge.rw_to0078_01.row.toRowW.prog w) (ktrTop dp un gd cn cs L a ccd cl outer) (call (.ref f) vs) Q E s := C _ _ _ _ _ _ _ _ _ _ _ _ _ _ _ _ _ _ B F X N T hk hp hd hu ret
theorem lt_of_all {d : Addr} : ∀ {l : List (Addr × Obj)}, AllLt d l → ∀ p ∈ l, p.1 < d
  | [], _, _, hp => nomatch hp
  | _ :: _, h, p, hp => by
    rcases List.mem_cons.mp hp with rfl | hp
    · exact h.1
    · exact lt_of_all h.2 p hp
theorem lenO (kk : Nat) : (List.map (fun j => 65 + j) (List.filter (fun j => bit kk j == 1) (List.range 7))).length ≤ 7 := by
  rw [List.length_map]; exact List.length_filter_le _ _
theorem lenF (kk : Nat) : ((List.filter (fun j => bit kk j == 1) (List.range 7)).map ((fun l => l.length) ∘ fun j => [65 + j])).sum + (List.filter (fun j => bit kk j == 1) (List.range 7)).length ≤ 14 := by
  have h := List.length_filter_le (fun j => bit kk j == 1) (List.range 7)
  have : ∀ l : List Nat, (l.map ((fun l => l.length) ∘ fun j => [65 + j])).sum = l.length := by
    intro l; induction l with
    | nil => rfl
    | cons a r ih => rw [List.map_cons, List.sum_cons, ih, List.length_cons]; simp; omega
  rw [this]; rw [List.length_range] at h; omega
theorem table_c (w : World) (loose : List Str) (mean : ExcName → Option Value) (mg mb : Str → Option Value) (fl : Nat) (hfl : fl < 65536) (l : Addr) (tf : Tok) (items : List Value) (ep : Nat) (hit : IntsAre items sevL) :
  ConH w loose mean mg mb 240 30 [.ref l, .int fl tf] (fun news => (l, ({ cls := .type "list", data := .seq items.toArray ep } : Obj)) ∈ news) (fun v own => IsTable w fl v own) := by
  unfold ConH
  k_fill
  intro dp un gd cn cs a ccd cl outer A₀ base h₀ L m news s Q E BE FE XE NE TE hkE hpE hd1 hd2 hret
  refine wpAny_call ?_
  (k_dflt (refine' code_defC ?k1 ?k2 ?k3 ?k4 ?k5 ?kA ?kF ?kK ?k6 ?k7 ?k8 ?k9 ?kB ?kD ?_ ?c2 ?c3 ?c4; (case kA => exact rfl); (case kF => exact rfl); (case kK => assumption); (case k1 => k_asm); (case k2 => k_asm); (case k3 => k_asm); (case k4 => k_asm); (case k5 => k_asm); (case k6 => k_is); (case k7 => k_is); (case k8 => ktr_room); (case k9 => exact BindsTo.of_eq rfl); (case kB => exact rfl); (case kD => decide +kernel); (case c2 => exact rfl); (case c3 => exact rfl); (case c4 => exact rfl); k_whole; intro g' L' h' tk' cells' FG' F' N' Y' B' X' T' l1; k_cells Y'; (try simp only [List.cons_append, List.nil_append] at N'); (try dsimp only); (try k_lift B'); (try (show wpAny _ _ _ _ _ _; k_fold))))
  replace F' : Fr g' L' h' (fun x => if x = "flags" then some (.int fl tf) else if x = "sevens" then some (.ref l) else none) := F'
  rename_i oR dR
  replace dR : oR.data = .cell none := dR
  k_steps
  refine wpAny_For ?_
  k_steps
  refine Hold.of ?_
  rename_i R0 _ l10 h0 F0 N0
  have N0' : News g' L' h0 ((L' + 1, oR) :: (R0, listOf #[] 0) :: news) := fun p hp => N0 p (by simp only [List.mem_cons] at hp ⊢; rcases hp with h | h | h <;> simp [h])
  have hR0n : ∀ p ∈ news, p.1 ≠ R0 := fun p hp e => Nat.lt_irrefl _ (e ▸ lt_of_all l10.2 p hp)
  refine for_enum_list rfl F0 N0' (.tail _ (.tail _ hpE)) rfl rfl
    (J := fun i m' news' => ∃ ys ep' oC rest o1 o2, news' = (L' + 1, oC) :: (R0, ({ cls := .type "list", data := .seq ys.toArray ep' } : Obj)) :: rest ∧ RowsAre fl i ys rest ∧ (∀ p ∈ news, p ∈ rest) ∧ (∀ p ∈ rest, p.1 ≠ L' + 1) ∧ (∀ p ∈ rest, p.1 ≠ R0) ∧ (∃ v, oC.data = .cell v) ∧
      m' = fun x => if x = Str.ofString "ones" then o1 else if x = Str.ofString "k" then o2 else if x = Str.ofString "rows" then some (Value.ref R0) else if x = Str.ofString "flags" then some (.int fl tf) else if x = Str.ofString "sevens" then some (.ref l) else none)
    ?_ ?_ (by rfl) (by rfl) ?_ ?_ (Ret := fun _ _ => False) (fun _ _ e => e.elim)
  · rintro i m' news' ⟨ys, ep', oC, rest, o1, o2, rfl, _, hn, _⟩
    exact .tail _ (.tail _ (hn _ hpE))
  · refine ⟨[], 0, oR, news, none, none, rfl, .nil _, fun p hp => hp, ?_, ?_, ⟨_, dR⟩, ?_⟩
    · exact fun p hp e => Nat.lt_irrefl _ (Nat.lt_trans (Nat.lt_succ_self _) (e ▸ l1 p hp))
    · exact fun p hp => (ne_data N0' (.head _) (.tail _ (.head _)) (by rw [dR]; exact fun h => by cases h)) |> fun _ => fun e => hR0n p hp e
    · funext y
      by_cases c0 : y = Str.ofString "rows"
      · subst c0; rfl
      by_cases c1 : y = Str.ofString "flags"
      · subst c1; rfl
      by_cases c2 : y = Str.ofString "sevens"
      · subst c2; rfl
      by_cases c3 : y = Str.ofString "ones"
      · subst c3; rfl
      by_cases c4 : y = Str.ofString "k"
      · subst c4; rfl
      simp only [if_neg c0, if_neg c1, if_neg c2, if_neg c3, if_neg c4]
  · rintro i t v m' news' its h tk1 E' hi hv ⟨ys, ep', oC, rest, o1, o2, rfl, hys, hn, hne, hnR, ⟨vC, dC⟩, rfl⟩ F N offI hitF
    obtain ⟨kk, tv, hks, rfl⟩ := ints_arr (ns := sevs) hit hv
    have hi16 : i < 16 := by rw [List.size_toArray, hit.length] at hi; exact hi
    have hDR : R0 ≠ L' + 1 := ne_data N (.tail _ (.head _)) (.head _) (by rw [dC]; exact fun h => by cases h)
    have hneA : ∀ p ∈ rest ++ its, p.1 ≠ L' + 1 := fun p hp => (List.mem_append.mp hp).elim (hne p) (offI (L' + 1, oC) (.head _) p)
    have hnRA : ∀ p ∈ rest ++ its, p.1 ≠ R0 := fun p hp => (List.mem_append.mp hp).elim (hnR p) (offI (R0, _) (.tail _ (.head _)) p)
    have hlT : (l, ({ cls := .type "list", data := .seq items.toArray ep } : Obj)) ∈ rest ++ its := List.mem_append_left _ (hn _ hpE)
    simp only [List.cons_append] at N
    refine assignInOrder_cons (wpAny_assign_Name (storeX_L F N fun h1 F1 N1 => ?_))
    refine assignInOrder_cons (wpAny_assign_Name (storeX_C F1 N1 (by rfl) (UpdF.head fun p hp => ?_) dC fun h2 oC2 F2 N2 d2 => ?_))
    · rcases List.mem_cons.mp hp with rfl | hp
      · exact hDR
      · exact hneA p hp
    refine assignInOrder_nil ?_
    clear N F N1 F1
    k_steps
    refine Hold.of ?_
    refine ListComp_M (F₀ := by k_asm) (by with_unfolding_all rfl) (by decide) (by rfl) (by decide) ?_
    k_steps
    refine Hold.of ?_
    refine enum_str_M (by decide +kernel) rfl F2 N2 (by rfl) (by rfl) (by rfl) (by decide) (by decide) (Rel := fun j ys => StrsAre ys ((((List.range j).filter fun j => bit kk j == 1).map fun j => [65 + j]).map tx)) .nil ?_ ?_
    · intro j C oC₃ m₂ ys₃ led h₃ g₃ tk₃ E₃ hj hB hC hR F3 N3 hCm hsub
      obtain ⟨a₃, b₃, ⟨t₃, c, u, rfl, hc, rfl⟩, hk, hs⟩ := hB
      rw [show (Str.ofString "ABCDEFG").cps.size = 7 by decide +kernel] at hj
      rw [show (Str.ofString "ABCDEFG").cps[j]? = some (65 + j) from caps_get j hj] at hc
      cases hc
      have hm1 : (L' + 1, oC2) ∈ led := hsub _ (List.Mem.head _)
      refine wpAny_tests_one ?_
      k_steps
      · rename_i hb
        refine MEnd.mk F3 N3 ?_
        have hb' := bit_of_ne (n := kk) (k := j) hb
        dsimp only
        rw [List.range_succ, List.filter_append, List.map_append, List.map_append, List.filter_cons, if_pos (by rw [hb']; rfl)]
        exact strs_snoc hR
      · rename_i hb
        refine MEnd.mk F3 N3 ?_
        have hb' := bit_of_eq (n := kk) (k := j) hb
        dsimp only
        rw [List.range_succ, List.filter_append, List.map_append, List.map_append, List.filter_cons, if_neg (by rw [hb']; decide)]
        simpa using hR
    · intro hx3 D3 h3 tk3 zs hR3 F3 N3 off3 hD3 hDL3 F4 N4
      rw [show (Str.ofString "ABCDEFG").cps.size = 7 by decide +kernel] at hR3
      k_steps
      refine Hold.of ?_
      refine join_M (isList_of N4 (List.Mem.head _)) hR3 ?_ fun t' k => ?_
      · rw [List.map_map, List.length_map]
        exact Nat.le_trans (lenF kk) (by decide)
      rw [flatten_ones]
      have hlF := lenO kk
      k_steps
      refine Hold.of ?_
      have hV : Str.ofString "V" = tx [86] := by decide
      rw [hV]
      refine add_str (fun t5 k5 => ?_) (by rw [tx_length, tx_length]; simp only [List.length_append, List.length_singleton, List.length_cons, List.length_nil, List.length_map] at *; have := PySem.sizeLine_eq; omega)
      rw [tx_append]
      k_steps
      refine Hold.of ?_
      rw [show ((fl : Int).fdiv (2 ^ ((i : Int)).toNat)) = ((fl / 2 ^ i : Nat) : Int) from fdiv_pow fl i, fdiv10]
      have hq10 : (fl / 2 ^ i) / 10 < 10 ^ 5 := by have := Nat.div_le_self fl (2 ^ i); omega
      have hdg1 := dg_len (k := 5) (by decide) hq10
      refine str_of_int_fit (N := 100000) (by rw [if_neg (Int.not_lt.mpr (Int.natCast_nonneg _))]; exact Int.ofNat_lt.mpr (Nat.lt_of_lt_of_le hq10 (by decide))) (by decide) fun _ => ?_
      rw [dg_tx]
      k_steps
      refine Hold.of ?_
      have hU : Str.ofString "_" = tx [95] := by decide
      rw [hU]
      refine add_str (fun t6 k6 => ?_) (by rw [tx_length, tx_length]; simp only [List.length_append, List.length_singleton, List.length_cons, List.length_nil, List.length_map] at *; have := PySem.sizeLine_eq; omega)
      rw [tx_append]
      k_steps
      refine Hold.of ?_
      rw [show ((fl : Int).fdiv (2 ^ ((i : Int)).toNat)) = ((fl / 2 ^ i : Nat) : Int) from fdiv_pow fl i, fmod10]
      have hr10 : (fl / 2 ^ i) % 10 < 10 ^ 5 := by omega
      have hdg2 := dg_len (k := 5) (by decide) hr10
      refine str_of_int_fit (N := 100000) (by rw [if_neg (Int.not_lt.mpr (Int.natCast_nonneg _))]; exact Int.ofNat_lt.mpr (Nat.lt_of_lt_of_le hr10 (by decide))) (by decide) fun _ => ?_
      rw [dg_tx]
      k_steps
      refine Hold.of ?_
      refine add_str (fun t7 k7 => ?_) (by rw [tx_length, tx_length]; simp only [List.length_append, List.length_singleton, List.length_cons, List.length_nil, List.length_map] at *; have := PySem.sizeLine_eq; omega)
      rw [tx_append]
      have hD3R : D3 ≠ R0 := (off3 (R0, _) (.tail _ (.head _))).symm
      have hD3C : D3 ≠ L' + 1 := (off3 (L' + 1, _) (.head _)).symm
      have hCR : L' + 1 ≠ R0 := hDR.symm
      have hlenY : ys.length ≤ 16 := by rw [hys.length]; exact Nat.le_of_lt_succ (Nat.lt_succ_of_lt hi16)
      k_steps
      rename_i T9 _ l19 h9 F9 N9
      have hsv : sevenAt i = kk := by unfold sevenAt; rw [List.getD_eq_getElem?_getD, hks]; rfl
      have eTup : (tx (86 :: onesL 65 (sevenAt i))) = tx ([86] ++ List.map (fun j => 65 + j) (List.filter (fun j => bit kk j == 1) (List.range 7))) := by rw [hsv]; rfl
      have N8 : News g' L' h9 (((L' + 1, oC2) :: (R0, ({ cls := .type "list", data := .seq (ys ++ [Value.ref T9]).toArray (ep' + 1) } : Obj)) :: (T9, _) :: rest) ++ its) := fun p hp => N9 p (by
        simp only [List.cons_append, List.mem_cons] at hp ⊢
        rcases hp with h | h | h | h
        · exact .inr (.inr (.inl h))
        · refine .inr (.inr (.inr (.inl ?_))); rw [h]; simp [W.listOf]
        · exact .inl h
        · exact .inr (.inr (.inr (.inr h))))
      have hTC : T9 ≠ L' + 1 := ne_data N8 (.tail _ (.tail _ (.head _))) (.head _) (by rw [d2]; exact fun h => by cases h)
      have hTR : T9 ≠ R0 := fun e => by
        have := l19.2.2.1
        rw [e] at this; exact Nat.lt_irrefl _ this
      refine FEnd.next F9 N8 ?_ ⟨ys ++ [.ref T9], ep' + 1, oC2, _ :: rest, some (Value.str (tx (List.map (fun j => 65 + j) (List.filter (fun j => bit kk j == 1) (List.range 7)))) t'), some (.int i t), rfl, .snoc (hys.mono fun p hp => .tail _ hp) (.head _) rfl t5 t7 (by rw [eTup]; rfl), fun p hp => .tail _ (hn p hp), ?_, ?_, ⟨_, d2⟩, ?_⟩
      · intro p hp q hq
        rcases List.mem_cons.mp hp with rfl | hp
        · exact offI (L' + 1, oC) (.head _) q hq
        · rcases List.mem_cons.mp hp with rfl | hp
          · exact offI (R0, _) (.tail _ (.head _)) q hq
          · rcases List.mem_cons.mp hp with rfl | hp
            · obtain ⟨fs, hfs⟩ := hitF q hq
              exact ne_data N8 (List.mem_append_right _ hq) (.tail _ (.tail _ (.head _))) (by rw [hfs]; exact fun h => by cases h)
            · exact offI p (.tail _ (.tail _ hp)) q hq
      · intro p hp
        rcases List.mem_cons.mp hp with rfl | hp
        · exact hTC
        · exact hne p hp
      · intro p hp
        rcases List.mem_cons.mp hp with rfl | hp
        · exact hTR
        · exact hnR p hp
      · funext y
        by_cases c0 : y = Str.ofString "ones"
        · subst c0; rfl
        by_cases c1 : y = Str.ofString "k"
        · subst c1; rfl
        simp only [if_neg c0, if_neg c1]
  · rintro h tk2 m' news' ⟨ys, ep', oC, rest, o1, o2, rfl, hys, hn, hne, hnR, ⟨vC, dC⟩, rfl⟩ F N
    rw [List.size_toArray, hit.length] at hys
    k_steps
    refine' ConH.use (make_c w loose mean mg mb fl hfl R0 ys ep') ?k1 ?k2 ?k3 ?k4 ?k5 ?kK ?kp ?kd ?ku ?_; (case k1 => k_asm); (case k2 => k_asm); (case k3 => k_asm); (case k4 => k_asm); (case k5 => k_asm); (case kK => exact rfl); (case kp => exact ⟨.tail _ (.head _), hys.mono fun p hp => .tail _ (.tail _ hp)⟩); (case kd => ktr_room); (case ku => ktr_units)
    rintro v own h3 tk3 ⟨x, d, t, rfl, rfl⟩ F3 N3
    k_steps
    rename_i kF kN _ _
    refine hret _ ((x, _) :: (d, headObj w t R0) :: (R0, _) :: rest) _ _ ⟨x, d, t, R0, ys, ep', rest, rfl, rfl, hys⟩ kF (fun p hp => kN p ?_)
    simp only [List.cons_append, List.nil_append, List.mem_cons, List.mem_append] at hp ⊢
    rcases hp with h | h | h | h | h
    · exact .inl h
    · exact .inr (.inl h)
    · exact .inr (.inr (.inr (.inl h)))
    · exact .inr (.inr (.inr (.inr h)))
    · exact .inr (.inr (.inr (.inr (hn _ h))))
end Mine
end
section
theorem Mine.reset_V6 : True := by
  w_top off
  trivial
open PySem PySem.W PyProof.Rows PySem.Calls PyProof.Rows.LCg
namespace Mine
local macro_rules | `(tactic| walk_at "pyIter ref") => `(tactic| refine Hold.mk ?_)
local macro_rules | `(tactic| walk_at "call ref") => `(tactic| refine Hold.mk ?_)
def IsTab (w : World) (fl : Nat) (x : Addr) (news : List (Addr × Obj)) : Prop := ∃ (d : Addr) (t : Tok) (R0 : Addr) (ys : List Value) (ep : Nat), (x, instObj 221 d) ∈ news ∧ (d, headObj w t R0) ∈ news ∧ (R0, ({ cls := .type "list", data := .seq ys.toArray ep } : Obj)) ∈ news ∧ RowsAre fl 16 ys news
def nameL (k : Nat) : List Nat := 118 :: onesL 97 (sevenAt k)
theorem lowName : ∀ k, k < 16 → Txt.lower (tx (nameL k)) = tx (nameL k) := by decide +kernel
theorem lowEq : ∀ i, i < 16 → ∀ k, k < 16 → (Txt.lower (tx (86 :: onesL 65 (sevenAt i))) == tx (nameL k)) = decide (i = k) := by decide +kernel
theorem okName : ∀ i, i < 16 → ∀ c ∈ (tx (nameL i)).cps.toList, okSign c := by
  unfold okSign; decide +kernel
theorem lenName : ∀ i, i < 16 → (tx (nameL i)).length ≤ 1000 := by decide +kernel
theorem get_c (w : World) (loose : List Str) (mean : ExcName → Option Value) (mg mb : Str → Option Value) (fl k0 : Nat) (hk0 : k0 < 16) (x : Addr) (tn : Tok) :
  Con w loose mean mg mb 168 20 [.ref x, .str (tx (nameL k0)) tn] (fun news => IsTab w fl x news) (fun t => .str (tx (numL (flagAt fl k0))) t) := by
  unfold Con
  k_fill
  intro dp un gd cn cs a ccd cl outer A₀ base h₀ L m news s Q E BE FE XE NE TE hkE hpE hd1 hd2 hret
  obtain ⟨d, t0, R0, ys, ep, hx, hd0, hR0, hRows⟩ := hpE
  refine wpAny_call ?_
  k_dflt (refine' code_def ?k1 ?k2 ?k3 ?k4 ?k5 ?kA ?kF ?kK ?k6 ?k7 ?k8 ?k9 ?kB ?_ ?c2 ?c3 ?c4 ?c5; (case kA => exact rfl); (case kF => exact rfl); (case kK => assumption); (case k1 => k_asm); (case k2 => k_asm); (case k3 => k_asm); (case k4 => k_asm); (case k5 => k_asm); (case k6 => k_is); (case k7 => k_is); (case k8 => ktr_room); (case k9 => exact binds_K (by k_in) rfl (by k_is) rfl rfl rfl); (case c5 => decide); (case kB => exact locs rfl); (case c2 => exact rfl); (case c3 => exact rfl); (case c4 => exact rfl); k_whole; intro g' L' h' FG' F' N' B' X' T'; (try dsimp only); (try k_lift B'); (try k_fold))
  replace F' : Fr g' L' h' (fun y => if y = Str.ofString "default" then some .none else if y = Str.ofString "name" then some (.str (tx (nameL k0)) tn) else if y = Str.ofString "self" then some (.ref x) else none) := by
    have e : (fun y => List.lookup y ([(Str.ofString "self", Value.ref x), (Str.ofString "name", Value.str (tx (nameL k0)) tn), (Str.ofString "default", Value.none)].reverse)) = (fun y => if y = Str.ofString "default" then some .none else if y = Str.ofString "name" then some (.str (tx (nameL k0)) tn) else if y = Str.ofString "self" then some (.ref x) else none) := by
      funext y; simp only [List.reverse_cons, List.reverse_nil, List.nil_append, List.cons_append, lookup_if, List.lookup_nil]
    rw [← e]; exact F'
  have hln : (tx (nameL k0)).length ≤ 1000 := lenName k0 hk0
  k_steps
  refine Hold.of ?_
  rw [lowName k0 hk0]
  refine' ConK.use (convert_c _ _ _ _ _ x _ _ true (okName k0 hk0) ?hz) ?k1 ?k2 ?k3 ?k4 ?k5 ?kK ?kp ?kd ?ku ?_; (case hz => exact lenName k0 hk0); (case k1 => k_asm); (case k2 => k_asm); (case k3 => k_asm); (case k4 => k_asm); (case k5 => k_asm); (case kK => exact rfl); (case kp => trivial); (case kd => ktr_room); (case ku => ktr_units)
  intro t4 h4 tk4 F4 N4
  k_steps
  refine wpAny_For ?_
  k_steps
  refine Hold.of ?_
  rename_i h0 F0 N0
  have hlY : ys.length = 16 := hRows.length
  refine for_list rfl F0 N0 hR0 rfl rfl (fun I i s' v Q' E' hv hI hq => ?_)
    (J := fun i m' news' => news' = news ∧ i ≤ k0 ∧ ∃ o1 o2, m' = fun y => if y = Str.ofString "v" then o1 else if y = Str.ofString "k" then o2 else if y = Str.ofString "name" then some (.str (tx (nameL k0)) t4) else if y = Str.ofString "default" then some .none else if y = Str.ofString "self" then some (.ref x) else none)
    ?_ ?_ ?_ ?_ (Ret := fun v s' => ∃ h' tk' m' t', s' = ⟨h', s.gens, s.drawn, tk', s.os⟩ ∧ Fr g' L' h' m' ∧ News g' L' h' news ∧ v = .str (tx (numL (flagAt fl k0))) t') (fun v s' hr => ?_)
  · obtain ⟨T, o, t1, t2, nn, rfl, _⟩ := hRows.at (by rw [List.getElem?_toArray] at hv; exact hv)
    exact wpAny_letOwnedTupleGo_listiter hI hq
  · rintro i m' news' ⟨rfl, _⟩; exact hR0
  · exact ⟨rfl, Nat.zero_le _, none, none, by
      funext y
      by_cases c0 : y = Str.ofString "name"
      · subst c0; rfl
      by_cases c1 : y = Str.ofString "default"
      · subst c1; rfl
      by_cases c2 : y = Str.ofString "self"
      · subst c2; rfl
      by_cases c3 : y = Str.ofString "v"
      · subst c3; rfl
      by_cases c4 : y = Str.ofString "k"
      · subst c4; rfl
      simp only [if_neg c0, if_neg c1, if_neg c2, if_neg c3, if_neg c4]⟩
  · rintro i v m' news' its h tk1 E' hi hv ⟨rfl, hik, o1, o2, rfl⟩ F N offI hitF
    obtain ⟨T, o, t1, t2, nn, rfl, hTm, hTc, hTd⟩ := hRows.at (by rw [List.getElem?_toArray] at hv; exact hv)
    have hi16 : i < 16 := by rw [List.size_toArray, hlY] at hi; exact hi
    refine unpackN_ F N ⟨o, (N (T, o) (List.mem_append_left _ hTm)).1, hTc, _, hTd⟩ rfl (by rfl) (by rfl) fun h1 F1 N1 => ?_
    refine assignInOrder_cons (wpAny_assign_Name (storeX_L F1 N1 fun h2 F2 N2 => ?_))
    refine assignInOrder_cons (wpAny_assign_Name (storeX_L F2 N2 fun h3 F3 N3 => ?_))
    refine assignInOrder_nil ?_
    clear N F N1 F1 F2 N2
    have hlr : (tx (86 :: onesL 65 (sevenAt i))).length ≤ 1000 := lenRow i hi16
    have hle := lowEq i hi16 k0 hk0
    k_steps
    · rename_i hb
      rw [hle, decide_eq_true_eq] at hb
      refine ⟨_, _, _, t2, rfl, F3, fun p hp => N3 p (List.mem_append_left _ hp), by rw [hb]⟩
    · rename_i hb
      rw [hle, decide_eq_false_iff_not] at hb
      refine FEnd.next F3 N3 offI ⟨rfl, by omega, some (Value.str (tx (numL (flagAt fl i))) t2), some (Value.str (tx (86 :: onesL 65 (sevenAt i))) t1), ?_⟩
      funext y
      by_cases c0 : y = Str.ofString "v"
      · subst c0; rfl
      by_cases c1 : y = Str.ofString "k"
      · subst c1; rfl
      simp only [if_neg c0, if_neg c1]
  · rintro h tk2 m' news' ⟨rfl, hik, o1, o2, rfl⟩ F N
    rw [List.size_toArray, hlY] at hik
    omega
  · obtain ⟨h', tk', m', t', rfl, F, N, rfl⟩ := hr
    k_steps
    rename_i kF kN _ _
    exact hret _ _ _ kF kN
end Mine
end
section
open PySem PySem.W PyProof.Rows PySem.Calls PyProof.Rows.LCg
namespace Mine
section
variable {prog : Program} {w : World} {A : Around} {h₀ : Heap} {L : Addr}
/-- Where the ways of a statement meet again. -/
structure JEnd (h₀ : Heap) (L : Addr) (s : Shared) (J : (Str → Option Value) → List (Addr × Obj) → Prop) (f : Flow) (s' : Shared) : Prop where
  intro ::
  out : f = .next ∧ ∃ h' tk m' news', s' = { s with heap := h', toks := tk } ∧ Fr h₀ L h' m' ∧ News h₀ L h' news' ∧ J m' news'
theorem JEnd.mk {hp h' : Heap} {g : Array GenState} {d : Drawn} {t tk : Nat} {os : OsState} {J : (Str → Option Value) → List (Addr × Obj) → Prop} {m' : Str → Option Value} {news' : List (Addr × Obj)}
    (F : Fr h₀ L h' m') (N : News h₀ L h' news') (j : J m' news') : JEnd h₀ L ⟨hp, g, d, t, os⟩ J .next ⟨h', g, d, tk, os⟩ := ⟨rfl, h', tk, m', news', rfl, F, N, j⟩
theorem wpAny_join {t : Sem Flow} {s : Shared} {R : Flow → Shared → Prop} {E : Value → Shared → Prop} (J : (Str → Option Value) → List (Addr × Obj) → Prop)
    (h1 : wpAny (model prog w) A t (JEnd h₀ L s J) E s) (h2 : ∀ h' tk m' news', J m' news' → Fr h₀ L h' m' → News h₀ L h' news' → R .next ⟨h', s.gens, s.drawn, tk, s.os⟩) :
    wpAny (model prog w) A t R E s := by
  refine wpAny_mono h1 (fun f s' h => ?_) fun _ _ e => e
  obtain ⟨rfl, h', tk, m', news', rfl, F, N, j⟩ := h.out
  exact h2 h' tk m' news' j F N
end
theorem News.named {h₀ h : Heap} {L : Addr} {led : List (Addr × Obj)} (N : News h₀ L h led) : ∃ led', led' = led ∧ News h₀ L h led' := ⟨led, rfl, N⟩
theorem mem_hd {a : Addr × Obj} {l : List (Addr × Obj)} : a ∈ a :: l := .head _
theorem mem_tl {a b : Addr × Obj} {l : List (Addr × Obj)} (h : a ∈ l) : a ∈ b :: l := .tail _ h
theorem mem_sub {p : Addr × Obj} {l l' : List (Addr × Obj)} (hp : p ∈ l) (h : ∀ q ∈ l, q ∈ l') : p ∈ l' := h p hp
theorem sub_cons {a : Addr × Obj} {l l' : List (Addr × Obj)} (ha : a ∈ l') (h : ∀ q ∈ l, q ∈ l') : ∀ q ∈ a :: l, q ∈ l' := fun q hq => by
  rcases List.mem_cons.mp hq with rfl | hq
  · exact ha
  · exact h q hq
theorem sub_tail {a : Addr × Obj} {l l' : List (Addr × Obj)} (h : ∀ q ∈ l, q ∈ l') : ∀ q ∈ l, q ∈ a :: l' := fun q hq => .tail _ (h q hq)
theorem lad0 {f g : Str → Option Value} (h : ∀ y, True → f y = g y) : f = g := funext fun y => h y trivial
theorem lad_same {P : Str → Prop} {k : Str} {v : Option Value} {f g : Str → Option Value} (h : ∀ y, (P y ∧ y ≠ k) → f y = g y) : ∀ y, P y → (if y = k then v else f y) = (if y = k then v else g y) := fun y hp => by
  by_cases c : y = k
  · rw [if_pos c, if_pos c]
  · rw [if_neg c, if_neg c]; exact h y ⟨hp, c⟩
theorem lad_left {P : Str → Prop} {k : Str} {v : Option Value} {f g : Str → Option Value} (hk : ∀ y, P y → y ≠ k) (h : ∀ y, P y → f y = g y) : ∀ y, P y → (if y = k then v else f y) = g y := fun y hp => by
  rw [if_neg (hk y hp)]; exact h y hp
end Mine
end
section
theorem Mine.reset_W2 : True := by
  w_top off
  trivial
open PySem PySem.W PyProof.Rows PySem.Calls PyProof.Rows.LCg
namespace Mine
local macro_rules | `(tactic| walk_at "exec While") => `(tactic| refine Hold.mk ?_)
local macro_rules | `(tactic| walk_at "subscriptTail") => `(tactic| ((with_reducible show wpAny _ _ (subscriptTail _ (Expr.Slice none (some _) none _) (Value.str _ _) (Value.ref _)) _ _ _); (with_reducible rename Fr _ _ _ _ => F'); (with_reducible rename News _ _ _ _ => N'); (refine slice_strN_nn (hsz := ?hsz) (s := ⟨_, _, _, _, _⟩) F' N' ?_); (case hsz => (have hzz := PySem.sizeLine_eq; omega)); intro _ _ _ _ _; (try rw [slice_whole])))
local macro_rules | `(tactic| walk_at "setItem ref int") => `(tactic| refine Hold.mk ?_)
local macro_rules | `(tactic| walk_at "call ref") => `(tactic| refine Hold.mk ?_)
local macro_rules | `(tactic| walk_at "exec For") => `(tactic| refine Hold.mk ?_)
local macro_rules | `(tactic| walk_at "exec For Name Call cons nil") => `(tactic| refine Hold.mk ?_)
local macro_rules | `(tactic| walk_at "exec For Name Call") => `(tactic| refine Hold.mk ?_)
local macro_rules | `(tactic| walk_at "exec For Name") => `(tactic| refine Hold.mk ?_)
local macro_rules | `(tactic| walk_at "pyIter ref") => `(tactic| refine Hold.mk ?_)
local macro_rules | `(tactic| walk_at "exec Assign cons Subscript") => `(tactic| ((with_reducible rename Hold True => hMk); refine Hold.mk ?_))
local macro_rules | `(tactic| walk_at "exec If") => `(tactic| ((with_reducible rename Hold True => hMk); refine Hold.mk ?_))
theorem leven_c (w : World) (loose : List Str) (mean : ExcName → Option Value) (mg mb : Str → Option Value) (p q : List Nat) (x y : Nat) (ta tb tm : Tok) (hl : p.length + q.length = 14) (hxy : x ≠ y) (hsub : subC (tx [y]) (tx [x]) = 1) :
  Con w loose mean mg mb 88 3 [.str (tx (p ++ x :: q)) ta, .str (tx (p ++ y :: q)) tb, .int 1 tm] (fun news => True) (fun t => .int 1 t) := by
  unfold Con
  k_fill
  intro dp un gd cn cs a' ccd cl outer A₀ base h₀ L m news s Q E BE FE XE NE TE hkE hpE hd1 hd2 hret
  have h15 : (tx (p ++ x :: q)).length = 15 := by rw [tx_length, List.length_append, List.length_cons]; omega
  have h15b : (tx (p ++ y :: q)).length = 15 := by rw [tx_length, List.length_append, List.length_cons]; omega
  have hne : (tx (p ++ x :: q) == tx (p ++ y :: q)) = false := by
    rw [tx_beq, decide_eq_false_iff_not]
    intro h; exact hxy (List.cons.inj (List.append_cancel_left h)).1
  generalize hA : tx (p ++ x :: q) = A at *
  generalize hB : tx (p ++ y :: q) = B at *
  refine wpAny_call ?_
  k_dflt (refine' code_def ?k1 ?k2 ?k3 ?k4 ?k5 ?kA ?kF ?kK ?k6 ?k7 ?k8 ?k9 ?kB ?_ ?c2 ?c3 ?c4 ?c5; (case kA => exact rfl); (case kF => exact rfl); (case kK => assumption); (case k1 => k_asm); (case k2 => k_asm); (case k3 => k_asm); (case k4 => k_asm); (case k5 => k_asm); (case k6 => k_is); (case k7 => k_is); (case k8 => ktr_room); (case k9 => exact BindsTo.of_eq rfl); (case c5 => decide); (case kB => exact locs rfl); (case c2 => exact rfl); (case c3 => exact rfl); (case c4 => exact rfl); k_whole; intro g' L' h' FG' F' N' B' X' T'; (try dsimp only); (try k_lift B'); (try k_fold))
  replace F' : Fr g' L' h' (fun z => if z = Str.ofString "max_cost" then some (.int 1 tm) else if z = Str.ofString "b" then some (.str B tb) else if z = Str.ofString "a" then some (.str A ta) else none) := by
    have e : (fun z => List.lookup z ([(Str.ofString "a", Value.str A ta), (Str.ofString "b", Value.str B tb), (Str.ofString "max_cost", Value.int 1 tm)].reverse)) = (fun z => if z = Str.ofString "max_cost" then some (.int 1 tm) else if z = Str.ofString "b" then some (.str B tb) else if z = Str.ofString "a" then some (.str A ta) else none) := by
      funext z; simp only [List.reverse_cons, List.reverse_nil, List.nil_append, List.cons_append, lookup_if, List.lookup_nil]
    rw [← e]; exact F'
  k_steps
  refine Hold.of ?_
  rename_i h0 F0 N0
  have hAl : ∀ i : Nat, i ≤ p.length → Txt.item A ((i : Nat) : Int) = tx [(p ++ x :: q).getD i 0] := fun i hi => by rw [← hA]; exact tl_item (by rw [List.length_append, List.length_cons]; omega)
  have hBl : ∀ i : Nat, i ≤ p.length → Txt.item B ((i : Nat) : Int) = tx [(p ++ y :: q).getD i 0] := fun i hi => by rw [← hB]; exact tl_item (by rw [List.length_append, List.length_cons]; omega)
  refine while_Y (fun k m' led => led = news ∧ ∃ i t, k = p.length - i ∧ i ≤ p.length ∧ m' = fun z => if z = Str.ofString "pre" then some (.int ((i : Nat) : Int) t) else if z = Str.ofString "max_cost" then some (.int 1 tm) else if z = Str.ofString "b" then some (.str B tb) else if z = Str.ofString "a" then some (.str A ta) else none)
    (fun m' led => led = news ∧ ∃ t, m' = fun z => if z = Str.ofString "pre" then some (.int ((p.length : Nat) : Int) t) else if z = Str.ofString "max_cost" then some (.int 1 tm) else if z = Str.ofString "b" then some (.str B tb) else if z = Str.ofString "a" then some (.str A ta) else none) p.length F0 N0 ⟨rfl, 0, _, by simp, Nat.zero_le _, rfl⟩ ?_ ?_
  · rintro k m' led h1 tk1 gg dd oo E' ⟨rfl, i, t, rfl, hi, rfl⟩ F1 N1
    have hil : ((i : Nat) : Int) ≤ 14 := by omega
    have hi0 : (0 : Int) ≤ ((i : Nat) : Int) := by omega
    have hAi := hAl i hi
    have hBi := hBl i hi
    clear F0 N0
    generalize hI : ((i : Nat) : Int) = I at *
    k_steps
    · rename_i hEq _ F2 N2
      rw [hAi, hBi, tx_beq, decide_eq_true_eq] at hEq
      have hlt : i < p.length := by
        rcases Nat.lt_or_ge i p.length with h | h
        · exact h
        · have : i = p.length := by omega
          subst this
          rw [getD_mid, getD_mid] at hEq
          exact absurd (List.cons.inj hEq).1 hxy
      refine WEnd.next F2 N2 (show p.length - (i + 1) < p.length - i by omega) ⟨rfl, i + 1, tk + 1, rfl, hlt, ?_⟩
      rw [Int.natCast_add, hI]
      refine lad0 ?_
      repeat' (first | exact fun _ _ => rfl | refine lad_same ?_ | refine lad_left (by intro y h; repeat (first | exact h.2 | replace h := h.1)) ?_)
    · rename_i hEq
      rw [hAi, hBi, tx_beq, decide_eq_false_iff_not] at hEq
      have hip : i = p.length := by
        rcases Nat.lt_or_ge i p.length with h | h
        · rw [getD_front _ _ _ h, getD_front _ _ _ h] at hEq; exact absurd rfl hEq
        · omega
      refine XEnd.mk (by k_asm) (by k_asm) ⟨rfl, t, ?_⟩
      rw [← hip, hI]
    · exfalso; have hh := hfact.1 hi0 (by omega); omega
    · exfalso; have hh := hfact.1 hi0 (by omega); omega
  · rintro h tk m' led ⟨rfl, t, rfl⟩ F1 N1
    have hp14 : ((p.length : Nat) : Int) ≤ 14 := by omega
    k_steps
    refine Hold.of ?_
    rename_i tA _ _ _ _ tB kB _ _ h0 F0 N0
    have eA : Txt.slice A (some ((p.length : Nat) : Int)) none = tx (x :: q) := by rw [← hA, tl_from (by rw [List.length_append]; omega), List.drop_left']; rfl
    have eB : Txt.slice B (some ((p.length : Nat) : Int)) none = tx (y :: q) := by rw [← hB, tl_from (by rw [List.length_append]; omega), List.drop_left']; rfl
    rw [eA, eB] at F0
    have hA2l : (tx (x :: q)).length = q.length + 1 := by rw [tx_length]; rfl
    have hB2l : (tx (y :: q)).length = q.length + 1 := by rw [tx_length]; rfl
    have hAi2 : ∀ j : Nat, j ≤ q.length → Txt.item (tx (x :: q)) (-(j : Int) - 1) = tx [(x :: q).getD (q.length - j) 0] := fun j hj => by
      have := tl_item_neg (l := x :: q) (k := j + 1) (by omega) (by rw [List.length_cons]; omega)
      rw [show (-(j : Int) - 1) = -((j + 1 : Nat) : Int) by omega, this, show (x :: q).length - (j + 1) = q.length - j by rw [List.length_cons]; omega]
    have hBi2 : ∀ j : Nat, j ≤ q.length → Txt.item (tx (y :: q)) (-(j : Int) - 1) = tx [(y :: q).getD (q.length - j) 0] := fun j hj => by
      have := tl_item_neg (l := y :: q) (k := j + 1) (by omega) (by rw [List.length_cons]; omega)
      rw [show (-(j : Int) - 1) = -((j + 1 : Nat) : Int) by omega, this, show (y :: q).length - (j + 1) = q.length - j by rw [List.length_cons]; omega]
    have hSa : ∀ j : Nat, j ≤ q.length → j ≠ 0 → (Txt.slice (tx (x :: q)) none (some (-(j : Int)))).length = q.length + 1 - j := fun j hj h0 => by
      rw [tl_to_neg (by omega) (by rw [List.length_cons]; omega), tx_length, List.length_take, List.length_cons]; omega
    have hSb : ∀ j : Nat, j ≤ q.length → j ≠ 0 → (Txt.slice (tx (y :: q)) none (some (-(j : Int)))).length = q.length + 1 - j := fun j hj h0 => by
      rw [tl_to_neg (by omega) (by rw [List.length_cons]; omega), tx_length, List.length_take, List.length_cons]; omega
    have hNa : (Txt.slice (tx (x :: q)) none none).length = q.length + 1 := by rw [tl_all, tx_length]; rfl
    have hNb : (Txt.slice (tx (y :: q)) none none).length = q.length + 1 := by rw [tl_all, tx_length]; rfl
    generalize hA2 : tx (x :: q) = A2 at *
    generalize hB2 : tx (y :: q) = B2 at *
    refine while_Y (fun k m' led' => led' = led ∧ ∃ (j : Nat) (tj : Tok), k = q.length - j ∧ j ≤ q.length ∧ m' = fun z => if z = Str.ofString "post" then some (.int (-(j : Int)) tj) else if z = Str.ofString "b" then some (.str B2 tB) else if z = Str.ofString "a" then some (.str A2 tA) else if z = Str.ofString "pre" then some (.int ((p.length : Nat) : Int) t) else if z = Str.ofString "max_cost" then some (.int 1 tm) else none)
      (fun m' led' => led' = led ∧ ∃ tj : Tok, m' = fun z => if z = Str.ofString "post" then some (.int (-(q.length : Int)) tj) else if z = Str.ofString "b" then some (.str B2 tB) else if z = Str.ofString "a" then some (.str A2 tA) else if z = Str.ofString "pre" then some (.int ((p.length : Nat) : Int) t) else if z = Str.ofString "max_cost" then some (.int 1 tm) else none) q.length F0 N0 ⟨rfl, 0, kB + 1, by simp, Nat.zero_le _, ?_⟩ ?_ ?_
    · refine lad0 ?_
      repeat' (first | exact fun _ _ => rfl | refine lad_same ?_ | refine lad_left (by intro y h; repeat (first | exact h.2 | replace h := h.1)) ?_)
    · rintro k m' led1 h1 tk1 gg dd oo E' ⟨rfl, j, tj, rfl, hj, rfl⟩ F2 N2
      clear F0 N0
      rcases Nat.eq_zero_or_pos j with rfl | hjp
      · have hAj := hAi2 0 hj
        have hBj := hBi2 0 hj
        rw [show (-((0 : Nat) : Int)) = 0 from rfl] at *
        clear hAl hBl hA hB eA eB h15 h15b hne hSa hSb hAi2 hBi2
        k_steps
        · rename_i hEq _ F3 N3
          rw [hAj, hBj, tx_beq, decide_eq_true_eq] at hEq
          have hlt : 0 < q.length := by
            rcases Nat.eq_zero_or_pos q.length with h | h
            · rw [h] at hEq; exact absurd (List.cons.inj hEq).1 hxy
            · exact h
          refine WEnd.next F3 N3 (show q.length - (0 + 1) < q.length - 0 by omega) ⟨rfl, 0 + 1, tk + 1, rfl, hlt, ?_⟩
          refine lad0 ?_
          repeat' (first | exact fun _ _ => rfl | refine lad_same ?_ | refine lad_left (by intro y h; repeat (first | exact h.2 | replace h := h.1)) ?_)
        · rename_i hEq
          rw [hAj, hBj, tx_beq, decide_eq_false_iff_not] at hEq
          have hip : q.length = 0 := by
            rcases Nat.eq_zero_or_pos q.length with h | h
            · exact h
            · exfalso; apply hEq
              obtain ⟨n, hn⟩ : ∃ n, q.length = n + 1 := ⟨q.length - 1, by omega⟩
              rw [hn]; rfl
          refine XEnd.mk (by k_asm) (by k_asm) ⟨rfl, tj, ?_⟩
          rw [hip]; rfl
        · exfalso; omega
        · exfalso; omega
      · have hAj := hAi2 j hj
        have hBj := hBi2 j hj
        have hSaj := hSa j hj (by omega)
        have hSbj := hSb j hj (by omega)
        have hj0 : -(j : Int) < 0 := by omega
        have hj1 : -14 ≤ -(j : Int) := by omega
        clear hAl hBl hA hB eA eB h15 h15b hne hSa hSb hAi2 hBi2 hNa hNb
        generalize hI : -(j : Int) = I at *
        k_steps
        all_goals (try (exfalso; omega))
        · rename_i hEq _ F3 N3
          rw [hAj, hBj, tx_beq, decide_eq_true_eq] at hEq
          have hlt : j < q.length := by
            rcases Nat.lt_or_ge j q.length with h | h
            · exact h
            · rw [show q.length - j = 0 by omega] at hEq; exact absurd (List.cons.inj hEq).1 hxy
          refine WEnd.next F3 N3 (show q.length - (j + 1) < q.length - j by omega) ⟨rfl, j + 1, tk + 1, rfl, hlt, ?_⟩
          rw [show -(((j + 1 : Nat)) : Int) = I - 1 by omega]
          refine lad0 ?_
          repeat' (first | exact fun _ _ => rfl | refine lad_same ?_ | refine lad_left (by intro y h; repeat (first | exact h.2 | replace h := h.1)) ?_)
        · rename_i hEq
          rw [hAj, hBj, tx_beq, decide_eq_false_iff_not] at hEq
          have hip : q.length = j := by
            rcases Nat.lt_or_ge j q.length with h | h
            · exfalso; apply hEq
              obtain ⟨n, hn⟩ : ∃ n, q.length - j = n + 1 := ⟨q.length - j - 1, by omega⟩
              rw [hn]; rfl
            · omega
          refine XEnd.mk (by k_asm) (by k_asm) ⟨rfl, tj, ?_⟩
          rw [hip, hI]
    · rintro h1 tk1 m' led' ⟨rfl, tj, rfl⟩ F2 N2
      clear F0 N0
      have hMk : Hold True := trivial
      have eA2 : Txt.slice A2 none (some (-(q.length : Int))) = tx [x] ∨ q.length = 0 := by
        rcases Nat.eq_zero_or_pos q.length with h | h
        · exact Or.inr h
        · left; rw [← hA2, tl_to_neg h (by rw [List.length_cons]; omega), List.length_cons, show q.length + 1 - q.length = 1 by omega]; rfl
      have eB2 : Txt.slice B2 none (some (-(q.length : Int))) = tx [y] ∨ q.length = 0 := by
        rcases Nat.eq_zero_or_pos q.length with h | h
        · exact Or.inr h
        · left; rw [← hB2, tl_to_neg h (by rw [List.length_cons]; omega), List.length_cons, show q.length + 1 - q.length = 1 by omega]; rfl
      have hA2x : q.length = 0 → A2 = tx [x] := fun h => by rw [← hA2, List.eq_nil_of_length_eq_zero h]
      have hB2x : q.length = 0 → B2 = tx [y] := fun h => by rw [← hB2, List.eq_nil_of_length_eq_zero h]
      clear hAl hBl hA hB eA eB h15 h15b hne hSa hSb hAi2 hBi2 hNa hNb hA2 hB2
      k_steps
      refine Hold.of ?_
      rename Hold True => hMk2
      clear hMk2
      refine wpAny_join (h₀ := g') (L := L') (fun m' led2 => led2 = led' ∧ ∃ t3 : Tok, m' = fun z => if z = Str.ofString "a" then some (.str (tx [x]) t3) else if z = Str.ofString "post" then some (.int (-(q.length : Int)) tj) else if z = Str.ofString "b" then some (.str B2 tB) else if z = Str.ofString "pre" then some (.int ((p.length : Nat) : Int) t) else if z = Str.ofString "max_cost" then some (.int 1 tm) else none) ?_ ?_
      · rcases Nat.eq_zero_or_pos q.length with h | h
        · have hx := hA2x h
          have hz : -(q.length : Int) = 0 := by omega
          generalize -(q.length : Int) = I at *
          subst hz
          clear eA2 eB2
          k_steps
          all_goals (try (exfalso; omega))
          rename Fr _ _ _ _ => F8
          rename News _ _ _ _ => N8
          rw [hx] at F8
          refine' JEnd.mk F8 N8 ⟨rfl, _, _⟩
          rotate_left
          refine lad0 ?_
          repeat' (first | exact fun _ _ => rfl | refine lad_same ?_ | refine lad_left (by intro y h; repeat (first | exact h.2 | replace h := h.1)) ?_)
        · have e3 := eA2.resolve_right (by omega)
          have hj0 : -(q.length : Int) < 0 := by omega
          have hj1 : -14 ≤ -(q.length : Int) := by omega
          generalize hI : -(q.length : Int) = I at *
          clear eA2 eB2 hA2x hB2x
          k_steps
          all_goals (try (exfalso; omega))
          rename Fr _ _ _ _ => F8
          rename News _ _ _ _ => N8
          rw [e3] at F8
          refine' JEnd.mk F8 N8 ⟨rfl, _, _⟩
          rotate_left
          refine lad0 ?_
          repeat' (first | exact fun _ _ => rfl | refine lad_same ?_ | refine lad_left (by intro y h; repeat (first | exact h.2 | replace h := h.1)) ?_)
      · rintro h3 tk3 m3 led3 ⟨rfl, tX, rfl⟩ F3 N3
        clear F2 N2
        have hMk : Hold True := trivial
        k_steps
        refine Hold.of ?_
        rename Hold True => hMk2
        clear hMk2
        refine wpAny_join (h₀ := g') (L := L') (fun m' led2 => led2 = led3 ∧ ∃ t3 : Tok, m' = fun z => if z = Str.ofString "b" then some (.str (tx [y]) t3) else if z = Str.ofString "a" then some (.str (tx [x]) tX) else if z = Str.ofString "post" then some (.int (-(q.length : Int)) tj) else if z = Str.ofString "pre" then some (.int ((p.length : Nat) : Int) t) else if z = Str.ofString "max_cost" then some (.int 1 tm) else none) ?_ ?_
        · rcases Nat.eq_zero_or_pos q.length with h | h
          · have hx := hB2x h
            have hz : -(q.length : Int) = 0 := by omega
            generalize -(q.length : Int) = I at *
            subst hz
            clear eA2 eB2
            k_steps
            all_goals (try (exfalso; omega))
            rename Fr _ _ _ _ => F8
            rename News _ _ _ _ => N8
            rw [hx] at F8
            refine' JEnd.mk F8 N8 ⟨rfl, _, _⟩
            rotate_left
            refine lad0 ?_
            repeat' (first | exact fun _ _ => rfl | refine lad_same ?_ | refine lad_left (by intro y h; repeat (first | exact h.2 | replace h := h.1)) ?_)
          · have e3 := eB2.resolve_right (by omega)
            have hj0 : -(q.length : Int) < 0 := by omega
            have hj1 : -14 ≤ -(q.length : Int) := by omega
            generalize hI : -(q.length : Int) = I at *
            clear eA2 eB2 hA2x hB2x
            k_steps
            all_goals (try (exfalso; omega))
            rename Fr _ _ _ _ => F8
            rename News _ _ _ _ => N8
            rw [e3] at F8
            refine' JEnd.mk F8 N8 ⟨rfl, _, _⟩
            rotate_left
            refine lad0 ?_
            repeat' (first | exact fun _ _ => rfl | refine lad_same ?_ | refine lad_left (by intro y h; repeat (first | exact h.2 | replace h := h.1)) ?_)
        · rintro h5 tk5 m5 led5 ⟨rfl, tY, rfl⟩ F5 N5
          clear F3 N3 eA2 eB2 hA2x hB2x hA2l hB2l
          dsimp only
          have hXl : (tx [x]).length = 1 := rfl
          have hYl : (tx [y]).length = 1 := rfl
          have hXi : Txt.item (tx [x]) 0 = tx [x] := tl_item (l := [x]) (i := 0) Nat.one_pos
          have hYi : Txt.item (tx [y]) 0 = tx [y] := tl_item (l := [y]) (i := 0) Nat.one_pos
          generalize tx [x] = X at *
          generalize tx [y] = Y at *
          show wpAny _ _ _ _ _ ⟨_, s.gens, s.drawn, _, s.os⟩
          k_steps
          all_goals (try (exfalso; omega))
          rename IsRange _ _ _ _ _ _ _ _ => hR
          rename Fr _ _ _ _ => F4
          rename News _ _ _ _ => N4
          rw [hXl] at hR
          show wpAny _ _ _ _ _ ⟨_, s.gens, s.drawn, _, s.os⟩
          refine list_range_one rfl F4 N4 hR (by decide) (by decide) fun D tD cD h9 tk9 hDn F5 N5 => ?_
          have hDm := mem_of N5 (.head _)
          clear F4 N4 hR
          k_steps
          refine Hold.of ?_
          refine wpAny_For ?_
          k_steps
          refine Hold.of ?_
          rename IsRange _ _ _ _ _ _ _ _ => hR
          rename Fr _ _ _ _ => F6
          rename News _ _ _ _ => N6
          rw [hYl] at hR
          obtain ⟨m6, hm6, F6⟩ := Fr.named F6
          refine for_range (n := 1) (fun i m' led => (i = 0 → m' = m6 ∧ led = (D, ({ cls := .type "list", data := .seq [Value.int 2 tD].toArray cD } : Obj)) :: led5) ∧ (i = 1 → ∃ (t : Tok) (rest : Str → Option Value) (o : Obj), m' = (fun y => if y = Str.ofString "result" then some (.int 1 t) else rest y) ∧ led = (D, o) :: led5)) (fun _ _ => False) rfl F6 N6 hR (by decide) (by decide) ⟨fun _ => ⟨rfl, rfl⟩, fun h => absurd h (by decide)⟩ ?_ ?_ (fun _ _ e => e.elim)
          · intro i t7 m' led7 its h7 tk7 g7 d7 os7 E7 hi hJ F7 N7 off
            obtain rfl : i = 0 := by omega
            obtain ⟨e1, e2'⟩ := hJ.1 rfl
            have e2 := e2'
            rw [e1, hm6] at F7
            rw [e2] at N7
            have hmm := mem_of N7 (.head _)
            clear F6 N6 hR hm6
            show wpAny _ _ (assign _ _ (.int 0 t7)) _ _ _
            k_steps
            refine Hold.of ?_
            rename Fr _ _ _ _ => F8
            rename News _ _ _ _ => N8
            rw [hYi] at F8
            refine wpAny_For ?_
            k_steps
            refine Hold.of ?_
            rename IsRange _ _ _ _ _ _ _ _ => hR
            rename Fr _ _ _ _ => F9
            rename News _ _ _ _ => N9
            rw [hXl] at hR
            obtain ⟨m9, hm9, F9⟩ := Fr.named F9
            refine for_range (n := 1) (fun i m' led => (i = 0 → m' = m9 ∧ led = (D, ({ cls := .type "list", data := .seq [Value.int 2 tD].toArray cD } : Obj)) :: led5 ++ its) ∧ (i = 1 → ∃ (t1 t2 : Tok) (rest : Str → Option Value) (o : Obj), m' = (fun y => if y = Str.ofString "minimum" then some (.int 1 t1) else if y = Str.ofString "result" then some (.int 1 t2) else if y = Str.ofString "max_cost" then some (.int 1 tm) else rest y) ∧ led = (D, o) :: led5 ++ its)) (fun _ _ => False) rfl F9 N9 hR (by decide) (by decide) ⟨fun _ => ⟨rfl, rfl⟩, fun h => absurd h (by decide)⟩ ?_ ?_ (fun _ _ e => e.elim)
            · intro i t10 m' led10 its2 h10 tk10 g10 d10 os10 E10 hi hJ2 F10 N10 off2
              obtain rfl : i = 0 := by omega
              obtain ⟨e1, e2⟩ := hJ2.1 rfl
              rw [e1, hm9] at F10
              rw [e2] at N10
              have hmm2 := mem_of N10 (.head _)
              clear F9 N9 hR hm9
              show wpAny _ _ (assign _ _ (.int 0 t10)) _ _ _
              k_steps
              refine Hold.of ?_
              rw [hXi]
              have hs := sub_c w loose mean mg mb Y X
              simp only [hsub] at hs
              (refine' Con.use (hs _ _) ?k1 ?k2 ?k3 ?k4 ?k5 ?kK ?kp ?kd ?ku ?_; (case k1 => k_asm); (case k2 => k_asm); (case k3 => k_asm); (case k4 => k_asm); (case k5 => k_asm); (case kK => exact rfl); (case kp => exact ⟨hYl, hXl⟩); (case kd => ktr_room); (case ku => ktr_units); intro t9 h9 tk9 F9 N9; (try dsimp only); (try k_fold))
              k_steps
              refine Hold.of ?_
              rename Fr _ _ _ _ => F12
              rename News _ _ _ _ => N12
              refine ki_set (n := cD) (its := [Value.int 2 tD].toArray) F12 N12 (by decide) (by decide) (by rfl) (Upd.head (r := led5 ++ its ++ its2) fun p hp => ?_) fun h13 F13 N13 => ?_
              · rcases List.mem_append.mp hp with hp | hp
                · rcases List.mem_append.mp hp with hp | hp
                  · exact hDn p hp
                  · exact off (D, ({ cls := .type "list", data := .seq [Value.int 2 tD].toArray cD } : Obj)) (by rw [e2']; exact .head _) p hp
                · exact off2 (D, ({ cls := .type "list", data := .seq [Value.int 2 tD].toArray cD } : Obj)) (by rw [e2]; exact .head _) p hp
              clear F12 N12
              k_steps
              rename Fr _ _ _ _ => F14
              rename News _ _ _ _ => N14
              refine FEnd.next (news' := (D, _) :: led5 ++ its) F14 N14 (fun p hp q hq => ?_) ⟨fun h => absurd h (by decide), fun _ => ⟨_, _, _, _, ladder3 rfl rfl rfl, rfl⟩⟩
              rcases List.mem_cons.mp hp with rfl | hp
              · exact off2 (D, ({ cls := .type "list", data := .seq [Value.int 2 tD].toArray cD } : Obj)) (by rw [e2]; exact .head _) q hq
              · exact off2 p (by rw [e2]; exact .tail _ hp) q hq
            · intro h11 tk11 m11 led11 hJ2 F11 N11
              obtain ⟨t1, t2, rest, o11, rfl, rfl⟩ := hJ2.2 rfl
              clear F9 N9 hR hm9
              k_steps
              refine FEnd.next F11 N11 (fun p hp q hq => ?_) ⟨fun h => absurd h (by decide), fun _ => ⟨t2, _, o11, ladder_hd rfl, rfl⟩⟩
              rcases List.mem_cons.mp hp with rfl | hp
              · exact off (D, ({ cls := .type "list", data := .seq [Value.int 2 tD].toArray cD } : Obj)) (by rw [e2]; exact .head _) q hq
              · exact off p (by rw [e2]; exact .tail _ hp) q hq
          · intro h8 tk8 m8 led8 hJ F8 N8
            obtain ⟨t8, rest, o8, rfl, rfl⟩ := hJ.2 rfl
            clear F6 N6 hR hm6
            k_steps
            rename_i kF kN _ _
            exact hret _ _ _ kF fun p hp => kN p (List.mem_cons_of_mem _ hp)
end Mine
end
section
theorem Mine.reset_W3 : True := by
  w_top off
  trivial
open PySem PySem.W PyProof.Rows PySem.Calls PyProof.Rows.LCg
namespace Mine
theorem leven0_c (w : World) (loose : List Str) (mean : ExcName → Option Value) (mg mb : Str → Option Value) (A : Str) (ta tb tm : Tok) :
  Con w loose mean mg mb 88 3 [.str A ta, .str A tb, .int 1 tm] (fun news => True) (fun t => .int 0 t) := by
  unfold Con
  k_fill
  intro dp un gd cn cs a' ccd cl outer A₀ base h₀ L m news s Q E BE FE XE NE TE hkE hpE hd1 hd2 hret
  have hne : (A == A) = true := by rw [beq_iff_eq]
  refine wpAny_call ?_
  k_dflt cell_enter
  k_steps
  all_goals (try (exfalso; simp_all; done))
  rename_i kF kN _ _
  exact hret _ _ _ kF kN
end Mine
end
section
open PySem PySem.W PyProof.Rows PySem.Calls PyProof.Rows.LCg
namespace Mine
def TabHit (pos : Pos) (qual : Str) (ps : Array Value) (led : List (Addr × Obj)) : Prop :=
  TriplesOk ps.toList ∧ ∃ c' oc vs t, codeAmong pos ps.toList = some (.ref c') ∧ (c', oc) ∈ led ∧ oc.data = .fields vs ∧ vs[1]? = some (.str qual t)
def NoTab (P : Addr) (led : List (Addr × Obj)) : Prop := ∀ p ∈ led, p.1 ≠ P ∨ p.2 ≠ tabObj #[]
def TabOk (P : Addr) (pos : Pos) (qual : Str) (ps : Array Value) (led : List (Addr × Obj)) : Prop := (ps = #[] ∧ NoTab P led) ∨ TabHit pos qual ps led
theorem TabHit.mono {pos : Pos} {qual : Str} {ps : Array Value} {led led' : List (Addr × Obj)} (h : TabHit pos qual ps led) (hs : ∀ p ∈ led, p ∈ led') : TabHit pos qual ps led' := by
  obtain ⟨a, c', oc, vs, t, b, c, d⟩ := h
  exact ⟨a, c', oc, vs, t, b, hs _ c, d⟩
/-- A contract of a def that makes a def: the table of codes is the ledger's head. -/
def ConN (w : World) (loose : List Str) (mean : ExcName → Option Value) (mg mb : Str → Option Value) (f : Addr) (k : Nat) (vs : List Value) (P : Addr) (pos : Pos) (qual : Str) (Pre : List (Addr × Obj) → Prop) (R : Tok → Value) : Prop :=
  ∀ (dp un : Nat) (gd : Option (List Code)) (cn : Str) (cs : Scope) (a : Addr) (ccd : Value) (cl : List (Str × Addr)) (outer : List Env) (A₀ : Around) (base h₀ : Heap) (L : Addr) (m : Str → Option Value) (rest : List (Addr × Obj)) (ps : Array Value) (s : Shared) (Q E : Value → Shared → Prop),
    Below A₀ base outer h₀ → Fr h₀ L s.heap m → (hd.heap_39 w.params).In h₀ → News h₀ L s.heap ((P, tabObj ps) :: rest) → Top topProg loose mean mg mb h₀ → cs.kind = .function →
    TabOk P pos qual ps rest → Pre rest → dp + k < recursionLimit → un + 16 * k < cLine →
    (∀ (t : Tok) (own : List (Addr × Obj)) (ps' : Array Value) (h' : Heap) (tk' : Nat), Fr h₀ L h' m → News h₀ L h' (own ++ (P, tabObj ps') :: rest) → TabHit pos qual ps' (own ++ rest) → Q (R t) { s with heap := h', toks := tk' }) →
      wpAny (model PySem.Challenge.rw_to0078_01.row.toRowW.prog w) (ktrTop dp un gd cn cs L a ccd cl outer) (call (.ref f) vs) Q E s
theorem codeHd66 (w : World) (h₀ : Heap) (X : (hd.heap_39 w.params).In h₀) : CodeHd h₀ 66 62 := ⟨_, _, _, _, _, _, _, _, _, X 66 _ rfl, rfl, rfl, rfl, rfl, rfl, rfl, rfl, rfl, by decide⟩
end Mine
namespace Mine
section
variable {prog : Program} {w : World} {A : Around} {E : Value → Shared → Prop} {s : Shared}
theorem truthy_full {l : Addr} {items : Array Value} {Q : Bool → Shared → Prop} (hl : s.heap.IsList l items) (h1 : items.size < 100) (h2 : 0 < items.size)
    (h : Q true { s with toks := s.toks + 1 + 1 }) : wpAny (model prog w) A (truthy (.ref l)) Q E s := by
  refine wpAny_truthy_list hl (by omega) ?_
  have : items.isEmpty = false := by unfold Array.isEmpty; rw [decide_eq_false_iff_not]; omega
  rw [this]; exact h
end
end Mine
namespace Mine
theorem sh_e1 : ((0 : Int) + 3).fdiv (2 ^ Int.toNat 1) = 1 := by decide +kernel
theorem sh_e2 : ((1 : Int) + 3).fdiv (2 ^ Int.toNat 1) = 2 := by decide +kernel
section
variable {prog : Program} {w : World} {A : Around} {E : Value → Shared → Prop} {s : Shared}
theorem item3_0 {value slice : PySem.Expr} {l : Addr} {x y z : Int} {tx ty tz : Tok} {k : Int} {u : Tok} {Q : Value → Shared → Prop} (hl : s.heap.IsList l #[.int x tx, .int y ty, .int z tz]) (hk : k = 0) (h : ∀ t, Q (.int x t) s)
    (hs : subscripted slice false (.ref l) (.int k u) = operate [.ref l, .int k u] (getItem (.ref l) (.int k u)) := by with_unfolding_all rfl) :
    wpAny (model prog w) A (subscriptTail value slice (.ref l) (.int k u)) Q E s := by
  subst hk
  exact item_anyK (vs := [.int x tx, .int y ty, .int z tz]) hl (.cons x tx (.cons y ty (.cons z tz .nil))) (by decide) (by show (0 : Int) < 3; decide) (by decide) h hs
theorem item3_1 {value slice : PySem.Expr} {l : Addr} {x y z : Int} {tx ty tz : Tok} {k : Int} {u : Tok} {Q : Value → Shared → Prop} (hl : s.heap.IsList l #[.int x tx, .int y ty, .int z tz]) (hk : k = 1) (h : ∀ t, Q (.int y t) s)
    (hs : subscripted slice false (.ref l) (.int k u) = operate [.ref l, .int k u] (getItem (.ref l) (.int k u)) := by with_unfolding_all rfl) :
    wpAny (model prog w) A (subscriptTail value slice (.ref l) (.int k u)) Q E s := by
  subst hk
  exact item_anyK (vs := [.int x tx, .int y ty, .int z tz]) hl (.cons x tx (.cons y ty (.cons z tz .nil))) (by decide) (by show (1 : Int) < 3; decide) (by decide) h hs
theorem item3_2 {value slice : PySem.Expr} {l : Addr} {x y z : Int} {tx ty tz : Tok} {k : Int} {u : Tok} {Q : Value → Shared → Prop} (hl : s.heap.IsList l #[.int x tx, .int y ty, .int z tz]) (hk : k = 2) (h : ∀ t, Q (.int z t) s)
    (hs : subscripted slice false (.ref l) (.int k u) = operate [.ref l, .int k u] (getItem (.ref l) (.int k u)) := by with_unfolding_all rfl) :
    wpAny (model prog w) A (subscriptTail value slice (.ref l) (.int k u)) Q E s := by
  subst hk
  exact item_anyK (vs := [.int x tx, .int y ty, .int z tz]) hl (.cons x tx (.cons y ty (.cons z tz .nil))) (by decide) (by show (2 : Int) < 3; decide) (by decide) h hs
end
end Mine
namespace Mine
section
variable {M : Model} {A : Around} {E : Value → Shared → Prop} {s : Shared} {h₀ : Heap} {L a c P : Addr} {m mg mb : Str → Option Value} {cn : Str} {cs : Scope} {ccd : Value} {cl : List (Str × Addr)} {news rest : List (Addr × Obj)} {g : Obj → List (Addr × Obj)}
  {p : Program} {loose : List Str} {mean : ExcName → Option Value} {name qual : Str} {params : Arguments} {body : List Stmt} {scope : Scope} {ps : Array Value} {pos : Pos} {firstLine : Nat} {clos : List (Str × Addr)}
/-- A def inside a def, its code made now or found. -/
theorem nest_both {Q : Value → Shared → Prop} (F : Fr h₀ L s.heap m) (N : News h₀ L s.heap news) (T : Top p loose mean mg mb h₀) (C : CodeHd h₀ c P) (hcd : ccd = .ref c) (hTab : TabOk P pos qual ps rest)
    (U : ps = #[] → NoTab P rest → UpdF P (tabObj #[]) news g) (hgn : g (tabObj ps) = news) (hmem : (P, tabObj ps) ∈ news) (hsub : ∀ q ∈ rest, q ∈ news)
    (ht0 : TriplesOk (#[] : Array Value).toList) (ha0 : codeAmong pos (#[] : Array Value).toList = none)
    (ht1 : ∀ c' : Addr, TriplesOk ((#[] : Array Value) ++ #[rawInt pos.line, rawInt pos.col, .ref c']).toList) (ha1 : ∀ c' : Addr, codeAmong pos ((#[] : Array Value) ++ #[rawInt pos.line, rawInt pos.col, .ref c']).toList = some (.ref c'))
    (hcl : closureFor scope (envX cn cs L a ccd cl) = pure clos)
    (h : ∀ f c' oc vs t ctv doc ps' h' tk, Fr h₀ L h' m →
      News h₀ L h' ((f, fnMade name qual params body scope clos doc ((mg "__name__").getD .none) c' ctv) :: (c', oc) :: g (tabObj ps')) →
      oc.data = .fields vs → vs[1]? = some (.str qual t) → TabHit pos qual ps' ((c', oc) :: rest) → (∀ q ∈ news, q.1 < f) → ((∀ q ∈ news, q.1 < c') ∨ (c', oc) ∈ rest) → Q (.ref f) { s with heap := h', toks := tk }) :
    wpAny M A (makeFunction name qual params (.stmts body) scope (envX cn cs L a ccd cl) [] [] [] pos firstLine) Q E s := by
  rcases hTab with ⟨rfl, hNT⟩ | ⟨hTri, c₁, oc₁, vs₁, ts₁, hAm, hoc, hocd, hvs⟩
  · refine nest_K F N T C hcd (U rfl hNT) ht0 ha0 hcl fun f c' oc vs t ctv doc h' tk F' N' e1 e2 l1 l2 => ?_
    exact h f c' oc vs t ctv doc _ h' tk F' N' e1 e2 ⟨ht1 c', c', oc, vs, t, ha1 c', .head _, e1, e2⟩ (fun q hq => Nat.lt_trans (l1 q hq) l2) (.inl l1)
  · refine nestHit_K F N T C hcd hmem hTri hAm hcl fun f ctv doc h' tk F' N' l => ?_
    refine h f c₁ oc₁ vs₁ ts₁ ctv doc ps h' tk F' (fun q hq => ?_) hocd hvs ⟨hTri, c₁, oc₁, vs₁, ts₁, hAm, .head _, hocd, hvs⟩ l (.inr hoc)
    rcases List.mem_cons.mp hq with rfl | hq
    · exact N' _ (.head _)
    rcases List.mem_cons.mp hq with rfl | hq
    · exact N' _ (.tail _ (hsub _ hoc))
    · rw [hgn] at hq; exact N' _ (.tail _ hq)
end
end Mine
end
section
theorem Mine.reset_N2 : True := by
  w_top off
  trivial
open PySem PySem.W PyProof.Rows PySem.Calls PyProof.Rows.LCg
namespace Mine
abbrev posD : Pos := ⟨62, 4, 67, 55⟩
abbrev qualD : Str := Str.ofString "_digits2int.<locals>.inner"
local macro_rules | `(tactic| walk_at "exec FunctionDef") => `(tactic| refine Hold.mk ?_)
local macro_rules | `(tactic| walk_at "call ref") => `(tactic| refine Hold.mk ?_)
local macro_rules | `(tactic| walk_at "subscriptTail") => `(tactic| (first | (refine item3_0 (isListD (by k_asm) (by assumption)) (by decide +kernel) ?_) | (refine item3_1 (isListD (by k_asm) (by assumption)) (by decide +kernel) ?_) | (refine item3_2 (isListD (by k_asm) (by assumption)) (by decide +kernel) ?_)); intro _)
local macro_rules | `(tactic| walk_at "binaryOp RShift int int") => `(tactic| ((with_reducible refine rshift_int ?kb1 ?_); (case kb1 => decide); (first | rw [sh_e1] | rw [sh_e2])))
theorem digits_c (w : World) (loose : List Str) (mean : ExcName → Option Value) (mg mb : Str → Option Value) (l : Addr) (x y z : Int) (tx ty tz t1 : Tok) (ep : Nat) (hx : 0 ≤ x ∧ x ≤ 1) (hy : 0 ≤ y ∧ y ≤ 1) (hz : 0 ≤ z ∧ z ≤ 1) :
  ConN w loose mean mg mb 67 6 [.ref l, .int 1 t1] 62 posD qualD (fun rest => (l, ({ cls := .type "list", data := .seq #[.int x tx, .int y ty, .int z tz] ep } : Obj)) ∈ rest) (fun t => .int (x + 2 * y + 4 * z) t) := by
  unfold ConN
  k_fill
  obtain ⟨hx0, hx1⟩ := hx
  obtain ⟨hy0, hy1⟩ := hy
  obtain ⟨hz0, hz1⟩ := hz
  intro dp un gd cn cs a ccd cl outer A₀ base h₀ L m rest ps s Q E BE FE XE NE TE hkE hTab hpE hd1 hd2 hret
  have hl := mem_of NE (List.Mem.tail _ hpE)
  refine wpAny_call ?_
  (k_dflt (refine' code_defC ?k1 ?k2 ?k3 ?k4 ?k5 ?kA ?kF ?kK ?k6 ?k7 ?k8 ?k9 ?kB ?kD ?_ ?c2 ?c3 ?c4; (case kA => exact rfl); (case kF => exact rfl); (case kK => assumption); (case k1 => k_asm); (case k2 => k_asm); (case k3 => k_asm); (case k4 => k_asm); (case k5 => k_asm); (case k6 => k_is); (case k7 => k_is); (case k8 => ktr_room); (case k9 => exact BindsTo.of_eq rfl); (case kB => exact rfl); (case kD => decide +kernel); (case c2 => exact rfl); (case c3 => exact rfl); (case c4 => exact rfl); k_whole; intro g' L' h' tk' cells' FG' F' N' Y' B' X' T' l1; k_cells Y'; (try simp only [List.cons_append, List.nil_append] at N'); (try dsimp only); (try k_lift B'); (try (show wpAny _ _ _ _ _ _; k_fold))))
  replace F' : Fr g' L' h' (fun _ => none) := F'
  have lL := l1
  rename_i oI oN oD dI dN dD
  replace dI : oI.data = .cell none := dI
  replace dN : oN.data = .cell (some (.int 1 t1)) := dN
  replace dD : oD.data = .cell (some (.ref l)) := dD
  have hCH : CodeHd h₀ 66 62 := codeHd66 w h₀ XE
  have hCH2 := hCH.keeps (fun b o e => FG'.keep b o e)
  k_steps
  refine Hold.of ?_
  refine' nestDef_K ?d0 ?k0 ?a0 ?_; (case d0 => exact rfl); (case k0 => exact rfl); (case a0 => exact rfl)
  have h62 : 62 < L' := lL (62, tabObj ps) (.head _)
  refine' nest_both (P := 62) (c := 66) (ps := ps) (rest := rest) (g := fun o => (L' + 1 + 1 + 1, oI) :: (L' + 1 + 1, oN) :: (L' + 1, oD) :: (62, o) :: rest) ?F ?N ?T ?C ?cd hTab ?U ?gn ?mem ?sub ?t0 ?a0 ?t1 ?a1 ?cl ?_
  (case F => k_asm); (case N => k_asm); (case T => k_asm); (case cd => exact rfl); (case C => exact hCH2); (case gn => exact rfl); (case mem => exact .tail _ (.tail _ (.tail _ (.head _)))); (case sub => exact fun p hp => .tail _ (.tail _ (.tail _ (.tail _ hp))))
  (case t0 => kn_triples); (case a0 => kn_among); (case t1 => intro c'; kn_triples); (case a1 => intro c'; kn_hit); (case cl => exact rfl)
  case U =>
    intro e hNT
    subst e
    have hNe : ∀ p ∈ rest, p.1 ≠ 62 := fun p hp e => by
      have h1 := (NE p (.tail _ hp)).1
      have h2 := (NE (62, tabObj #[]) (.head _)).1
      rw [e] at h1
      rw [h2] at h1
      exact (hNT p hp).elim (fun h => h e) (fun h => h (Option.some.inj h1).symm)
    exact UpdF.tail (Nat.ne_of_gt (Nat.lt_of_lt_of_le h62 (Nat.le_add_right L' 3))) (UpdF.tail (Nat.ne_of_gt (Nat.lt_of_lt_of_le h62 (Nat.le_add_right L' 2))) (UpdF.tail (Nat.ne_of_gt (Nat.lt_of_lt_of_le h62 (Nat.le_add_right L' 1))) (UpdF.head hNe)))
  k_whole; intro f' c₁ oc₁ vs₁ ts₁ ct' dc' ps' h' tk' F' N' hocd hvs hTH l1 lc; (try dsimp only at N')
  have hf3 : f' ≠ L' + 1 + 1 + 1 := Nat.ne_of_gt (l1 _ (.head _))
  have hc3 : c₁ ≠ L' + 1 + 1 + 1 := lc.elim (fun l => Nat.ne_of_gt (l _ (.head _))) (fun hm => Nat.ne_of_lt (Nat.lt_of_lt_of_le (lL _ (.tail _ hm)) (Nat.le_add_right L' 3)))
  clear lc l1
  refine storeX_C F' N' (by rfl) (UpdF.tail hf3 (UpdF.tail hc3 (UpdF.head fun p hp => ?_))) dI fun h2 oC2 F2 N2 d2 => ?_
  · rcases List.mem_cons.mp hp with rfl | hp
    · exact Nat.ne_of_lt (Nat.lt_succ_self _)
    rcases List.mem_cons.mp hp with rfl | hp
    · exact Nat.ne_of_lt (Nat.lt_succ_of_lt (Nat.lt_succ_self _))
    rcases List.mem_cons.mp hp with rfl | hp
    · exact Nat.ne_of_lt (Nat.lt_of_lt_of_le h62 (Nat.le_add_right L' 3))
    exact Nat.ne_of_lt (Nat.lt_of_lt_of_le (lL p (.tail _ hp)) (Nat.le_add_right L' 3))
  (try dsimp only at N2)
  clear F' N' hf3 hc3
  have hlm := mem_of N2 (.tail _ (.tail _ (.tail _ (.tail _ (.tail _ (.tail _ hpE))))))
  have hom := mem_of N2 (.tail _ (.head _))
  k_steps
  rename News _ _ _ _ => N3
  refine truthy_full (isListD N3 hlm) (show 3 < 100 by omega) (show 0 < 3 by omega) ?_
  k_steps
  repeat (refine Hold.of ?_; refine wpAny_call ?_; k_dflt ((refine' code_nest ?k1 ?k2 ?k3 ?k4 ?k5 ?kA ?kF ?kK ?k6 ?k7 ?k8 ?k9 ?kB ?_ ?c2 ?c3 ?c4 ?c5; (case kA => exact rfl); (case kF => exact rfl); (case kK => first | assumption | exact rfl); (case k1 => k_asm); (case k2 => k_asm); (case k3 => k_asm); (case k4 => k_asm); (case k5 => k_asm); (case k6 => k_mem); (case k7 => exact codeRec_news (by k_asm) (by k_mem) (by assumption) (by assumption)); (case k8 => ktr_room); (case k9 => exact BindsTo.of_eq rfl); (case c5 => decide); (case kB => exact locs rfl); (case c2 => exact rfl); (case c3 => exact rfl); (case c4 => exact rfl); k_whole; intro g' L' h' FG' F' N' B' X' T'; (try dsimp only); (try k_lift B'); (try k_fold))); k_steps)
  rename_i kF kN _ _
  refine Eq.mpr (congrArg (fun v => Q (.int v tk) { heap := _, gens := s.gens, drawn := s.drawn, toks := _, os := s.os }) ?_) (hret tk [_, _, _, _, _] ps' _ _ kF kN (hTH.mono fun p hp => ?_))
  · show (z * 2 + y) * 2 + x = x + 2 * y + 4 * z
    omega
  · rcases List.mem_cons.mp hp with rfl | hp
    · exact .tail _ (.head _)
    · exact List.mem_append_right _ hp
end Mine
end
section
open PySem PySem.W PyProof.Rows PySem.Calls PyProof.Rows.LCg
namespace Mine
section
variable {prog : Program} {w : World} {A : Around} {E : Value → Shared → Prop} {s : Shared}
theorem wpAny_choose1 {src : Source} {n : Nat} (hn : n = 1) {Q : Nat → Shared → Prop} (h : ∀ d, Q 0 { s with drawn := d }) : wpAny (model prog w) A (choose src n) Q E s := fun Γ p hΓ => by
  subst hn
  unfold choose
  rw [Sem.wp_choose]
  refine ⟨by decide, ?_⟩
  rw [Nat.mod_one]
  exact wpAny_pure (M := model prog w) (A := A) (E := E) (h _) Γ p hΓ
theorem popPlace1 {t : SetTable} (h : t.place.size = 1) : t.popPlace = some 0 := by
  unfold SetTable.popPlace
  have h0 : t.place.isEmpty = false := by unfold Array.isEmpty; rw [h]; rfl
  rw [h0]
  simp only [Bool.false_eq_true, if_false, h]
  split <;> simp_all
theorem popped_fits {t : SetTable} (h : t.fits 1 = true) : (t.popped 0).fits 0 = true := by
  unfold SetTable.fits SetTable.fill at h
  simp only [Bool.and_eq_true, beq_iff_eq, decide_eq_true_eq] at h
  obtain ⟨h1, h2⟩ := h
  have h3 : t.place[0]? = some (t.place[0]'(by omega)) := Array.getElem?_eq_getElem _
  unfold SetTable.fits SetTable.fill SetTable.popped SetTable.drop
  rw [h3]
  simp only [Bool.and_eq_true, beq_iff_eq, decide_eq_true_eq, SetTable.eraseAt, SetTable.insertAt, Array.size_append, Array.size_extract, List.size_toArray, List.length_cons, List.length_nil, Array.size_push]
  generalize SetTable.below t.dummies t.place[0] = B
  clear h3
  rw [h1] at h2 ⊢
  generalize t.dummies.size = D at *
  generalize t.mask = Mk at *
  clear h1
  refine ⟨rfl, ?_⟩
  rw [Nat.min_self D]
  show 0 + (min B D - 0 + 1 + (D - B)) ≤ Mk
  rcases Nat.le_total B D with q | q
  · rw [Nat.min_eq_left q]; omega
  · rw [Nat.min_eq_right q, Nat.sub_eq_zero_of_le q]; omega
theorem code_pop1 {a : Addr} {o : Obj} {hh : Int} {x : Value} {ep : Nat} {t : SetTable} {Q : Option Value → Shared → Prop} (ho : s.heap.get? a = some o) (hd : o.data = .set #[(hh, x)] ep t) (hf : t.fits 1 = true)
    (h : ∀ d, Q (some x) { s with heap := s.heap.update a (Obj.putSet #[] (t.popped 0)), drawn := d }) :
    wpAny (model prog w) A (setPop a) Q E s := by
  unfold setPop
  refine wpAny_bind (wpAny_setState_of ho hd hf ?_)
  have hp : t.place.size = 1 := by unfold SetTable.fits at hf; simp only [Bool.and_eq_true, beq_iff_eq] at hf; exact hf.1
  dsimp only
  rw [popPlace1 hp]
  dsimp only
  have he : SetTable.eraseAt #[(hh, x)] 0 = #[] := by rfl
  have key : ∀ d, wpAny (model prog w) A (match (#[(hh, x)] : Array (Int × Value))[0]? with
            | some (fst, x_1) => do
              storeSet a (SetTable.eraseAt #[(hh, x)] 0) (t.popped 0)
              pure (some x_1)
            | x => unsupported "internal:set.pop") Q E { s with drawn := d } := fun d => by
    show wpAny (model prog w) A (do
              storeSet a (SetTable.eraseAt #[(hh, x)] 0) (t.popped 0)
              pure (some x)) Q E _
    rw [he]
    exact wpAny_bind (wpAny_storeSet_of (s := { s with drawn := d }) ho hd (wpAny_pure (h d)) (by decide))
  unfold setsByText
  refine wpAny_bind (wpAny_bind (wpAny_askSetting (wpAny_pure ?_)))
  dsimp only
  split
  · refine wpAny_bind (wpAny_choose1 (by rfl) fun d => ?_)
    exact key d
  · refine wpAny_bind ?_
    show wpAny _ _ (if (!t.led && decide ((#[(hh, x)] : Array (Int × Value)).size > 1)) = true then _ else pure PUnit.unit) _ _ _
    rw [if_neg (by simp)]
    exact wpAny_pure (wpAny_bind (wpAny_pure (key s.drawn)))
theorem call_pop1 {a : Addr} {o : Obj} {hh : Int} {x : Value} {ep : Nat} {t : SetTable} {Q : Value → Shared → Prop} (ho : s.heap.get? a = some o) (hex : o.ExactSet) (hd : o.data = .set #[(hh, x)] ep t) (hf : t.fits 1 = true)
    (h : ∀ d, Q x { s with heap := s.heap.update a (Obj.putSet #[] (t.popped 0)), drawn := d }) :
    wpAny (model prog w) A (call (.builtin "set.pop") [.ref a]) Q E s := by
  refine wpAny_call_entry F.slot_set_pop ⟨o, ho, hex.1⟩ F.entry_set_pop ?_ (F.args_set_pop_1 _)
  unfold Builtin.«set.pop»
  refine wpAny_bind (wpAny_pure ?_)
  refine wpAny_bind (code_pop1 ho hd hf fun d => ?_)
  exact wpAny_pure ⟨_, rfl, h d⟩
theorem getMethod_pop {a : Addr} {o : Obj} {pl : Sem Bool} {Q : Value × List Value → Shared → Prop} (ho : s.heap.get? a = some o) (hex : o.ExactSet) (h : Q (.builtin "set.pop", [.ref a]) s) :
    wpAny (model prog w) A (getMethod (.ref a) "pop" pl) Q E s :=
  getMethod_builtin ⟨o, ho, hex.1⟩ F.plainAttrs_set F.slot_set_pop F.type_set_pop (fun b e => by cases e; exact ⟨o, ho, hex.2.1⟩) h
end
end Mine
namespace Mine
theorem noBool_set : typeLookup (.type "set") "__bool__" = pure none := by rw [typeLookup_type, builtinLookup_eq_fast]; kernel_rfl
section
variable {prog : Program} {w : World} {A : Around} {E : Value → Shared → Prop} {s : Shared} {h₀ : Heap} {L sa : Addr} {m : Str → Option Value} {news : List (Addr × Obj)} {so : Obj} {g : Obj → List (Addr × Obj)}
theorem truthy_set_of {a : Addr} {o : Obj} {es : Array (Int × Value)} {ep : Nat} {t : SetTable} {Q : Bool → Shared → Prop} (ho : s.heap.get? a = some o) (hex : o.ExactSet) (hd : o.data = .set es ep t) (hf : t.fits es.size = true) (hsm : es.size < 2)
    (h : Q (es.size == 1) { s with toks := s.toks + 1 + 1 }) : wpAny (model prog w) A (truthy (.ref a)) Q E s := by
  have hT : s.TypeIs (.ref a) "set" := ⟨o, ho, hex.1⟩
  have hne : ((es.size : Int) != 0) = (es.size == 1) := by
    rcases Nat.eq_zero_or_pos es.size with e | e
    · rw [e]; rfl
    · rw [show es.size = 1 by omega]; rfl
  have run : wpAny (model prog w) A (runValue (.builtin "len" ⟨[.ref a], []⟩)) (fun r s' => r = .int es.size (s.toks + 1) ∧ Q (es.size == 1) s') E s := by
    refine wpAny_runValue (codeAny_builtin entry_len ?_)
    rw [Around.under_plainId plain_len _]
    exact wpAny_mono (wpAny_len_body_set (Q := fun r s' => r = .int es.size (s.toks + 1) ∧ Q (es.size == 1) s') ho hex hd hf (by omega) ⟨rfl, h⟩) (fun fin s' h' => by obtain ⟨r, rfl, hq⟩ := h'; exact hq) fun _ _ e => e
  unfold truthy
  refine wpAny_bind (wpAny_callSpecial?_none (name := Str.ofString "__bool__") hT noBool_set ?_)
  refine wpAny_bind (wpAny_specialOf (name := Str.ofString "__len__") hT F.slot_set_len.lookup ?_)
  exact wpAny_bind (wpAny_mono run (fun r s' h' => by obtain ⟨rfl, hq⟩ := h'; exact wpAny_pure (hne ▸ hq)) fun _ _ e => e)
/-- A set of ints in the ledger, of one member or none: its truth. -/
theorem truthy_set_K {K : Type} [DecidableEq K] [BEq K] [LawfulBEq K] {knd : KeyKind prog w K} {S : K → Bool} {n : Nat} {Q : Bool → Shared → Prop} (N : News h₀ L s.heap news) (hm : (sa, so) ∈ news) (hso : so.SetObjOf knd S n) (hn : n < 2)
    (h : Q (n == 1) { s with toks := s.toks + 1 + 1 }) : wpAny (model prog w) A (truthy (.ref sa)) Q E s := by
  obtain ⟨hex, es, ep, t, hd, hel, hmem, rfl, hf⟩ := hso
  exact truthy_set_of (N _ hm).1 hex hd hf hn h
theorem pop_method_K {K : Type} [DecidableEq K] [BEq K] [LawfulBEq K] {knd : KeyKind prog w K} {S : K → Bool} {n : Nat} {pl : Sem Bool} {Q : Value × List Value → Shared → Prop} (N : News h₀ L s.heap news) (hm : (sa, so) ∈ news) (hso : so.SetObjOf knd S n)
    (h : Q (.builtin "set.pop", [.ref sa]) s) : wpAny (model prog w) A (getMethod (.ref sa) "pop" pl) Q E s := getMethod_pop (N _ hm).1 hso.1 h
theorem pop_K {I : Int} {S : Int → Bool} {Q : Value → Shared → Prop} (F : Fr h₀ L s.heap m) (N : News h₀ L s.heap news) (U : UpdF sa so news g) (hso : so.SetObjOf (PySem.intKind prog w) S 1) (hS : S I = true)
    (h : ∀ h' so' t d, Fr h₀ L h' m → News h₀ L h' (g so') → so'.SetObjOf (PySem.intKind prog w) (fun _ => false) 0 → Q (.int I t) { s with heap := h', drawn := d }) :
    wpAny (model prog w) A (call (.builtin "set.pop") [.ref sa]) Q E s := by
  obtain ⟨pre, post, rfl, hg, a, b⟩ := U.split
  have hm := N (sa, so) (List.mem_append_right _ (.head _))
  obtain ⟨hex, es, ep, t, hd, hel, hmem, hn, hf⟩ := hso
  obtain ⟨⟨hh, x⟩, rfl⟩ : ∃ e, es = #[e] := by
    refine ⟨es[0]'(by omega), Array.ext (by simp [hn]) fun i h1 h2 => ?_⟩
    have : i = 0 := by omega
    subst this; simp
  obtain ⟨e, he, hk⟩ := (hmem I).mp hS
  have he' : e = (hh, x) := by simpa using he
  subst he'
  have hx : ∃ t', x = .int I t' := by
    revert hk
    show (PySem.intKind prog w).is I x = true → _
    intro hk
    cases x with
    | int j t' =>
      refine ⟨t', ?_⟩
      have : j = I := by
        have h1 : (PySem.intKind prog w).is j (Value.int j t') = true := intKind_is _ _ _ _
        exact (PySem.intKind prog w).inj _ _ _ h1 hk
      rw [this]
    | _ => exact absurd hk (by intro hk; cases hk)
  obtain ⟨t', rfl⟩ := hx
  refine call_pop1 hm.1 hex hd hf fun d => ?_
  obtain ⟨_, hS'⟩ := SetOf_store (knd := PySem.intKind prog w) (es' := #[]) (t' := t.popped 0) (S' := fun _ => false) hm.1 hex hd (fun e he => by simp at he) (fun k => by simp) (by decide) (popped_fits hf)
  obtain ⟨so', ho', hso'⟩ := hS'.objOf
  have hsb := Heap.SameBut.update s.heap sa (Obj.putSet #[] (t.popped 0))
  exact h _ so' t' d (F.change hsb hm.2.1 hm.2.2) (hg so' ▸ N.setIn a b hsb ho') hso'
end
end Mine
namespace Mine
section
variable {prog : Program} {w : World} {A : Around} {E : Value → Shared → Prop} {h₀ : Heap} {L : Addr} {env : Env}
/-- The end of a while's turn that may have drawn. -/
structure DEnd (h₀ : Heap) (L : Addr) (s : Shared) (k : Nat) (J : Nat → (Str → Option Value) → List (Addr × Obj) → Prop) (f : Flow) (s' : Shared) : Prop where
  intro ::
  out : (f = .next ∨ f = .cont) ∧ ∃ k' h' tk d m' news', k' < k ∧ s' = { s with heap := h', toks := tk, drawn := d } ∧ Fr h₀ L h' m' ∧ News h₀ L h' news' ∧ J k' m' news'
theorem DEnd.cont {k k' : Nat} {hp h' : Heap} {g : Array GenState} {d d' : Drawn} {t tk : Nat} {os : OsState} {J : Nat → (Str → Option Value) → List (Addr × Obj) → Prop} {m' : Str → Option Value} {news' : List (Addr × Obj)}
    (F : Fr h₀ L h' m') (N : News h₀ L h' news') (hk : k' < k) (j : J k' m' news') : DEnd h₀ L ⟨hp, g, d, t, os⟩ k J .cont ⟨h', g, d', tk, os⟩ := ⟨.inr rfl, k', h', tk, d', m', news', hk, rfl, F, N, j⟩
structure DXEnd (h₀ : Heap) (L : Addr) (s : Shared) (Jx : (Str → Option Value) → List (Addr × Obj) → Prop) (s' : Shared) : Prop where
  intro ::
  out : ∃ h' tk d m' news', s' = { s with heap := h', toks := tk, drawn := d } ∧ Fr h₀ L h' m' ∧ News h₀ L h' news' ∧ Jx m' news'
theorem DXEnd.mk {hp h' : Heap} {g : Array GenState} {d d' : Drawn} {t tk : Nat} {os : OsState} {Jx : (Str → Option Value) → List (Addr × Obj) → Prop} {m' : Str → Option Value} {news' : List (Addr × Obj)}
    (F : Fr h₀ L h' m') (N : News h₀ L h' news') (j : Jx m' news') : DXEnd h₀ L ⟨hp, g, d, t, os⟩ Jx ⟨h', g, d', tk, os⟩ := ⟨h', tk, d', m', news', rfl, F, N, j⟩
theorem while_D {test : Expr} {body : List Stmt} {pos : Pos} {s : Shared} {m : Str → Option Value} {news : List (Addr × Obj)} {Q : Flow → Shared → Prop}
    (J : Nat → (Str → Option Value) → List (Addr × Obj) → Prop) (Jx : (Str → Option Value) → List (Addr × Obj) → Prop) (n : Nat) (F : Fr h₀ L s.heap m) (N : News h₀ L s.heap news) (h0 : J n m news)
    (turn : ∀ k m' news' h tk (g : Array GenState) (d : Drawn) (os : OsState) (E' : Value → Shared → Prop), J k m' news' → Fr h₀ L h m' → News h₀ L h news' →
      wpAny (model prog w) A (isTrue test env (eval test env)) (fun b s₂ => if b = true then wpAny (model prog w) A (execs body env) (DEnd h₀ L ⟨h, g, d, tk, os⟩ k J) E' s₂ else DXEnd h₀ L ⟨h, g, d, tk, os⟩ Jx s₂) E' ⟨h, g, d, tk, os⟩)
    (fin : ∀ h tk d m' news', Jx m' news' → Fr h₀ L h m' → News h₀ L h news' → Q .next ⟨h, s.gens, d, tk, s.os⟩) :
    wpAny (model prog w) A (exec (.While test body [] pos) env) Q E s := by
  refine wpAny_While ?_
  refine codeAny_whileLoop (fun k s' => ∃ h' tk d m' news', s' = ⟨h', s.gens, d, tk, s.os⟩ ∧ Fr h₀ L h' m' ∧ News h₀ L h' news' ∧ J k m' news') ?_ n ⟨s.heap, s.toks, s.drawn, m, news, rfl, F, N, h0⟩
  rintro k s' ⟨h', tk, d, m', news', rfl, F', N', j⟩
  refine wpAny_mono (turn k m' news' h' tk s.gens d s.os _ j F' N') (fun b s₂ hb => ?_) fun _ _ e => e
  cases b with
  | false =>
    simp only [Bool.false_eq_true, if_false] at hb
    obtain ⟨h₂, tk₂, d₂, m₂, news₂, rfl, F₂, N₂, j₂⟩ := hb.out
    exact wpAny_execs_nil (fin h₂ tk₂ d₂ m₂ news₂ j₂ F₂ N₂)
  | true =>
    simp only [if_true] at hb ⊢
    refine wpAny_mono hb (fun f s₃ h₃ => ?_) fun _ _ e => e
    obtain ⟨hf, k', h₂, tk₂, d₂, m₂, news₂, hk, rfl, F₂, N₂, j₂⟩ := h₃.out
    rcases hf with rfl | rfl
    · exact ⟨k', hk, h₂, tk₂, d₂, m₂, news₂, rfl, F₂, N₂, j₂⟩
    · exact ⟨k', hk, h₂, tk₂, d₂, m₂, news₂, rfl, F₂, N₂, j₂⟩
end
def ConD (w : World) (loose : List Str) (mean : ExcName → Option Value) (mg mb : Str → Option Value) (f : Addr) (k : Nat) (vs : List Value) (Pre : List (Addr × Obj) → Prop) (Res : Value → List (Addr × Obj) → Prop) : Prop :=
  ∀ (dp un : Nat) (gd : Option (List Code)) (cn : Str) (cs : Scope) (a : Addr) (ccd : Value) (cl : List (Str × Addr)) (outer : List Env) (A₀ : Around) (base h₀ : Heap) (L : Addr) (m : Str → Option Value) (news : List (Addr × Obj)) (s : Shared) (Q E : Value → Shared → Prop),
    Below A₀ base outer h₀ → Fr h₀ L s.heap m → (hd.heap_39 w.params).In h₀ → News h₀ L s.heap news → Top topProg loose mean mg mb h₀ → cs.kind = .function →
    Pre news → dp + k < recursionLimit → un + 16 * k < cLine →
    (∀ (v : Value) (own : List (Addr × Obj)) (h' : Heap) (tk' : Nat) (d' : Drawn), Res v own → Fr h₀ L h' m → News h₀ L h' (own ++ news) → Q v { s with heap := h', toks := tk', drawn := d' }) →
      wpAny (model PySem.Challenge.rw_to0078_01.row.toRowW.prog w) (ktrTop dp un gd cn cs L a ccd cl outer) (call (.ref f) vs) Q E s
theorem ConD.use {w : World} {loose : List Str} {mean : ExcName → Option Value} {mg mb : Str → Option Value} {f : Addr} {k : Nat} {vs : List Value} {Pre : List (Addr × Obj) → Prop} {Res : Value → List (Addr × Obj) → Prop} (C : ConD w loose mean mg mb f k vs Pre Res)
    {dp un : Nat} {gd : Option (List Code)} {cn : Str} {cs : Scope} {a : Addr} {ccd : Value} {cl : List (Str × Addr)} {outer : List Env} {A₀ : Around} {base h₀ : Heap} {L : Addr} {m : Str → Option Value} {news : List (Addr × Obj)} {s : Shared} {Q E : Value → Shared → Prop}
    (B : Below A₀ base outer h₀) (F : Fr h₀ L s.heap m) (X : (hd.heap_39 w.params).In h₀) (N : News h₀ L s.heap news) (T : Top topProg loose mean mg mb h₀) (hk : cs.kind = .function) (hp : Pre news) (hd : dp + k < recursionLimit) (hu : un + 16 * k < cLine)
    (ret : ∀ (v : Value) (own : List (Addr × Obj)) (h' : Heap) (tk' : Nat) (d' : Drawn), Res v own → Fr h₀ L h' m → News h₀ L h' (own ++ news) → Q v { s with heap := h', toks := tk', drawn := d' }) :
    wpAny (model PySem.Challenge.rw_to0078_01.row.toRowW.prog w) (ktrTop dp un gd cn cs L a ccd cl outer) (call (.ref f) vs) Q E s := C _ _ _ _ _ _ _ _ _ _ _ _ _ _ _ _ _ _ B F X N T hk hp hd hu ret
end Mine
namespace Mine
section
variable {prog : Program} {w : World} {A : Around} {E : Value → Shared → Prop} {s : Shared} {h₀ : Heap} {L sa : Addr} {m : Str → Option Value} {news : List (Addr × Obj)} {so : Obj}
theorem truthy_set1 {K : Type} [DecidableEq K] [BEq K] [LawfulBEq K] {knd : KeyKind prog w K} {S : K → Bool} {Q : Bool → Shared → Prop} (N : News h₀ L s.heap news) (hm : (sa, so) ∈ news) (hso : so.SetObjOf knd S 1)
    (h : Q true { s with toks := s.toks + 1 + 1 }) : wpAny (model prog w) A (truthy (.ref sa)) Q E s := truthy_set_K N hm hso (by decide) h
theorem truthy_set0 {K : Type} [DecidableEq K] [BEq K] [LawfulBEq K] {knd : KeyKind prog w K} {S : K → Bool} {Q : Bool → Shared → Prop} (N : News h₀ L s.heap news) (hm : (sa, so) ∈ news) (hso : so.SetObjOf knd S 0)
    (h : Q false { s with toks := s.toks + 1 + 1 }) : wpAny (model prog w) A (truthy (.ref sa)) Q E s := truthy_set_K N hm hso (by decide) h
end
end Mine
end
section
theorem Mine.reset_P1 : True := by
  w_top off
  trivial
open PySem PySem.W PyProof.Rows PySem.Calls PyProof.Rows.LCg
namespace Mine
local macro_rules | `(tactic| walk_at "exec While") => `(tactic| refine Hold.mk ?_)
local macro_rules | `(tactic| walk_at "truthy ref") => `(tactic| refine Hold.mk ?_)
local macro_rules | `(tactic| walk_at "getMethod ref") => `(tactic| refine Hold.mk ?_)
theorem powers_c (w : World) (loose : List Str) (mean : ExcName → Option Value) (mg mb : Str → Option Value) (n : Nat) (hn : n ≤ 2000) (tn t5 tm : Tok) :
  ConD w loose mean mg mb 46 3 [.int (n : Int) tn, .int 5 t5, .int 2048 tm] (fun _ => True) (fun v own => True) := by
  unfold ConD
  k_fill
  intro dp un gd cn cs a ccd cl outer A₀ base h₀ L m news s Q E BE FE XE NE TE hkE hpE hd1 hd2 hret
  generalize hN : (n : Int) = I at *
  have hI0 : 0 ≤ I := by omega
  have hI1 : I ≤ 2000 := by omega
  refine wpAny_call ?_
  k_dflt (refine' code_def ?k1 ?k2 ?k3 ?k4 ?k5 ?kA ?kF ?kK ?k6 ?k7 ?k8 ?k9 ?kB ?_ ?c2 ?c3 ?c4 ?c5; (case kA => exact rfl); (case kF => exact rfl); (case kK => assumption); (case k1 => k_asm); (case k2 => k_asm); (case k3 => k_asm); (case k4 => k_asm); (case k5 => k_asm); (case k6 => k_is); (case k7 => k_is); (case k8 => ktr_room); (case k9 => exact binds_K (by k_in) rfl (by k_is) rfl rfl rfl); (case c5 => decide); (case kB => exact locs rfl); (case c2 => exact rfl); (case c3 => exact rfl); (case c4 => exact rfl); k_whole; intro g' L' h' FG' F' N' B' X' T'; (try dsimp only); (try k_lift B'); (try k_fold))
  replace F' : Fr g' L' h' (fun y => if y = Str.ofString "show" then some (.bool false) else if y = Str.ofString "more_than" then some (.int 2048 tm) else if y = Str.ofString "base" then some (.int 5 t5) else if y = Str.ofString "w" then some (.int I tn) else none) := by
    have e : (fun y => List.lookup y ([(Str.ofString "w", Value.int I tn), (Str.ofString "base", Value.int 5 t5), (Str.ofString "more_than", Value.int 2048 tm), (Str.ofString "show", Value.bool false)].reverse)) = (fun y => if y = Str.ofString "show" then some (.bool false) else if y = Str.ofString "more_than" then some (.int 2048 tm) else if y = Str.ofString "base" then some (.int 5 t5) else if y = Str.ofString "w" then some (.int I tn) else none) := by
      funext y; simp only [List.reverse_cons, List.reverse_nil, List.nil_append, List.cons_append, lookup_if, List.lookup_nil]
    rw [← e]; exact F'
  k_steps
  refine Hold.of ?_
  rename_i d1 h1 led1 l1 hs1 hz1 h2 d2 h3 led2 hs2 hz2 l2 h4 d3 h5 led3 hs3 hz3 l3 h6 o3 hso h7 F0 N0
  obtain ⟨m0, hm0, F0⟩ := Fr.named F0
  have h12 : d1 < d2 := l2.1
  have h23 : d2 < d3 := l3.1
  have h13 : d1 < d3 := l3.2.1
  have hlt : ∀ p ∈ news, p.1 < d3 := lt_of_all l3.2.2
  generalize hled : ((d2, ({ cls := Value.type "set", data := Data.set #[] 0 (SetTable.fresh 0 0 led2) } : Obj)) :: (d1, ({ cls := Value.type "set", data := Data.set #[] 0 (SetTable.fresh 0 0 led1) } : Obj)) :: news) = R0 at N0
  have hR0 : ∀ p ∈ R0, p.1 ≠ d3 := by
    rw [← hled]
    intro p hp
    rcases List.mem_cons.mp hp with rfl | hp
    · exact Nat.ne_of_lt h23
    rcases List.mem_cons.mp hp with rfl | hp
    · exact Nat.ne_of_lt h13
    · exact Nat.ne_of_lt (hlt p hp)
  refine while_D (fun k m' led => (k = 1 → m' = m0 ∧ led = (d3, o3) :: R0) ∧ k ≤ 1 ∧ (k = 0 → ∃ t o, m' = (fun y => if y = Str.ofString "w" then some (.int I t) else m0 y) ∧ led = (d3, o) :: R0 ∧ o.SetObjOf (PySem.intKind PySem.Challenge.rw_to0078_01.row.prog w) (fun _ => false) 0))
    (fun m' led => ∃ t o, m' = (fun y => if y = Str.ofString "w" then some (.int I t) else m0 y) ∧ led = (d3, o) :: R0) 1 F0 N0 ⟨fun _ => ⟨rfl, rfl⟩, Nat.le_refl _, fun h => absurd h (by decide)⟩ ?_ ?_
  · rintro k m' led h tk8 gg dd oo E' ⟨j1, jk, j0⟩ F1 N1
    rcases (show k = 0 ∨ k = 1 by omega) with rfl | rfl
    · obtain ⟨t, o, rfl, rfl, ho⟩ := j0 rfl
      rw [hm0] at F1
      clear F0 N0
      k_steps
      refine Hold.of ?_
      rename News _ _ _ _ => N2
      refine truthy_set0 N2 (.head _) ho ?_
      k_steps
      exact DXEnd.mk (by k_asm) (by k_asm) ⟨t, o, by rw [hm0], rfl⟩
    · obtain ⟨rfl, rfl⟩ := j1 rfl
      rw [hm0] at F1
      clear F0 N0
      k_steps
      refine Hold.of ?_
      rename News _ _ _ _ => N2
      refine truthy_set1 N2 (.head _) hso ?_
      k_steps
      refine Hold.of ?_
      rename News _ _ _ _ => N3
      refine pop_method_K N3 (.head _) hso ?_
      rw [← hled] at N3
      have hm1 := mem_of N3 (.tail _ (.tail _ (.head _)))
      k_steps
      refine pop_K (I := I) (by k_asm) (by k_asm) (UpdF.head (by rw [hled]; exact hR0)) hso (by simp) fun h9 so' t9 d9 F9 N9 hs9 => ?_
      (try dsimp only at N9)
      have hm2 := mem_of N9 (.tail _ (.tail _ (.head _)))
      k_steps
      rename Fr _ _ _ _ => F10
      rename News _ _ _ _ => N10
      exact DEnd.cont (k' := 0) F10 N10 (by decide) ⟨fun h => absurd h (by decide), Nat.zero_le _, fun _ => ⟨t9, so', by rw [hm0], by rw [hled], hs9⟩⟩
  · rintro h tk8 dd8 m' led ⟨t, o, rfl, rfl⟩ F1 N1
    rw [hm0] at F1
    clear F0 N0
    dsimp only at F1
    k_steps
    refine Hold.of ?_
    rename News _ _ _ _ => N2
    rw [← hled] at N2
    refine truthy_set0 N2 (.tail _ (.tail _ (.head _))) hs2 ?_
    k_steps
    rename_i kF kN _ _
    exact hret _ [_, _, _, _] _ _ _ trivial kF kN
end Mine
end
section
theorem Mine.reset_N3 : True := by
  w_top off
  trivial
open PySem PySem.W PyProof.Rows PySem.Calls PyProof.Rows.LCg
namespace Mine
abbrev posI : Pos := ⟨50, 4, 54, 74⟩
abbrev qualI : Str := Str.ofString "_str_to_int_inner.<locals>.inner"
theorem codeHd52 (w : World) (h₀ : Heap) (X : (hd.heap_39 w.params).In h₀) : CodeHd h₀ 52 48 := ⟨_, _, _, _, _, _, _, _, _, X 52 _ rfl, rfl, rfl, rfl, rfl, rfl, rfl, rfl, rfl, by decide⟩
def ConND (w : World) (loose : List Str) (mean : ExcName → Option Value) (mg mb : Str → Option Value) (f : Addr) (k : Nat) (vs : List Value) (P : Addr) (pos : Pos) (qual : Str) (Pre : List (Addr × Obj) → Prop) (R : Tok → Value) : Prop :=
  ∀ (dp un : Nat) (gd : Option (List Code)) (cn : Str) (cs : Scope) (a : Addr) (ccd : Value) (cl : List (Str × Addr)) (outer : List Env) (A₀ : Around) (base h₀ : Heap) (L : Addr) (m : Str → Option Value) (rest : List (Addr × Obj)) (ps : Array Value) (s : Shared) (Q E : Value → Shared → Prop),
    Below A₀ base outer h₀ → Fr h₀ L s.heap m → (hd.heap_39 w.params).In h₀ → News h₀ L s.heap ((P, tabObj ps) :: rest) → Top topProg loose mean mg mb h₀ → cs.kind = .function →
    TabOk P pos qual ps rest → Pre rest → dp + k < recursionLimit → un + 16 * k < cLine →
    (∀ (t : Tok) (own : List (Addr × Obj)) (ps' : Array Value) (h' : Heap) (tk' : Nat) (d' : Drawn), Fr h₀ L h' m → News h₀ L h' (own ++ (P, tabObj ps') :: rest) → TabHit pos qual ps' (own ++ rest) → Q (R t) { s with heap := h', toks := tk', drawn := d' }) →
      wpAny (model PySem.Challenge.rw_to0078_01.row.toRowW.prog w) (ktrTop dp un gd cn cs L a ccd cl outer) (call (.ref f) vs) Q E s
local macro_rules | `(tactic| walk_at "exec FunctionDef") => `(tactic| refine Hold.mk ?_)
local macro_rules | `(tactic| walk_at "call ref") => `(tactic| refine Hold.mk ?_)
local macro_rules | `(tactic| walk_at "call type:int") => `(tactic| refine Hold.mk ?_)
local macro_rules | `(tactic| walk_at "subscriptTail") => `(tactic| refine Hold.mk ?_)
theorem slice_0len (S : Str) : Txt.slice S (some 0) (some (S.length : Int)) = S := by
  have := slice_closesL (x := S) (i := 0) (j := (S.length : Int)) (by decide) (by omega) (Int.le_refl _)
  rw [eq_of_beq this]
  have e : (S.cps.toList).length = S.length := by rw [Array.length_toList]; rfl
  show (⟨((S.cps.toList.drop 0).take ((S.length : Int) - 0).toNat).toArray⟩ : Str) = S
  rw [List.drop_zero, List.take_of_length_le (by omega)]
theorem adjN (n i j : Nat) (h : i ≠ j) : n + i ≠ n + j := by omega
theorem lt_adj {n x i : Nat} (h : x < n) : x ≠ n + i := by omega
theorem inner_c (w : World) (loose : List Str) (mean : ExcName → Option Value) (mg mb : Str → Option Value) (S : Str) (q : Nat) (hS1 : S.length ≤ 640) (hS2 : PySem.intText? S = some ((q : Nat) : Int)) (ts : Tok) :
  ConND w loose mean mg mb 53 6 [.str S ts] 48 posI qualI (fun rest => True) (fun t => .int ((q : Nat) : Int) t) := by
  unfold ConND
  k_fill
  intro dp un gd cn cs a ccd cl outer A₀ base h₀ L m rest ps s Q E BE FE XE NE TE hkE hTab hpE hd1 hd2 hret
  refine wpAny_call ?_
  (k_dflt (refine' code_defC ?k1 ?k2 ?k3 ?k4 ?k5 ?kA ?kF ?kK ?k6 ?k7 ?k8 ?k9 ?kB ?kD ?_ ?c2 ?c3 ?c4; (case kA => exact rfl); (case kF => exact rfl); (case kK => assumption); (case k1 => k_asm); (case k2 => k_asm); (case k3 => k_asm); (case k4 => k_asm); (case k5 => k_asm); (case k6 => k_is); (case k7 => k_is); (case k8 => ktr_room); (case k9 => exact BindsTo.of_eq rfl); (case kB => exact rfl); (case kD => decide +kernel); (case c2 => exact rfl); (case c3 => exact rfl); (case c4 => exact rfl); k_whole; intro g' L' h' tk' cells' FG' F' N' Y' B' X' T' l1; k_cells Y'; (try simp only [List.cons_append, List.nil_append] at N'); (try dsimp only); (try k_lift B'); (try (show wpAny _ _ _ _ _ _; k_fold))))
  replace F' : Fr g' L' h' (fun _ => none) := F'
  have lL := l1
  rename_i oW oI oD oS dW dI dD dS
  replace dW : oW.data = .cell none := dW
  replace dI : oI.data = .cell none := dI
  replace dD : oD.data = .cell none := dD
  replace dS : oS.data = .cell (some (.str S ts)) := dS
  have hCH : CodeHd h₀ 52 48 := codeHd52 w h₀ XE
  have hCH2 := hCH.keeps (fun b o e => FG'.keep b o e)
  have hL : (S.length : Int) ≤ 2000 := by omega
  have hL0 : (0 : Int) ≤ (S.length : Int) := by omega
  have h48 : 48 < L' := lL (48, tabObj ps) (.head _)
  k_steps
  refine storeX_C F' N' (by rfl) (UpdF.tail (adjN L' 4 2 (by decide)) (UpdF.tail (adjN L' 3 2 (by decide)) (UpdF.head fun p hp => ?_))) dD fun h2 oD2 F2 N2 dD2 => ?_
  · rcases List.mem_cons.mp hp with rfl | hp
    · exact adjN L' 1 2 (by decide)
    · exact lt_adj (i := 2) (lL p hp)
  (try dsimp only at N2)
  clear F' N' dD
  k_steps
  refine Hold.of ?_
  refine' nestDef_K ?d0 ?k0 ?a0 ?_; (case d0 => exact rfl); (case k0 => exact rfl); (case a0 => exact rfl)
  refine' nest_both (P := 48) (c := 52) (ps := ps) (rest := rest) (g := fun o => (L' + 1 + 1 + 1 + 1, oW) :: (L' + 1 + 1 + 1, oI) :: (L' + 1 + 1, oD2) :: (L' + 1, oS) :: (48, o) :: rest) ?F ?N ?T ?C ?cd hTab ?U ?gn ?mem ?sub ?t0 ?a0 ?t1 ?a1 ?cl ?_
  (case F => k_asm); (case N => k_asm); (case T => k_asm); (case cd => exact rfl); (case C => exact hCH2); (case gn => exact rfl); (case mem => exact .tail _ (.tail _ (.tail _ (.tail _ (.head _))))); (case sub => exact fun p hp => .tail _ (.tail _ (.tail _ (.tail _ (.tail _ hp)))))
  (case t0 => kn_triples); (case a0 => kn_among); (case t1 => intro c'; kn_triples); (case a1 => intro c'; kn_hit); (case cl => exact rfl)
  case U =>
    intro e hNT
    subst e
    have hNe : ∀ p ∈ rest, p.1 ≠ 48 := fun p hp e => by
      have h1 := (NE p (.tail _ hp)).1
      have h2 := (NE (48, tabObj #[]) (.head _)).1
      rw [e] at h1
      rw [h2] at h1
      exact (hNT p hp).elim (fun h => h e) (fun h => h (Option.some.inj h1).symm)
    exact UpdF.tail (lt_adj (i := 4) h48).symm (UpdF.tail (lt_adj (i := 3) h48).symm (UpdF.tail (lt_adj (i := 2) h48).symm (UpdF.tail (lt_adj (i := 1) h48).symm (UpdF.head hNe))))
  k_whole; intro f' c₁ oc₁ vs₁ ts₁ ct' dc' ps' h' tk' F' N' hocd hvs hTH l1 lc; (try dsimp only at N')
  have hf4 : (f' : Nat) ≠ L' + 4 := Nat.ne_of_gt (l1 _ (.head _))
  have hf3 : (f' : Nat) ≠ L' + 3 := Nat.ne_of_gt (l1 _ (.tail _ (.head _)))
  have hc4 : (c₁ : Nat) ≠ L' + 4 := lc.elim (fun l => Nat.ne_of_gt (l _ (.head _))) (fun hm => lt_adj (i := 4) (lL _ (.tail _ hm)))
  have hc3 : (c₁ : Nat) ≠ L' + 3 := lc.elim (fun l => Nat.ne_of_gt (l _ (.tail _ (.head _)))) (fun hm => lt_adj (i := 3) (lL _ (.tail _ hm)))
  clear lc l1
  refine storeX_C F' N' (by rfl) (UpdF.tail hf3 (UpdF.tail hc3 (UpdF.tail (adjN L' 4 3 (by decide)) (UpdF.head fun p hp => ?_)))) dI fun h3 oI2 F3 N3 dI2 => ?_
  · rcases List.mem_cons.mp hp with rfl | hp
    · exact adjN L' 2 3 (by decide)
    rcases List.mem_cons.mp hp with rfl | hp
    · exact adjN L' 1 3 (by decide)
    rcases List.mem_cons.mp hp with rfl | hp
    · exact lt_adj (i := 3) h48
    exact lt_adj (i := 3) (lL p (.tail _ hp))
  (try dsimp only at N3)
  clear F' N' dI
  have hom := mem_of N3 (.tail _ (.head _))
  k_steps
  refine Hold.of ?_
  rename Fr _ _ _ _ => F4
  rename News _ _ _ _ => N4
  (refine' ConD.use (powers_c w loose mean mg mb S.length (Nat.le_trans hS1 (by decide)) _ _ _) ?k1 ?k2 ?k3 ?k4 ?k5 ?kK ?kp ?kd ?ku ?_; (case k1 => k_asm); (case k2 => exact F4); (case k3 => k_asm); (case k4 => exact N4); (case k5 => k_asm); (case kK => exact rfl); (case kp => trivial); (case kd => ktr_room); (case ku => ktr_units); intro v9 own9 h9 tk9 d9 _ F5 N5; (try dsimp only); (try k_fold))
  have N6 := (fun p hp => N5 p (List.mem_append_right own9 hp) : News _ _ _ _)
  clear N5 F4 N4 hom
  refine storeX_C F5 N6 (by rfl) (UpdF.tail hf4 (UpdF.tail hc4 (UpdF.head fun p hp => ?_))) dW fun h10 oW2 F7 N7 dW2 => ?_
  · rcases List.mem_cons.mp hp with rfl | hp
    · exact adjN L' 3 4 (by decide)
    rcases List.mem_cons.mp hp with rfl | hp
    · exact adjN L' 2 4 (by decide)
    rcases List.mem_cons.mp hp with rfl | hp
    · exact adjN L' 1 4 (by decide)
    rcases List.mem_cons.mp hp with rfl | hp
    · exact lt_adj (i := 4) h48
    exact lt_adj (i := 4) (lL p (.tail _ hp))
  (try dsimp only at N7)
  clear F5 N6 dW
  have hom := mem_of N7 (.tail _ (.head _))
  k_steps
  refine Hold.of ?_
  refine wpAny_call ?_
  k_dflt (refine' code_nest ?k1 ?k2 ?k3 ?k4 ?k5 ?kA ?kF ?kK ?k6 ?k7 ?k8 ?k9 ?kB ?_ ?c2 ?c3 ?c4 ?c5; (case kA => exact rfl); (case kF => exact rfl); (case kK => first | assumption | exact rfl); (case k1 => k_asm); (case k2 => k_asm); (case k3 => k_asm); (case k4 => k_asm); (case k5 => k_asm); (case k6 => k_mem); (case k7 => exact codeRec_news (by k_asm) (by k_mem) (by assumption) (by assumption)); (case k8 => ktr_room); (case k9 => exact BindsTo.of_eq rfl); (case c5 => decide); (case kB => exact locs rfl); (case c2 => exact rfl); (case c3 => exact rfl); (case c4 => exact rfl); k_whole; intro g' L' h' FG' F' N' B' X' T'; (try dsimp only); (try k_lift B'); (try k_fold))
  k_steps
  refine Hold.of ?_
  rw [slice_0len]
  refine KIN.call_text hS2 hS1 ?_
  k_steps
  rename_i kF kN _ _
  refine hret _ [_, _, _, _, _, _] ps' _ _ _ kF kN (hTH.mono fun p hp => ?_)
  rcases List.mem_cons.mp hp with rfl | hp
  · exact .tail _ (.head _)
  · exact List.mem_append_right _ hp
end Mine
end
section
theorem Mine.reset_N4 : True := by
  w_top off
  trivial
open PySem PySem.W PyProof.Rows PySem.Calls PyProof.Rows.LCg
namespace Mine
theorem ConND.use {w : World} {loose : List Str} {mean : ExcName → Option Value} {mg mb : Str → Option Value} {f : Addr} {k : Nat} {vs : List Value} {P : Addr} {pos : Pos} {qual : Str} {Pre : List (Addr × Obj) → Prop} {R : Tok → Value} (C : ConND w loose mean mg mb f k vs P pos qual Pre R)
    {dp un : Nat} {gd : Option (List Code)} {cn : Str} {cs : Scope} {a : Addr} {ccd : Value} {cl : List (Str × Addr)} {outer : List Env} {A₀ : Around} {base h₀ : Heap} {L : Addr} {m : Str → Option Value} {rest : List (Addr × Obj)} {ps : Array Value} {s : Shared} {Q E : Value → Shared → Prop}
    (B : Below A₀ base outer h₀) (F : Fr h₀ L s.heap m) (X : (hd.heap_39 w.params).In h₀) (N : News h₀ L s.heap ((P, tabObj ps) :: rest)) (T : Top topProg loose mean mg mb h₀) (hk : cs.kind = .function) (ht : TabOk P pos qual ps rest) (hp : Pre rest) (hd : dp + k < recursionLimit) (hu : un + 16 * k < cLine)
    (ret : ∀ (t : Tok) (own : List (Addr × Obj)) (ps' : Array Value) (h' : Heap) (tk' : Nat) (d' : Drawn), Fr h₀ L h' m → News h₀ L h' (own ++ (P, tabObj ps') :: rest) → TabHit pos qual ps' (own ++ rest) → Q (R t) { s with heap := h', toks := tk', drawn := d' }) :
    wpAny (model PySem.Challenge.rw_to0078_01.row.toRowW.prog w) (ktrTop dp un gd cn cs L a ccd cl outer) (call (.ref f) vs) Q E s := C _ _ _ _ _ _ _ _ _ _ _ _ _ _ _ _ _ _ _ B F X N T hk ht hp hd hu ret
theorem ConN.use {w : World} {loose : List Str} {mean : ExcName → Option Value} {mg mb : Str → Option Value} {f : Addr} {k : Nat} {vs : List Value} {P : Addr} {pos : Pos} {qual : Str} {Pre : List (Addr × Obj) → Prop} {R : Tok → Value} (C : ConN w loose mean mg mb f k vs P pos qual Pre R)
    {dp un : Nat} {gd : Option (List Code)} {cn : Str} {cs : Scope} {a : Addr} {ccd : Value} {cl : List (Str × Addr)} {outer : List Env} {A₀ : Around} {base h₀ : Heap} {L : Addr} {m : Str → Option Value} {rest : List (Addr × Obj)} {ps : Array Value} {s : Shared} {Q E : Value → Shared → Prop}
    (B : Below A₀ base outer h₀) (F : Fr h₀ L s.heap m) (X : (hd.heap_39 w.params).In h₀) (N : News h₀ L s.heap ((P, tabObj ps) :: rest)) (T : Top topProg loose mean mg mb h₀) (hk : cs.kind = .function) (ht : TabOk P pos qual ps rest) (hp : Pre rest) (hd : dp + k < recursionLimit) (hu : un + 16 * k < cLine)
    (ret : ∀ (t : Tok) (own : List (Addr × Obj)) (ps' : Array Value) (h' : Heap) (tk' : Nat), Fr h₀ L h' m → News h₀ L h' (own ++ (P, tabObj ps') :: rest) → TabHit pos qual ps' (own ++ rest) → Q (R t) { s with heap := h', toks := tk' }) :
    wpAny (model PySem.Challenge.rw_to0078_01.row.toRowW.prog w) (ktrTop dp un gd cn cs L a ccd cl outer) (call (.ref f) vs) Q E s := C _ _ _ _ _ _ _ _ _ _ _ _ _ _ _ _ _ _ _ B F X N T hk ht hp hd hu ret
theorem str_of_list {x : Str} {l : List Nat} (h : x.cps.toList = l) : x = tx l := by
  rw [← h]; unfold tx; simp
theorem digit_solid : ∀ k, k < 10 → Unicode.isSpace (48 + k) = false := by decide +kernel
theorem replace_num (q : Nat) : Txt.replace (tx (numL q)) (Str.ofString "_") (Str.ofString "") = tx (dg (q / 10) ++ dg (q % 10)) := by
  apply str_of_list
  have h := replace_strikes (tx (numL q)) 95
  have e1 : (tx (numL q)).cps.toList = numL q := by unfold tx; simp
  have hd9 : ∀ k : Nat, 95 ∉ dg k := fun k hm => by have := dg_digits k 95 hm; omega
  rw [e1] at h
  show (Txt.replace (tx (numL q)) ⟨#[95]⟩ ⟨#[]⟩).cps.toList = _
  rw [h]
  unfold numL
  rw [List.filter_append, List.filter_append, filter_free _ _ (hd9 _), filter_free _ _ (hd9 _)]
  simp
local macro_rules | `(tactic| walk_at "call ref") => `(tactic| refine Hold.mk ?_)
local macro_rules | `(tactic| walk_at "call builtin:str.rstrip") => `(tactic| refine Hold.mk ?_)
theorem tok_gen {α : Type} {M : Model} {A : Around} {t : Sem α} {Q : α → Shared → Prop} {E : Value → Shared → Prop} {hp : Heap} {g : Array GenState} {d : Drawn} {k : Nat} {os : OsState} (hk : 0 < k) (h : ∀ k0, 0 < k0 → wpAny M A t Q E ⟨hp, g, d, k0, os⟩) : wpAny M A t Q E ⟨hp, g, d, k, os⟩ := h k hk
theorem same_num (q : Nat) : stripSame Unicode.isSpace false true (tx (numL q)) = true := by
  have hl : numL q = (dg (q / 10) ++ [95]) ++ [48 + q % 10] := by unfold numL; rw [dg_small (q % 10) (Nat.mod_lt _ (by decide))]
  have e1 : (tx (numL q)).cps.toList = numL q := by unfold tx; simp
  unfold stripSame
  rw [Bool.and_eq_true, beq_iff_eq, beq_iff_eq]
  refine ⟨rfl, ?_⟩
  show (tx (numL q)).length - (((tx (numL q)).cps.toList.drop 0).reverse.takeWhile Unicode.isSpace).length = (tx (numL q)).length
  rw [e1, List.drop_zero, hl, List.reverse_append, List.reverse_singleton, List.singleton_append, List.takeWhile_cons, digit_solid _ (Nat.mod_lt _ (by decide))]
  rfl
section
variable {prog : Program} {w : World} {A : Around} {E : Value → Shared → Prop} {s : Shared}
theorem rstrip_keep {x : Str} {t : Tok} {Q : Value → Shared → Prop} (h : stripSame Unicode.isSpace false true x = true) (hq : Q (.str x t) s) : wpAny (model prog w) A (call (.builtin "str.rstrip") [.str x t]) Q E s :=
  call_gives F.slot_str_rstrip (typeIs_str _ _ _) F.entry_str_rstrip (F.args_str_rstrip_1 _) (gives_strip_space "rstrip" false true x t) (by rw [if_pos h]; exact hq)
end
local macro_rules | `(tactic| walk_at "call builtin:str.replace") => `(tactic| refine Hold.mk ?_)
theorem strnum_c (w : World) (loose : List Str) (mean : ExcName → Option Value) (mg mb : Str → Option Value) (q : Nat) (hq : q < 65536) (ts : Tok) :
  ConND w loose mean mg mb 60 7 [.str (tx (numL q)) ts] 48 posI qualI (fun rest => True) (fun t => .int ((q : Nat) : Int) t) := by
  unfold ConND
  k_fill
  intro dp un gd cn cs a ccd cl outer A₀ base h₀ L m rest ps s Q E BE FE XE NE TE hkE hTab hpE hd1 hd2 hret
  have hln : (tx (numL q)).length ≤ 20 := by rw [tx_length]; exact numL_len q hq
  refine wpAny_call ?_
  k_dflt cell_enter
  refine tok_gen ?hk0 fun k0 hk0 => ?_
  case hk0 => exact Nat.succ_pos s.toks
  k_steps
  refine Hold.of ?_
  refine rstrip_keep (same_num q) ?_
  k_steps
  refine Hold.of ?_
  refine SC.replaceW (Nat.pos_iff_ne_zero.mp hk0) (Nat.succ_ne_zero _) (Nat.ne_of_lt (Nat.lt_succ_self _)) (by decide) (by omega) (by decide) ?_
  intro t9 k9
  rw [replace_num]
  k_steps
  refine Hold.of ?_
  have hln2 : (tx (dg (q / 10) ++ dg (q % 10))).length ≤ 640 := by
    rw [tx_length, List.length_append]
    have h1 := numL_len q hq
    unfold numL at h1
    rw [List.length_append, List.length_append] at h1
    omega
  rename News _ _ _ _ => N9
  (refine' ConND.use (inner_c w loose mean mg mb _ q hln2 (num_text q hq) _) ?k1 ?k2 ?k3 ?k4 ?k5 ?kK ?kt ?kp ?kd ?ku ?_; (case k1 => k_asm); (case k2 => k_asm); (case k3 => k_asm); (case k4 => exact N9); (case k5 => k_asm); (case kK => exact rfl); (case kt => exact hTab); (case kp => trivial); (case kd => ktr_room); (case ku => ktr_units); intro t5 own5 ps5 h5 tk5 d5 F5 N5 hit5; (try dsimp only); (try k_fold))
  k_steps
  rename_i kF kN _ _
  exact hret _ own5 ps5 _ _ _ kF kN hit5
end Mine
end
section
open PySem PySem.W PyProof.Rows PySem.Calls PyProof.Rows.LCg
namespace Mine
section
variable {prog : Program} {w : World} {A : Around} {E : Value → Shared → Prop} {s : Shared} {z TI TO i1 i2 : Addr} {fp1 fp2 : List Addr} {n : Nat} {P1 P2 : Nat → Value → Prop} {St1 St2 : Nat → Heap → Prop}
/-- The addresses of a zip over two sources lie apart. -/
structure ZAp (z TI TO i1 i2 : Addr) (fp1 fp2 : List Addr) : Prop where
  TIz : TI ≠ z
  TOz : TO ≠ z
  TITO : TI ≠ TO
  TI1 : TI ≠ i1
  TI2 : TI ≠ i2
  z1 : z ∉ fp1
  z2 : z ∉ fp2
  O1 : TO ∉ fp1
  O2 : TO ∉ fp2
  m1 : i1 ∈ fp1
  m2 : i2 ∈ fp2
  x12 : i1 ∉ fp2
  x21 : i2 ∉ fp1
def ZSt (z TI TO i1 i2 : Addr) (St1 St2 : Nat → Heap → Prop) (f0 : Value) (i : Nat) (h : Heap) : Prop := IsZip h z TI TO f0 ∧ IsPair h TI (.ref i1) (.ref i2) ∧ (∃ a b, IsPair h TO a b) ∧ St1 i h ∧ St2 i h
theorem zipD_item {i : Nat} (D1 : Draws prog w A i1 fp1 n P1 St1) (D2 : Draws prog w A i2 fp2 n P2 St2) (D : ZAp z TI TO i1 i2 fp1 fp2) {Q : Value → Shared → Prop} (hi : i < n)
    (hst : ZSt z TI TO i1 i2 St1 St2 .none i s.heap)
    (hQ : ∀ h' tk x y, P1 i x → P2 i y → ZSt z TI TO i1 i2 St1 St2 (rawInt s.heap.objs.size) (i + 1) h' → IsPair h' s.heap.objs.size x y →
      (∀ c o, c ∉ [z, TO, i1, i2] → s.heap.get? c = some o → h'.get? c = some o) → Q (.ref s.heap.objs.size) { s with heap := h', toks := tk }) :
    wpAny (model prog w) A (Builtin.«zip.__next__» ⟨[.ref z], []⟩) (fun fin s' => ∃ v, fin = .done (.ret v) ∧ Q v s') E s := by
  obtain ⟨hz, hTI, ⟨a, b, hTO⟩, h1, h2⟩ := hst
  have ne1 : ∀ {c}, c ∈ fp1 → c ≠ z ∧ c ≠ TO ∧ c ≠ i2 := fun {c} hc => ⟨fun e => D.z1 (e ▸ hc), fun e => D.O1 (e ▸ hc), fun e => D.x21 (e ▸ hc)⟩
  have ne2 : ∀ {c}, c ∈ fp2 → c ≠ z ∧ c ≠ TO ∧ c ≠ i1 := fun {c} hc => ⟨fun e => D.z2 (e ▸ hc), fun e => D.O2 (e ▸ hc), fun e => D.x12 (e ▸ hc)⟩
  have q1 := ne1 D.m1
  have q2 := ne2 D.m2
  show wpAny _ _ (field (.ref z) 2 >>= _) _ _ _
  refine wpAny_bind (wpAny_field hz rfl (x := .bool false) rfl ?_)
  show wpAny _ _ (field (.ref z) 3 >>= _) _ _ _
  refine wpAny_bind (wpAny_field hz rfl (x := .ref TI) rfl ?_)
  refine wpAny_bind (wpAny_seqItems hTI rfl ?_)
  show wpAny _ _ (Builtin.SmallTypes.ownedTupleIsFree (.ref z) >>= _) _ _ _
  refine wpAny_bind ?_
  unfold Builtin.SmallTypes.ownedTupleIsFree
  refine wpAny_bind (wpAny_field hz rfl (x := .none) rfl (wpAny_pure ?_))
  simp only [if_true]
  refine wpAny_bind (wpAny_rule ?_)
  refine wpAny_bind (wpAny_field hz rfl (x := .ref TO) rfl ?_)
  refine wpAny_bind (wpAny_setField_rec hz (by simp) fun h₁ hz₁ hs₁ => ?_)
  replace hz₁ : IsZip h₁ z TI TO .ellipsis := hz₁
  refine wpAny_bind ?_
  simp only [List.zipIdx_cons, List.zipIdx_nil, List.forIn_cons, List.forIn_nil]
  refine wpAny_bind (wpAny_bind (wpAny_onRaise ?_))
  show wpAny _ _ (Builtin.SmallTypes.nextOf (.ref i1) >>= _) _ _ _
  have h1₁ : St1 i h₁ := D1.frame _ _ _ h1 fun c hc o e => hs₁.extBut c o (ne1 hc).1 e
  have h2₁ : St2 i h₁ := D2.frame _ _ _ h2 fun c hc o e => hs₁.extBut c o (ne2 hc).1 e
  refine wpAny_bind (D1.item i { s with heap := h₁ } _ _ hi h1₁ fun x h₂ tk₂ hx h1₂ hs₂ => wpAny_pure ?_)
  have hTO₂ : IsPair h₂ TO a b := hs₂.extBut _ _ q1.2.1.symm (hs₁.extBut _ _ D.TOz hTO)
  refine wpAny_bind (wpAny_seqItems hTO₂ rfl ?_)
  refine wpAny_bind (wpAny_updateSeq_pair hTO₂ fun h₃ hTO₃ hs₃ => ?_)
  replace hTO₃ : IsPair h₃ TO x b := hTO₃
  refine wpAny_bind (wpAny_letGo (wpAny_pure ?_))
  refine wpAny_bind (wpAny_bind (wpAny_onRaise ?_))
  show wpAny _ _ (Builtin.SmallTypes.nextOf (.ref i2) >>= _) _ _ _
  have h2₃ : St2 i h₃ := D2.frame _ _ _ h2₁ fun c hc o e => hs₃.extBut c o (ne2 hc).2.1 (hs₂.extBut c o (ne2 hc).2.2 e)
  refine wpAny_bind (D2.item i { s with heap := h₃, toks := tk₂ } _ _ hi h2₃ fun y h₄ tk₄ hy h2₄ hs₄ => wpAny_pure ?_)
  have hTO₄ : IsPair h₄ TO x b := hs₄.extBut _ _ q2.2.1.symm hTO₃
  refine wpAny_bind (wpAny_seqItems hTO₄ rfl ?_)
  refine wpAny_bind (wpAny_updateSeq_pair hTO₄ fun h₅ hTO₅ hs₅ => ?_)
  replace hTO₅ : IsPair h₅ TO x y := hTO₅
  refine wpAny_bind (wpAny_letGo (wpAny_pure (wpAny_pure ?_)))
  refine wpAny_bind (wpAny_seqItems hTO₅ rfl ?_)
  refine wpAny_bind (wpAny_newTuple ?_)
  have hsz : h₅.objs.size = s.heap.objs.size := by rw [hs₅.1, hs₄.1, hs₃.1, hs₂.1, hs₁.1]
  have hz₅ : IsZip h₅ z TI TO .ellipsis := hs₅.extBut _ _ D.TOz.symm (hs₄.extBut _ _ q2.1.symm (hs₃.extBut _ _ D.TOz.symm (hs₂.extBut _ _ q1.1.symm hz₁)))
  have hk₅ : ∀ c o, c ≠ z → c ≠ TO → c ≠ i1 → c ≠ i2 → s.heap.get? c = some o → h₅.get? c = some o := fun c o c1 c2 c3 c4 e =>
    hs₅.extBut _ _ c2 (hs₄.extBut _ _ c4 (hs₃.extBut _ _ c2 (hs₂.extBut _ _ c3 (hs₁.extBut _ _ c1 e))))
  have h1₅ : St1 (i + 1) h₅ := D1.frame _ _ _ h1₂ fun c hc o e => hs₅.extBut c o (ne1 hc).2.1 (hs₄.extBut c o (ne1 hc).2.2 (hs₃.extBut c o (ne1 hc).2.1 e))
  have h2₅ : St2 (i + 1) h₅ := D2.frame _ _ _ h2₄ fun c hc o e => hs₅.extBut c o (ne2 hc).2.1 e
  have hzlt : z < h₅.objs.size := Heap.lt_size hz₅
  show wpAny _ _ (Builtin.SmallTypes.ownedTupleHandOut (.ref z) (.ref h₅.objs.size) >>= _) _ _ _
  refine wpAny_bind ?_
  unfold Builtin.SmallTypes.ownedTupleHandOut
  have hz₆ : IsZip (h₅.push { cls := .type "tuple", data := .seq #[x, y] }) z TI TO .ellipsis := Heap.get?_push_of_some _ hz₅
  refine wpAny_bind (wpAny_setField_rec hz₆ (by simp) fun h₇ hz₇ hs₇ => ?_)
  replace hz₇ : IsZip h₇ z TI TO (rawInt h₅.objs.size) := hz₇
  refine wpAny_setField_rec hz₇ (by simp) fun h₈ hz₈ hs₈ => ?_
  replace hz₈ : IsZip h₈ z TI TO (rawInt h₅.objs.size) := hz₈
  have up : ∀ c o, c ≠ z → h₅.get? c = some o → h₈.get? c = some o := fun c o c1 e => hs₈.extBut _ _ c1 (hs₇.extBut _ _ c1 (Heap.get?_push_of_some _ e))
  have hT₈ : IsPair h₈ h₅.objs.size x y := hs₈.extBut _ _ (Nat.ne_of_gt hzlt) (hs₇.extBut _ _ (Nat.ne_of_gt hzlt) (Heap.get?_push_size _ rfl))
  rw [hsz] at hz₈ hT₈
  refine wpAny_pure ⟨_, rfl, ?_⟩
  show Q (.ref h₅.objs.size) _
  rw [hsz]
  refine hQ h₈ tk₄ x y hx hy ⟨hz₈, up _ _ D.TIz (hk₅ _ _ D.TIz D.TITO D.TI1 D.TI2 hTI), ⟨_, _, up _ _ D.TOz hTO₅⟩, D1.frame _ _ _ h1₅ fun c hc o e => up c o (ne1 hc).1 e, D2.frame _ _ _ h2₅ fun c hc o e => up c o (ne2 hc).1 e⟩ hT₈ fun c o hc e => ?_
  simp only [List.mem_cons, List.not_mem_nil, or_false, not_or] at hc
  exact up c o hc.1 (hk₅ c o hc.1 hc.2.1 hc.2.2.1 hc.2.2.2 e)
theorem zipD_end (hh : A.handled = none) (D1 : Draws prog w A i1 fp1 n P1 St1) (D2 : Draws prog w A i2 fp2 n P2 St2) (D : ZAp z TI TO i1 i2 fp1 fp2) {Q : Fin → Shared → Prop}
    (hst : ZSt z TI TO i1 i2 St1 St2 .none n s.heap)
    (hE : ∀ h' e, (∀ c o, c ∉ [z, TO, i1, i2] → s.heap.get? c = some o → h'.get? c = some o) → (∃ o, h'.get? e = some o ∧ o.cls = .type "StopIteration") → E (.ref e) { s with heap := h' }) :
    wpAny (model prog w) A (Builtin.«zip.__next__» ⟨[.ref z], []⟩) Q E s := by
  obtain ⟨hz, hTI, ⟨a, b, hTO⟩, h1, h2⟩ := hst
  have ne1 : ∀ {c}, c ∈ fp1 → c ≠ z ∧ c ≠ TO ∧ c ≠ i2 := fun {c} hc => ⟨fun e => D.z1 (e ▸ hc), fun e => D.O1 (e ▸ hc), fun e => D.x21 (e ▸ hc)⟩
  show wpAny _ _ (field (.ref z) 2 >>= _) _ _ _
  refine wpAny_bind (wpAny_field hz rfl (x := .bool false) rfl ?_)
  show wpAny _ _ (field (.ref z) 3 >>= _) _ _ _
  refine wpAny_bind (wpAny_field hz rfl (x := .ref TI) rfl ?_)
  refine wpAny_bind (wpAny_seqItems hTI rfl ?_)
  show wpAny _ _ (Builtin.SmallTypes.ownedTupleIsFree (.ref z) >>= _) _ _ _
  refine wpAny_bind ?_
  unfold Builtin.SmallTypes.ownedTupleIsFree
  refine wpAny_bind (wpAny_field hz rfl (x := .none) rfl (wpAny_pure ?_))
  simp only [if_true]
  refine wpAny_bind (wpAny_rule ?_)
  refine wpAny_bind (wpAny_field hz rfl (x := .ref TO) rfl ?_)
  refine wpAny_bind (wpAny_setField_rec hz (by simp) fun h₁ hz₁ hs₁ => ?_)
  replace hz₁ : IsZip h₁ z TI TO .ellipsis := hz₁
  refine wpAny_bind ?_
  simp only [List.zipIdx_cons, List.zipIdx_nil, List.forIn_cons, List.forIn_nil]
  refine wpAny_bind (wpAny_bind (wpAny_onRaise ?_))
  show wpAny _ _ (Builtin.SmallTypes.nextOf (.ref i1) >>= _) _ _ _
  have h1₁ : St1 n h₁ := D1.frame _ _ _ h1 fun c hc o e => hs₁.extBut c o (ne1 hc).1 e
  refine wpAny_bind (D1.done { s with heap := h₁ } _ _ h1₁ fun h₂ e hs₂ he => ?_)
  obtain ⟨oe, hoe, hce⟩ := he
  have hz₂ : IsZip h₂ z TI TO .ellipsis := hs₂ _ _ (ne1 D.m1).1.symm hz₁
  have hez : e ≠ z := fun x => by subst x; rw [hz₂] at hoe; cases hoe; simp at hce
  refine wpAny_setField_rec hz₂ (by simp) fun h₃ _ hs₃ => hE h₃ e (fun c o hc x => ?_) ⟨oe, hs₃.extBut _ _ hez hoe, hce⟩
  simp only [List.mem_cons, List.not_mem_nil, or_false, not_or] at hc
  exact hs₃.extBut _ _ hc.1 (hs₂ _ _ hc.2.2.1 (hs₁.extBut _ _ hc.1 x))
theorem WalksT.zipD (hh : A.handled = none) (D1 : Draws prog w A.in1 i1 fp1 n P1 St1) (D2 : Draws prog w A.in1 i2 fp2 n P2 St2) (D : ZAp z TI TO i1 i2 fp1 fp2) :
    WalksT prog w A z ([z, TI, TO] ++ fp1 ++ fp2) [z, TO, i1, i2, TI] n (fun i vals => ∃ x y, P1 i x ∧ P2 i y ∧ vals = #[x, y]) (fun i h => ZSt z TI TO i1 i2 St1 St2 .none i h)
      (fun i T h => ZSt z TI TO i1 i2 St1 St2 (rawInt T) (i + 1) h ∧ T ∉ [z, TO, i1, i2, TI]) where
  sub := fun c hc => by
    simp only [List.mem_cons, List.not_mem_nil, or_false] at hc
    rcases hc with rfl | rfl | rfl | rfl | rfl
    · simp
    · simp
    · exact List.mem_append_left _ (List.mem_append_right _ D.m1)
    · exact List.mem_append_right _ D.m2
    · simp
  frame := fun i h h' hst hk => by
    obtain ⟨hz, hTI, ⟨a, b, hTO⟩, h1, h2⟩ := hst
    exact ⟨hk z (by simp) _ hz, hk TI (by simp) _ hTI, ⟨a, b, hk TO (by simp) _ hTO⟩, D1.frame _ _ _ h1 fun c hc o e => hk c (List.mem_append_left _ (List.mem_append_right _ hc)) o e, D2.frame _ _ _ h2 fun c hc o e => hk c (List.mem_append_right _ hc) o e⟩
  item := fun i s Q E hi hst hQ => by
    have hT : s.TypeIs (.ref z) "zip" := ⟨_, hst.1, rfl⟩
    have live1 := D1.live _ _ hst.2.2.2.1
    have live2 := D2.live _ _ hst.2.2.2.2
    obtain ⟨_, _, hTOe⟩ := hst.2.2.1
    have hzl := Heap.lt_size hst.1
    unfold pyNext
    refine wpAny_bind (wpAny_attempt (wpAny_callSpecial?_slot (name := Str.ofString "__next__") hT F.slot_zip_next
      (wpAny_call_entry F.slot_zip_next hT F.entry_zip_next (zipD_item D1 D2 D hi hst fun h' tk x y hx hy st' hT' hk => wpAny_pure (hQ s.heap.objs.size #[x, y] h' tk ⟨x, y, hx, hy, rfl⟩ (Nat.le_refl _) ⟨_, hT', rfl, _, rfl⟩ ⟨st', fun hm => ?_⟩ fun c o hc e => hk c o (fun hm => hc (by simp only [List.mem_cons, List.not_mem_nil, or_false] at hm ⊢; rcases hm with h | h | h | h <;> simp [h])) e)) (F.args_zip_next_1 _))))
    simp only [List.mem_cons, List.not_mem_nil, or_false] at hm
    rcases hm with e | e | e | e | e
    · exact Nat.lt_irrefl _ (e ▸ hzl)
    · exact Nat.lt_irrefl _ (e ▸ Heap.lt_size hTOe)
    · obtain ⟨o, e2⟩ := live1; exact Nat.lt_irrefl _ (e ▸ Heap.lt_size e2)
    · obtain ⟨o, e2⟩ := live2; exact Nat.lt_irrefl _ (e ▸ Heap.lt_size e2)
    · exact Nat.lt_irrefl _ (e ▸ Heap.lt_size hst.2.1)
  go := fun elts k pos i T s Q E hm hQ => by
    obtain ⟨⟨hz, hTI, ⟨a, b, hTO⟩, h1, h2⟩, _⟩ := hm
    refine wpAny_letOwnedTupleGo_zip hz fun h' hz' hs' => hQ h' ⟨hz', hs'.extBut _ _ D.TIz hTI, ⟨a, b, hs'.extBut _ _ D.TOz hTO⟩, D1.frame _ _ _ h1 fun c hc o e => hs'.extBut c o (fun q => D.z1 (q ▸ hc)) e, D2.frame _ _ _ h2 fun c hc o e => hs'.extBut c o (fun q => D.z2 (q ▸ hc)) e⟩ fun c o hc e => hs'.extBut _ _ (fun x => hc (by simp [x])) e
  apart := fun i T h hm hT => hm.2 hT
  done := fun s Q E hst hQ => by
    have hT : s.TypeIs (.ref z) "zip" := ⟨_, hst.1, rfl⟩
    unfold pyNext
    refine wpAny_bind (wpAny_attempt (wpAny_callSpecial?_slot (name := Str.ofString "__next__") hT F.slot_zip_next
      (wpAny_call_entry F.slot_zip_next hT F.entry_zip_next (zipD_end (A := A.in1) hh D1 D2 D hst fun h' e hk he => ?_) (F.args_zip_next_1 _))))
    obtain ⟨o, ho, hc⟩ := he
    refine wpAny_bind (wpAny_isInstance (T := "StopIteration") (b := true) ⟨o, ho, hc⟩ isSubtype_stop ?_)
    exact wpAny_pure (hQ _ s.toks fun c o hc e => hk c o (fun hm => hc (by simp only [List.mem_cons, List.not_mem_nil, or_false] at hm ⊢; rcases hm with h | h | h | h <;> simp [h])) e)
  self := fun i s Q E hst hQ => wpAny_pyIter_zip hst.1 hQ
end
abbrev zl1 (h : Heap) (l : Addr) : Heap := h.push { cls := .type "list_iterator", data := .fields #[.ref l, .int 0 0] }
abbrev zl2 (h : Heap) (l : Addr) (x : Str) (t : Tok) : Heap := (zl1 h l).push { cls := .type "str_ascii_iterator", data := .fields #[.str x t, .int 0 0] }
abbrev zl3 (h : Heap) (l : Addr) (x : Str) (t : Tok) : Heap := (zl2 h l x t).push { cls := .type "tuple", data := .seq #[.ref h.objs.size, .ref (zl1 h l).objs.size] }
abbrev zl4 (h : Heap) (l : Addr) (x : Str) (t : Tok) : Heap := (zl3 h l x t).push { cls := .type "tuple", data := .seq #[.none, .none] }
abbrev zl5 (h : Heap) (l : Addr) (x : Str) (t : Tok) : Heap := (zl4 h l x t).push { cls := .type "zip", data := .fields #[.none, .bool false, .bool false, .ref (zl2 h l x t).objs.size, .ref (zl3 h l x t).objs.size] }
theorem meets_zip_ls (l : Addr) (xs : Array Value) (x : Str) (t : Tok) (ha : x.cps.all (· < 128) = true) :
    Meets (Builtin.«zip.__new__» ⟨[.type "zip", .ref l, .str x t], []⟩) (fun _ R s => s.heap.IsList l xs ∧
      R (.ok (.ret (.ref (zl4 s.heap l x t).objs.size))) { s with heap := zl5 s.heap l x t }) :=
  .of_wp fun prog w A R s h => by
    obtain ⟨hp, g, d, tk, os⟩ := s; obtain ⟨hl1, h⟩ := h
    have hsub := sub_zip
    have hL1 : Heap.IsList (Shared.heap ⟨hp, g, d, tk, os⟩) l xs := hl1
    wp_walk using wpAny_pyIter_list hL1, wpAny_pyIter_ascii ha
    exact ⟨_, rfl, h⟩
section
variable {prog : Program} {w : World} {A : Around} {E : Value → Shared → Prop} {s : Shared} {h₀ : Heap} {L : Addr} {m : Str → Option Value} {env : Env}
theorem call_zip_ls {l : Addr} {xs : Array Value} {x : Str} {t : Tok} {Q : Value → Shared → Prop} (ha : x.cps.all (· < 128) = true) (hl : s.heap.IsList l xs)
    (h : ∀ h', ZSt (s.heap.objs.size + 4) (s.heap.objs.size + 2) (s.heap.objs.size + 3) s.heap.objs.size (s.heap.objs.size + 1) (fun i h => h.IsListIter s.heap.objs.size l i ∧ h.IsList l xs) (fun i h => h.IsStrIter (s.heap.objs.size + 1) "str_ascii_iterator" x t i) .none 0 h' →
      h'.objs.size = s.heap.objs.size + 5 → (∀ c o, s.heap.get? c = some o → h'.get? c = some o) → Q (.ref (s.heap.objs.size + 4)) { s with heap := h' }) :
    wpAny (model prog w) A (call (.type "zip") [.ref l, .str x t]) Q E s := by
  refine callType_new F.called_zip (by decide) (F.typeCall_zip_2 _ _) (F.newCall_zip_2 _ _) (fun obj => F.args_object_init_3 obj _ _) F.entry_zip_new
    (meets_zip_ls l xs x t ha) ⟨hl, ?_⟩
  have z1 : (zl1 s.heap l).objs.size = s.heap.objs.size + 1 := Heap.size_push ..
  have z2 : (zl2 s.heap l x t).objs.size = s.heap.objs.size + 2 := by rw [Heap.size_push, z1]
  have z3 : (zl3 s.heap l x t).objs.size = s.heap.objs.size + 3 := by rw [Heap.size_push, z2]
  have z4 : (zl4 s.heap l x t).objs.size = s.heap.objs.size + 4 := by rw [Heap.size_push, z3]
  have z5 : (zl5 s.heap l x t).objs.size = s.heap.objs.size + 5 := by rw [Heap.size_push, z4]
  have up : ∀ c o, s.heap.get? c = some o → (zl5 s.heap l x t).get? c = some o := fun c o e => Heap.get?_push_of_some _ (Heap.get?_push_of_some _ (Heap.get?_push_of_some _ (Heap.get?_push_of_some _ (Heap.get?_push_of_some _ e))))
  have g5 : (zl5 s.heap l x t).get? (s.heap.objs.size + 4) = some _ := push_at z4 rfl
  have g4 : (zl5 s.heap l x t).get? (s.heap.objs.size + 3) = some _ := Heap.get?_push_of_some _ (push_at z3 rfl)
  have g3 : (zl5 s.heap l x t).get? (s.heap.objs.size + 2) = some _ := Heap.get?_push_of_some _ (Heap.get?_push_of_some _ (push_at z2 rfl))
  have g2 : (zl5 s.heap l x t).get? (s.heap.objs.size + 1) = some _ := Heap.get?_push_of_some _ (Heap.get?_push_of_some _ (Heap.get?_push_of_some _ (push_at z1 rfl)))
  have g1 : (zl5 s.heap l x t).get? s.heap.objs.size = some _ := Heap.get?_push_of_some _ (Heap.get?_push_of_some _ (Heap.get?_push_of_some _ (Heap.get?_push_of_some _ (push_at rfl rfl))))
  rw [z2, z3] at g5
  rw [z1] at g3
  show _ ∧ _
  rw [z4]
  exact ⟨⟨_, g5, rfl⟩, h _ ⟨g5, g3, ⟨_, _, g4⟩, ⟨⟨_, g1, rfl, rfl⟩, hl.at fun o e => up l o e⟩, ⟨_, g2, rfl, rfl⟩⟩ z5 up⟩
end
end Mine
end
section
open PySem PySem.W PyProof.Rows PySem.Calls PyProof.Rows.LCg
namespace Mine
section
variable {prog : Program} {w : World} {A : Around} {E : Value → Shared → Prop} {s : Shared} {h₀ : Heap} {L : Addr} {m : Str → Option Value} {env : Env}
/-- zip(a list, a text) as a comprehension's source. -/
theorem zip_M {x y : Str} {px py tp : Pos} {k : Nat} {ifs : List Expr} {elt : Expr} {scope : Scope} {cl : List (Str × Addr)} {Fin : Shared → Value → Heap → Array GenState → Nat → List (Addr × Obj) → Prop} {news : List (Addr × Obj)} {Rel : Nat → List Value → Prop} {l : Addr} {its : Array Value} {z : Str} {t : Tok}
    (ha : z.cps.all (· < 128) = true) (hn : z.cps.size = its.size) (hh : A.handled = none) (F : Fr h₀ L s.heap m) (N : News h₀ L s.heap news) (S : SrcAt h₀ l its news) (hkind : scope.kind = .function) (hx : scope.names.lookup x = some .local) (hy : scope.names.lookup y = some .local) (hxy : x ≠ y) (hsz : its.size ≤ sizeLine) (h0 : Rel 0 [])
    (body : BodyM prog w A h₀ L m env ifs elt scope cl news s.drawn s.os its.size (fun i m₂ => ∃ a b, (its[i]? = some a ∧ ∃ c u, z.cps[i]? = some c ∧ b = .str ⟨#[c]⟩ u) ∧ m₂ x = some a ∧ m₂ y = some b) Rel) (fin : FinM h₀ L m s Fin its.size Rel news) :
    wpAny (model prog w) A (call (.type "zip") [.ref l, .str z t]) (fun xv s₁ => wpAny (model prog w) A (pyIter xv) (SrcM prog w A h₀ L m env (.Tuple [.Name x px, .Name y py] k tp) ifs elt scope cl Fin) E s₁) E s := by
  have hl := S.list F.keep N
  have hlt : l < s.heap.objs.size := by obtain ⟨_, e, _⟩ := hl; exact Heap.lt_size e
  refine call_zip_ls ha hl fun h' hst hz hk => ?_
  refine wpAny_pyIter_zip hst.1 ?_
  have D1 := Draws.list (prog := prog) (w := w) (A := A.in1) hh s.heap.objs.size l (Nat.ne_of_lt hlt) its
  have D2 := Draws.strAscii (prog := prog) (w := w) (A := A.in1) hh (s.heap.objs.size + 1) z t
  rw [hn] at D2
  refine srcM_pair (s := s) (hp := s.heap) (WalksT.zipD hh D1 D2 ?_) hh (R := fun i a b => its[i]? = some a ∧ ∃ c u, z.cps[i]? = some c ∧ b = .str ⟨#[c]⟩ u)
    (fun i vals _ hp => ?_) hkind hx hy hxy hsz (fun i h st b hb => ?_) hst (fun b hb => ?_) F N hk (fun b hb => ?_) (fun b hb hbw => ?_) h0 body fin
  · generalize s.heap.objs.size = D at *
    have e : ∀ {i j : Nat}, i ≠ j → D + i ≠ D + j := fun h => by omega
    have ll : ∀ {i : Nat}, D + i ≠ l := fun {i} => Nat.ne_of_gt (Nat.lt_of_lt_of_le hlt (Nat.le_add_right _ _))
    exact { TIz := e (by decide), TOz := e (by decide), TITO := e (by decide), TI1 := e (j := 0) (by decide), TI2 := e (by decide),
            z1 := by simp only [List.mem_cons, List.not_mem_nil, or_false, not_or]; exact ⟨e (j := 0) (by decide), ll⟩
            z2 := by simp only [List.mem_cons, List.not_mem_nil, or_false]; exact e (by decide)
            O1 := by simp only [List.mem_cons, List.not_mem_nil, or_false, not_or]; exact ⟨e (j := 0) (by decide), ll⟩
            O2 := by simp only [List.mem_cons, List.not_mem_nil, or_false]; exact e (by decide)
            m1 := by simp
            m2 := by simp
            x12 := by simp only [List.mem_cons, List.not_mem_nil, or_false]; exact e (i := 0) (by decide)
            x21 := by simp only [List.mem_cons, List.not_mem_nil, or_false, not_or]; exact ⟨e (j := 0) (by decide), ll⟩ }
  · obtain ⟨a, b, h1, ⟨c, u, h2, rfl⟩, rfl⟩ := hp
    exact ⟨_, _, rfl, h1, c, u, h2, rfl⟩
  · obtain ⟨q1, q2, ⟨a, b, q3⟩, q4, q5⟩ := st
    simp only [List.mem_cons, List.not_mem_nil, or_false] at hb
    rcases hb with rfl | rfl | rfl | rfl | rfl
    · exact ⟨_, q1⟩
    · exact ⟨_, q3⟩
    · obtain ⟨o, e, _⟩ := q4.1; exact ⟨o, e⟩
    · obtain ⟨o, e, _⟩ := q5; exact ⟨o, e⟩
    · exact ⟨_, q2⟩
  · show b < h'.objs.size
    rw [hz]
    simp only [List.mem_append, List.mem_cons, List.not_mem_nil, or_false] at hb
    have lt : ∀ {i : Nat}, i < 5 → s.heap.objs.size + i < s.heap.objs.size + 5 := fun h => Nat.add_lt_add_left h _
    rcases hb with ((h | h | h) | (h | h)) | h
    · rw [h]; exact lt (by decide)
    · rw [h]; exact lt (by decide)
    · rw [h]; exact lt (by decide)
    · rw [h]; exact lt (i := 0) (by decide)
    · rw [h]; exact Nat.lt_of_lt_of_le hlt (Nat.le_add_right _ _)
    · rw [h]; exact lt (by decide)
  · simp only [List.mem_cons, List.not_mem_nil, or_false] at hb
    rcases hb with rfl | rfl | rfl | rfl | rfl
    · exact Nat.le_add_right _ _
    · exact Nat.le_add_right _ _
    · exact Nat.le_refl _
    · exact Nat.le_add_right _ _
    · exact Nat.le_add_right _ _
  · simp only [List.mem_append, List.mem_cons, List.not_mem_nil, or_false] at hb hbw
    rcases hb with ((h | h | h) | (h | h)) | h
    · exact absurd (.inl h) hbw
    · exact absurd (.inr (.inr (.inr (.inr h)))) hbw
    · exact absurd (.inr (.inl h)) hbw
    · exact absurd (.inr (.inr (.inl h))) hbw
    · rw [h]
      rcases S with ⟨o, e, _⟩ | ⟨o, e, _⟩
      · exact ⟨o, .inl e⟩
      · exact ⟨o, .inr e⟩
    · exact absurd (.inr (.inr (.inr (.inl h)))) hbw
end
end Mine
end
section
open PySem PySem.W PyProof.Rows PySem.Calls PyProof.Rows.LCg
namespace Mine
theorem NoTab.cons {P : Addr} {p : Addr × Obj} {led : List (Addr × Obj)} (h1 : p.1 ≠ P ∨ p.2.data ≠ .fields #[]) (h : NoTab P led) : NoTab P (p :: led) := fun q hq => by
  rcases List.mem_cons.mp hq with rfl | hq
  · exact h1.imp id fun hd e => hd (by rw [e])
  · exact h q hq
theorem not_fields_cell {o : Obj} {v : Option Value} (h : o.data = .cell v) : o.data ≠ .fields #[] := by rw [h]; exact fun e => by cases e
theorem not_fields_vs {o : Obj} {vs : Array Value} {q : Str} {t : Tok} (h : o.data = .fields vs) (hv : vs[1]? = some (.str q t)) : o.data ≠ .fields #[] := by
  rw [h]; intro e
  injection e with e
  rw [e] at hv; simp at hv
end Mine
end
section
theorem Mine.reset_MD : True := by
  w_top off
  trivial
open PySem PySem.W PyProof.Rows PySem.Calls PyProof.Rows.LCg
namespace Mine
/-- The contract of `_law_mended`. -/
def ConMD (w : World) (loose : List Str) (mean : ExcName → Option Value) (mg mb : Str → Option Value) (f : Addr) (k : Nat) (vs : List Value) (Pre : List (Addr × Obj) → Prop) (Res : Addr → List (Addr × Obj) → Prop) : Prop :=
  ∀ (dp un : Nat) (gd : Option (List Code)) (cn : Str) (cs : Scope) (a : Addr) (ccd : Value) (cl : List (Str × Addr)) (outer : List Env) (A₀ : Around) (base h₀ : Heap) (L : Addr) (m : Str → Option Value) (rest : List (Addr × Obj)) (psD psI : Array Value) (s : Shared) (Q E : Value → Shared → Prop),
    Below A₀ base outer h₀ → Fr h₀ L s.heap m → (hd.heap_39 w.params).In h₀ → News h₀ L s.heap ((62, tabObj psD) :: (48, tabObj psI) :: rest) → Top topProg loose mean mg mb h₀ → cs.kind = .function →
    TabOk 62 posD qualD psD rest → TabOk 48 posI qualI psI rest → Pre rest → dp + k < recursionLimit → un + 16 * k < cLine →
    (∀ (T : Addr) (own : List (Addr × Obj)) (psD' psI' : Array Value) (h' : Heap) (g' : Array GenState) (tk' : Nat) (d' : Drawn), Res T own → (AllBare s.gens → AllBare g') → Fr h₀ L h' m → News h₀ L h' (own ++ (62, tabObj psD') :: (48, tabObj psI') :: rest) →
      TabHit posD qualD psD' (own ++ rest) → TabHit posI qualI psI' (own ++ rest) → Q (.ref T) { s with heap := h', gens := g', toks := tk', drawn := d' }) →
      wpAny (model PySem.Challenge.rw_to0078_01.row.toRowW.prog w) (ktrTop dp un gd cn cs L a ccd cl outer) (call (.ref f) vs) Q E s
local macro_rules | `(tactic| walk_at "eval ListComp") => `(tactic| refine Hold.mk ?_)
local macro_rules | `(tactic| walk_at "exec Assign cons ListComp") => `(tactic| ((with_reducible rename Hold True => hMk); refine Hold.mk ?_))
local macro_rules | `(tactic| walk_at "call ref") => `(tactic| refine Hold.mk ?_)
local macro_rules | `(tactic| walk_at "call builtin:str.join") => `(tactic| refine Hold.mk ?_)
local macro_rules | `(tactic| walk_at "pyIter ref") => `(tactic| refine Hold.mk ?_)
local macro_rules | `(tactic| walk_at "call type:enumerate") => `(tactic| refine Hold.mk ?_)
local macro_rules | `(tactic| walk_at "call builtin:sum") => `(tactic| refine Hold.mk ?_)
local macro_rules | `(tactic| walk_at "call type:zip") => `(tactic| refine Hold.mk ?_)
local macro_rules | `(tactic| walk_at "pyIter str") => `(tactic| refine Hold.mk ?_)
local macro_rules | `(tactic| walk_at "compareOp NotIn str ref") => `(tactic| refine Hold.mk ?_)
local macro_rules | `(tactic| walk_at "subscriptTail") => `(tactic| ((with_reducible rename Hold True => hMk); refine Hold.mk ?_))
local macro_rules | `(tactic| walk_at "exec If") => `(tactic| ((with_reducible rename Hold True => hMk); refine Hold.mk ?_))
local macro_rules | `(tactic| walk_at "storeName") => `(tactic| ((with_reducible rename Hold False → False => hMk); refine Hold.mk ?_))
theorem sum_ones : ∀ l : List Nat, (l.map fun _ => 0 + 1).sum = l.length
  | [] => rfl
  | a :: r => by rw [List.map_cons, List.sum_cons, sum_ones r, List.length_cons]; omega
theorem ints_length : ∀ {vs : List Value} {ns : List Int}, IntsAre vs ns → vs.length = ns.length
  | _, _, .nil => rfl
  | _, _, .cons _ _ h => by simp [ints_length h]
theorem sub1 {c1 c2 c3 c4 c5 d1 d2 d6 d7 d8 i t : Addr × Obj} {r : List (Addr × Obj)} : ∀ q ∈ t :: d8 :: d7 :: d6 :: d1 :: c5 :: c4 :: c3 :: c2 :: c1 :: i :: r, q ∈ d8 :: d7 :: d6 :: d2 :: d1 :: c5 :: c4 :: c3 :: c2 :: c1 :: t :: i :: r := by
  repeat' (first | with_reducible exact fun _ h => h | with_reducible refine sub_cons (by repeat' (first | with_reducible exact mem_hd | with_reducible refine mem_tl ?_)) ?_ | with_reducible refine sub_tail ?_)
theorem sub2 {c1 c2 c3 c4 c5 d1 d6 d7 d8 i t : Addr × Obj} {r : List (Addr × Obj)} : ∀ q ∈ c5 :: d7 :: d1 :: c3 :: c2 :: c1 :: t :: i :: r, q ∈ t :: d8 :: d7 :: d6 :: d1 :: c5 :: c4 :: c3 :: c2 :: c1 :: i :: r := by
  repeat' (first | with_reducible exact fun _ h => h | with_reducible refine sub_cons (by repeat' (first | with_reducible exact mem_hd | with_reducible refine mem_tl ?_)) ?_ | with_reducible refine sub_tail ?_)
theorem sub3 {c c1 c2 c3 c5 d1 d7 i t : Addr × Obj} {r : List (Addr × Obj)} : ∀ q ∈ i :: c :: c5 :: d7 :: d1 :: c3 :: c2 :: c1 :: t :: r, q ∈ c :: c5 :: d7 :: d1 :: c3 :: c2 :: c1 :: t :: i :: r := by
  repeat' (first | with_reducible exact fun _ h => h | with_reducible refine sub_cons (by repeat' (first | with_reducible exact mem_hd | with_reducible refine mem_tl ?_)) ?_ | with_reducible refine sub_tail ?_)
theorem sub4 {c c1 c2 c3 c5 d1 d7 i t : Addr × Obj} {r : List (Addr × Obj)} : ∀ q ∈ c :: c5 :: d7 :: c2 :: c1 :: t :: i :: r, q ∈ i :: c :: c5 :: d7 :: d1 :: c3 :: c2 :: c1 :: t :: r := by
  repeat' (first | with_reducible exact fun _ h => h | with_reducible refine sub_cons (by repeat' (first | with_reducible exact mem_hd | with_reducible refine mem_tl ?_)) ?_ | with_reducible refine sub_tail ?_)
theorem sub5 {a b c d7 e1 e2 e5 i t : Addr × Obj} {r : List (Addr × Obj)} : ∀ q ∈ a :: b :: c :: t :: i :: r, q ∈ a :: b :: c :: e5 :: d7 :: e2 :: e1 :: t :: i :: r := by
  repeat' (first | with_reducible exact fun _ h => h | with_reducible refine sub_cons (by repeat' (first | with_reducible exact mem_hd | with_reducible refine mem_tl ?_)) ?_ | with_reducible refine sub_tail ?_)
theorem faultN_le (n fl : Nat) : faultN n fl ≤ 15 := by
  have h := (tab_facts (seven n) (seven_lt n)).2.2
  show (if spotS (seven n) = 0 then (if lateN n fl = 1 then 14 else 15) else (if lateN n fl = 1 then spotS (seven n) - 1 else spotS (seven n) + 6)) ≤ 15
  split <;> split <;> omega
theorem lev_mend (w : World) (loose : List Str) (mean : ExcName → Option Value) (mg mb : Str → Option Value) (n fl : Nat) (hn : n < 32768) (ta tb tm : Tok) :
    Con w loose mean mg mb 88 3 [.str (tx (spell n)) ta, .str (tx (spell (mendN n fl))) tb, .int 1 tm] (fun news => True) (fun t => .int (if mendN n fl = n then 0 else 1) t) := by
  rcases Nat.lt_or_ge (faultN n fl) 15 with h | h
  · obtain ⟨p, q9, x9, y9, e1, e2, e3, e4, e5⟩ := lev_split n (faultN n fl) h
    have e2' : spell (mendN n fl) = p ++ y9 :: q9 := e2
    have hMn : mendN n fl ≠ n := fun e => by
      rw [e, e1] at e2'
      exact e4 (List.cons.inj (List.append_cancel_left e2')).1
    rw [e2', e1, if_neg hMn]
    exact leven_c w loose mean mg mb p q9 x9 y9 _ _ _ e3 e4 e5
  · have hf : faultN n fl = 15 := Nat.le_antisymm (faultN_le n fl) h
    have hMn : mendN n fl = n := by unfold mendN; rw [hf]; exact mend_same n hn
    rw [if_pos hMn, hMn]
    exact leven0_c w loose mean mg mb (tx (spell n)) _ _ _
theorem mended_c (w : World) (loose : List Str) (mean : ExcName → Option Value) (mg mb : Str → Option Value) (n fl : Nat) (hn : n < 32768) (hfl : fl < 65536) (x : Addr) (tn : Tok) :
  ConMD w loose mean mg mb 245 40 [.int (n : Int) tn, .ref x] (fun rest => IsTab w fl x rest) (fun T own => ∃ t1 t2, (T, ({ cls := .type "tuple", data := .seq #[.int ((mendN n fl : Nat) : Int) t1, .int (if mendN n fl = n then 0 else 1) t2] } : Obj)) ∈ own) := by
  unfold ConMD
  k_fill
  intro dp un gd cn cs a ccd cl outer A₀ base h₀ L m rest psD psI s Q E BE FE XE NE TE hkE hTD hTI hpE hd1 hd2 hret
  have hn0 : (0 : Int) ≤ (n : Int) := by omega
  have hn1 : (n : Int) < 32768 := by omega
  refine wpAny_call ?_
  (k_dflt (refine' code_defC ?k1 ?k2 ?k3 ?k4 ?k5 ?kA ?kF ?kK ?k6 ?k7 ?k8 ?k9 ?kB ?kD ?_ ?c2 ?c3 ?c4; (case kA => exact rfl); (case kF => exact rfl); (case kK => assumption); (case k1 => k_asm); (case k2 => k_asm); (case k3 => k_asm); (case k4 => k_asm); (case k5 => k_asm); (case k6 => k_is); (case k7 => k_is); (case k8 => ktr_room); (case k9 => exact BindsTo.of_eq rfl); (case kB => exact rfl); (case kD => decide +kernel); (case c2 => exact rfl); (case c3 => exact rfl); (case c4 => exact rfl); k_whole; intro g' L' h' tk' cells' FG' F' N' Y' B' X' T' l1; k_cells Y'; (try simp only [List.cons_append, List.nil_append] at N'); (try dsimp only); (try k_lift B'); (try (show wpAny _ _ _ _ _ _; k_fold))))
  replace F' : Fr g' L' h' (fun z => if z = Str.ofString "table" then some (.ref x) else none) := by
    have e : ∀ f1 f2 : Str → Option Value, f1 = f2 → Fr g' L' h' f1 → Fr g' L' h' f2 := fun f1 f2 h q => h ▸ q
    exact F'
  rename_i oSp oBa oUn oWo oNu dSp dBa dUn dWo dNu
  replace dSp : oSp.data = .cell none := dSp
  replace dBa : oBa.data = .cell none := dBa
  replace dUn : oUn.data = .cell none := dUn
  replace dWo : oWo.data = .cell none := dWo
  replace dNu : oNu.data = .cell (some (.int (n : Int) tn)) := dNu
  have lL : ∀ p ∈ ((62, tabObj psD) :: (48, tabObj psI) :: rest), p.1 < L' := l1
  have hTab : IsTab w fl x ((62, tabObj psD) :: (48, tabObj psI) :: rest) := by
    obtain ⟨d, t0, R0, ys, ep, q1, q2, q3, q4⟩ := hpE
    exact ⟨d, t0, R0, ys, ep, .tail _ (.tail _ q1), .tail _ (.tail _ q2), .tail _ (.tail _ q3), q4.mono fun p hp => .tail _ (.tail _ hp)⟩
  generalize hT0 : ((62, tabObj psD) :: (48, tabObj psI) :: rest) = T0 at *
  clear l1
  -- word
  k_steps
  refine Hold.of ?_
  (refine' Con.use (spelled_c w loose mean mg mb n tn) ?k1 ?k2 ?k3 ?k4 ?k5 ?kK ?kp ?kd ?ku ?_; (case k1 => k_asm); (case k2 => k_asm); (case k3 => k_asm); (case k4 => k_asm); (case k5 => k_asm); (case kK => exact rfl); (case kp => trivial); (case kd => ktr_room); (case ku => ktr_units); intro tW h1 tk1 F1 N1; (try dsimp only))
  refine storeX_C F1 N1 (by rfl) (UpdF.tail (adjN L' 5 2 (by decide)) (UpdF.tail (adjN L' 4 2 (by decide)) (UpdF.tail (adjN L' 3 2 (by decide)) (UpdF.head fun p hp => ?_)))) dWo fun h2 oW F2 N2 dW => ?_
  · rcases List.mem_cons.mp hp with rfl | hp
    · exact adjN L' 1 2 (by decide)
    · exact lt_adj (i := 2) (lL p hp)
  (try dsimp only at N2)
  clear F1 N1 F' N' dWo
  -- unlike
  k_steps
  refine Hold.of ?_
  refine ListComp_M (F₀ := F2) (by with_unfolding_all rfl) (by decide) (by rfl) (by decide) ?_
  k_steps
  refine Hold.of ?_
  rename IsRange _ _ _ _ _ _ _ _ => hR
  rename Fr _ _ _ _ => F3
  rename News _ _ _ _ => N3
  refine iter_range_M rfl F3 N3 hR (by decide) (n := 7) (by decide) rfl rfl (by decide) (Rel := fun i ys => IntsAre ys ((List.range i).map fun k => ((bit (seven n) k : Nat) : Int))) .nil ?_ ?_
  · intro i C oC m₂ ys led h g tk E' hi hB hC hRel F N hCm hsub
    obtain ⟨v, ⟨t, rfl⟩, hk⟩ := hB
    refine wpAny_tests_nil ?_
    simp only [if_true]
    have hm1 : (L' + 2, oW) ∈ led := hsub _ (.tail _ (.tail _ (.tail _ (.head _))))
    have hlen := spell_len n
    clear F3 N3 hR
    rw [show (0 : Int) + (i : Int) = ((i : Nat) : Int) by omega] at hk
    have hi0 : (0 : Int) ≤ ((i : Nat) : Int) := by omega
    have hi7 : ((i : Nat) : Int) < 7 := by omega
    k_steps
    refine Hold.of ?_
    rw [show ((i : Nat) : Int) + 7 = ((i + 7 : Nat) : Int) by omega, spell_item n i (by omega), spell_item n (i + 7) (by omega)]
    (refine' Con.use (sub_c w loose mean mg mb (tx [ch n i]) (tx [ch n (i + 7)]) _ _) ?k1 ?k2 ?k3 ?k4 ?k5 ?kK ?kp ?kd ?ku ?_; (case k1 => k_asm); (case k2 => k_asm); (case k3 => k_asm); (case k4 => k_asm); (case k5 => k_asm); (case kK => exact rfl); (case kp => exact ⟨rfl, rfl⟩); (case kd => ktr_room); (case ku => ktr_units); intro t9 h9 tk9 F9 N9; (try dsimp only))
    k_steps
    refine MEnd.mk F9 N9 ?_
    rw [unlike_at n i (by omega), List.range_succ, List.map_append]
    exact ints_snoc hRel
  · intro hx D1 h3 tk3 ys1 hR1 F3' N3' hD1 hD1' hD1L F4 N4
    k_steps
    refine storeX_C F4 N4 (by rfl) (UpdF.tail (hD1 (L' + 3, oUn) (.tail _ (.tail _ (.head _)))).symm (UpdF.tail (adjN L' 5 3 (by decide)) (UpdF.tail (adjN L' 4 3 (by decide)) (UpdF.head fun p hp => ?_)))) dUn fun h5 oUn2 F5 N5 dUn2 => ?_
    · rcases List.mem_cons.mp hp with rfl | hp
      · exact adjN L' 2 3 (by decide)
      rcases List.mem_cons.mp hp with rfl | hp
      · exact adjN L' 1 3 (by decide)
      · exact lt_adj (i := 3) (lL p hp)
    (try dsimp only at N5)
    clear F4 N4 F3 N3 F3' N3' hR dUn
    have hD1c : ∀ k : Nat, 1 ≤ k → k ≤ 5 → D1 ≠ L' + k := fun k h1 h2 => by
      have e : k = 1 ∨ k = 2 ∨ k = 3 ∨ k = 4 ∨ k = 5 := by omega
      rcases e with rfl | rfl | rfl | rfl | rfl
      · exact (hD1 (L' + 1, oNu) (.tail _ (.tail _ (.tail _ (.tail _ (.head _)))))).symm
      · exact (hD1 (L' + 2, oW) (.tail _ (.tail _ (.tail _ (.head _))))).symm
      · exact (hD1 (L' + 3, oUn) (.tail _ (.tail _ (.head _)))).symm
      · exact (hD1 (L' + 4, oBa) (.tail _ (.head _))).symm
      · exact (hD1 (L' + 5, oSp) (.head _)).symm
    have hD1T : ∀ p ∈ T0, p.1 ≠ D1 := fun p hp => hD1 p (.tail _ (.tail _ (.tail _ (.tail _ (.tail _ hp)))))
    clear hD1
    -- counts
    have hMk : Hold True := trivial
    k_steps
    refine Hold.of ?_
    rename Hold True => hMk2
    clear hMk2
    refine Assign_ListComp_K F5 rfl rfl (by with_unfolding_all rfl) (by with_unfolding_all rfl) (fun _ => rfl) (fun _ => rfl) rfl (by with_unfolding_all rfl) (by decide) (by with_unfolding_all rfl) (by with_unfolding_all rfl) ?_
    k_steps
    refine Hold.of ?_
    rename Fr _ _ _ _ => F6
    rename News _ _ _ _ => N6
    refine iter_cell_K (its := #[_, _, _]) F6 N6 (.head _) rfl (by rfl) (by show (3 : Nat) ≤ sizeLine; decide) (Rel := fun i ys => IntsAre ys ((([1, 2, 4] : List Nat).take i).map fun sh => ((cnt n sh : Nat) : Int))) .nil ?_ ?_
    · intro i v C K oC oK m₂ ys led h g tk d os E' hv hC dK hKm hRel F N hCm hsub
      obtain ⟨kk, tv, hks, rfl⟩ := ints_arr (ns := [1, 2, 4]) (by exact .cons 1 _ (.cons 2 _ (.cons 4 _ .nil))) hv
      refine wpAny_tests_nil ?_
      simp only [if_true]
      have hmU : (L' + 3, oUn2) ∈ led := hsub _ (.tail _ (.tail _ (.tail _ (.tail _ (.head _)))))
      have hmD : (D1, lst ys1) ∈ led := hsub _ (.tail _ (.head _))
      clear F6 N6
      k_steps
      refine Hold.of ?_
      refine ListComp_M (F₀ := F) (by with_unfolding_all rfl) (by decide) (by rfl) (by decide) ?_
      k_steps
      refine Hold.of ?_
      have hR1' : IntsAre ys1 (((List.range 7).map (bit (seven n))).map fun x => ((x : Nat) : Int)) := by rw [List.map_map]; exact hR1
      have hl1 : ys1.length = 7 := by rw [ints_length hR1']; rfl
      have hkk : kk ≤ 4 := by
        have := List.mem_of_getElem? hks
        simp only [List.mem_cons, List.not_mem_nil, or_false] at this
        omega
      refine enum_list_M rfl (by k_asm) (by k_asm) (Or.inr ⟨_, hmD, rfl, _, rfl⟩) (by rfl) (by rfl) (by rfl) (by decide) (by rw [List.size_toArray, hl1]; decide) (Rel := fun j zs => IntsAre zs (((List.range j).filter fun k => (k + 1) &&& kk != 0).map fun k => ((bit (seven n) k : Nat) : Int))) .nil ?_ ?_
      · intro j C3 oC3 m3 zs led3 h3' g3 tk3' E3 hj hB hC3 hRel3 F3 N3 hCm3 hsub3
        obtain ⟨a3, b3, ⟨t3, rfl, hb3⟩, hk3, ho3⟩ := hB
        rw [List.size_toArray, hl1] at hj
        obtain ⟨k2, t4, hks2, rfl⟩ := ints_arr (ns := (List.range 7).map (bit (seven n))) (by exact hR1') hb3
        have hk2 : k2 = bit (seven n) j := by
          rw [List.getElem?_map, List.getElem?_range hj] at hks2
          exact (Option.some.inj hks2).symm
        have hmK := hsub3 _ hKm
        have hj0 : (0 : Int) ≤ ((j : Nat) : Int) := by omega
        have hj7 : ((j : Nat) : Int) < 7 := by omega
        have hkk0 : (0 : Int) ≤ ((kk : Nat) : Int) := by omega
        have hkk4 : ((kk : Nat) : Int) ≤ 4 := by omega
        refine wpAny_tests_one ?_
        clear F N hRel hR1 hR1' hv hks hks2
        have hand : Builtin.bitAnd (((j : Nat) : Int) + 1) ((kk : Nat) : Int) = (((j + 1) &&& kk : Nat) : Int) := bitAnd_nat (j + 1) kk
        k_steps
        · rename_i hb
          rw [hand] at hb
          refine MEnd.mk F3 N3 ?_
          dsimp only
          rw [List.range_succ, List.filter_append, List.map_append, List.filter_cons, if_pos (by rw [bne_iff_ne]; omega), hk2]
          exact ints_snoc hRel3
        · rename_i hb
          rw [hand] at hb
          refine MEnd.mk F3 N3 ?_
          dsimp only
          rw [List.range_succ, List.filter_append, List.map_append, List.filter_cons, if_neg (by rw [bne_iff_ne]; omega)]
          simpa using hRel3
      · intro hx3 D3 h3' tk3' zs hR3 F3 N3 off3 hD3 hDL3 F4 N4
        rw [List.size_toArray, hl1] at hR3
        k_steps
        refine Hold.of ?_
        have hR3' : IntsAre zs ((((List.range 7).filter fun k => (k + 1) &&& kk != 0).map (bit (seven n))).map fun x => ((x : Nat) : Int)) := by rw [List.map_map]; exact hR3
        refine sumK rfl (by k_asm) (by k_asm) (isList_of N4 (.head _)) hR3' ?_
        intro h4 tk4 t4 F5' N5'
        rw [sum_cast]
        k_steps
        refine MEnd.mk F5' (fun p hp => N5' p (.tail _ hp)) ?_
        rw [take_snoc hks, List.map_append]
        exact ints_snoc hRel
    · intro hx2 D2 h7 tk7 ys2 hR2 F7 N7 hD2 hD2' hD2L h8 tk8 F8 N8
      replace hR2 : IntsAre ys2 [((cnt n 1 : Nat) : Int), ((cnt n 2 : Nat) : Int), ((cnt n 4 : Nat) : Int)] := hR2
      clear F7 N7
      k_steps
      refine Hold.of ?_
      refine ListComp_M (F₀ := by k_asm) (by with_unfolding_all rfl) (by decide) (by rfl) (by decide) ?_
      k_steps
      refine Hold.of ?_
      refine iter_list_M (its := #[_, _, _, _, _, _, _, _]) rfl (by k_asm) (by k_asm) (Or.inr ⟨_, .head _, rfl, _, rfl⟩) (by rfl) (by rfl) (by show (8 : Nat) ≤ sizeLine; decide) (Rel := fun i ys => IntsAre ys ((ks8.take i).map fun k => ((bit n k : Nat) : Int))) .nil ?_ ?_
      · intro i C oC m₂ ys led h g tk E' hi hB hC hR F N hCm hsub
        obtain ⟨v, hv, hk⟩ := hB
        obtain ⟨kk, tv, hks, rfl⟩ := ints_arr (ns := ks8) (by exact .cons 0 _ (.cons 1 _ (.cons 2 _ (.cons 3 _ (.cons 4 _ (.cons 5 _ (.cons 6 _ (.cons 14 _ .nil)))))))) hv
        refine wpAny_tests_nil ?_
        simp only [if_true]
        have hm1 : (L' + 1, oNu) ∈ led := hsub _ (by repeat' (first | with_reducible exact mem_hd | with_reducible refine mem_tl ?_))
        k_steps
        refine MEnd.mk F N ?_
        rw [take_snoc hks, List.map_append]
        have e : Builtin.bitAnd ((n : Int).fdiv (2 ^ ((kk : Nat) : Int).toNat)) 1 = ((bit n kk : Nat) : Int) := bit_int n kk
        rw [e]
        exact ints_snoc hR
      · intro hx4 D4 h9 tk9 ys4 hR4 F9 N9 off4 hD4 hD4L F10 N10
        k_steps
        refine Hold.of ?_
        have hR4' : IntsAre ys4 ((ks8.map (bit n)).map fun x => ((x : Nat) : Int)) := by
          have : ks8.take 8 = ks8 := rfl
          have hR2' := hR4
          rw [show (#[_, _, _, _, _, _, _, _] : Array Value).size = 8 from rfl, this] at hR2'
          rw [List.map_map]; exact hR2'
        refine sumK rfl (by k_asm) (by k_asm) (isList_of N10 (.head _)) hR4' ?_
        intro h11 tk11 t11 F11 N11
        rw [sum_cast, show (ks8.map (bit n)).sum = par8 n from rfl]
        clear F9 N9 F10 N10
        have hN12 : News g' L' h11 ((D2, lst ys2) :: (D1, lst ys1) :: (L' + 5, oSp) :: (L' + 4, oBa) :: (L' + 3, oUn2) :: (L' + 2, oW) :: (L' + 1, oNu) :: T0) := fun p hp => N11 p (by
          refine mem_sub hp ?_
          repeat' (first | with_reducible exact fun _ h => h | with_reducible refine sub_cons (by repeat' (first | with_reducible exact mem_hd | with_reducible refine mem_tl ?_)) ?_ | with_reducible refine sub_tail ?_))
        k_steps
        have hc2 : ∀ k : Nat, 1 ≤ k → k ≤ 5 → D2 ≠ L' + k := fun k h1 h2 => by
          have e : k = 1 ∨ k = 2 ∨ k = 3 ∨ k = 4 ∨ k = 5 := by omega
          rcases e with rfl | rfl | rfl | rfl | rfl
          · exact (hD2 (L' + 1, oNu) (by repeat' (first | with_reducible exact mem_hd | with_reducible refine mem_tl ?_))).symm
          · exact (hD2 (L' + 2, oW) (by repeat' (first | with_reducible exact mem_hd | with_reducible refine mem_tl ?_))).symm
          · exact (hD2 (L' + 3, oUn2) (by repeat' (first | with_reducible exact mem_hd | with_reducible refine mem_tl ?_))).symm
          · exact (hD2 (L' + 4, oBa) (by repeat' (first | with_reducible exact mem_hd | with_reducible refine mem_tl ?_))).symm
          · exact (hD2 (L' + 5, oSp) (by repeat' (first | with_reducible exact mem_hd | with_reducible refine mem_tl ?_))).symm
        have hD21 : D1 ≠ D2 := hD2 (D1, lst ys1) (by repeat' (first | with_reducible exact mem_hd | with_reducible refine mem_tl ?_))
        have hD2T : ∀ p ∈ T0, p.1 ≠ D2 := fun p hp => hD2 p (by repeat' (first | with_reducible exact hp | with_reducible refine mem_tl ?_))
        refine append_at (hsz := by show ys2.toArray.size ≤ sizeLine; rw [List.size_toArray, ints_length hR2]; show (3 : Nat) ≤ sizeLine; decide) (hN12 (D2, lst ys2) (.head _)).1 fun h12 hs12 hD12 => ?_
        have F12 := F11.change hs12 hD2L hD2'
        have N13 : News g' L' h12 ((D2, lst (ys2 ++ [.int ((par8 n : Nat) : Int) t11])) :: (D1, lst ys1) :: (L' + 5, oSp) :: (L' + 4, oBa) :: (L' + 3, oUn2) :: (L' + 2, oW) :: (L' + 1, oNu) :: T0) := fun p hp => by
          rcases List.mem_cons.mp hp with rfl | hp
          · exact ⟨hD12.trans (congrArg some (lst_snoc ys2 _)), hD2L, hD2'⟩
          · have hn := hN12 p (.tail _ hp)
            refine ⟨hs12.extBut _ _ ?_ hn.1, hn.2⟩
            rcases List.mem_cons.mp hp with rfl | hp
            · exact hD21
            rcases List.mem_cons.mp hp with rfl | hp
            · exact (hc2 5 (by decide) (by decide)).symm
            rcases List.mem_cons.mp hp with rfl | hp
            · exact (hc2 4 (by decide) (by decide)).symm
            rcases List.mem_cons.mp hp with rfl | hp
            · exact (hc2 3 (by decide) (by decide)).symm
            rcases List.mem_cons.mp hp with rfl | hp
            · exact (hc2 2 (by decide) (by decide)).symm
            rcases List.mem_cons.mp hp with rfl | hp
            · exact (hc2 1 (by decide) (by decide)).symm
            · exact hD2T p hp
        have hcnt : IntsAre (ys2 ++ [.int ((par8 n : Nat) : Int) t11]) ((cntL n).map fun x => ((x : Nat) : Int)) := ints_snoc hR2
        generalize hys : ys2 ++ [Value.int ((par8 n : Nat) : Int) t11] = cs4 at *
        have hcl : cs4.length = 4 := by rw [ints_length hcnt]; rfl
        clear hN12 N11 F11 hs12 hD12 hR4' hR4 off4 hD4 hD4L hR2 hys hD2
        -- marked
        k_steps
        refine Hold.of ?_
        refine ListComp_M (F₀ := by k_asm) (by with_unfolding_all rfl) (by decide) (by rfl) (by decide) ?_
        k_steps
        refine Hold.of ?_
        rename Fr _ _ _ _ => F14
        rename News _ _ _ _ => N14
        refine zip_M (by decide +kernel) (by rw [show cs4.toArray.size = 4 from hcl]; decide +kernel) rfl F14 N14 (Or.inr ⟨_, .head _, rfl, _, rfl⟩) (by rfl) (by rfl) (by rfl) (by decide) (by rw [List.size_toArray, hcl]; decide) (Rel := fun i ys => StrsAre ys (((List.range i).map fun j => List.replicate ((cntL n).getD j 0) 92 ++ [signL.getD j 0]).map tx)) .nil ?_ ?_
        · intro i C oC m₂ ys led h g tk E' hi hB hC hRel F N hCm hsub
          obtain ⟨a4, b4, ⟨ha4, c, u, hc, rfl⟩, hk4, hs4⟩ := hB
          rw [List.size_toArray, hcl] at hi
          obtain ⟨kk, tv, hks, rfl⟩ := ints_arr (ns := cntL n) (by exact hcnt) ha4
          refine wpAny_tests_nil ?_
          simp only [if_true]
          clear F14 N14
          have hkk8 : kk ≤ 8 := cntL_le n kk (List.mem_of_getElem? hks)
          k_steps
          rw [mul_bs]
          refine MEnd.mk F N ?_
          have e7 : tx (List.replicate kk 92) ++ ⟨#[c]⟩ = tx (List.replicate ((cntL n).getD i 0) 92 ++ [signL.getD i 0]) := by
            rw [List.getD_eq_getElem?_getD, hks]
            have hc7 : c = signL.getD i 0 := by
              have : i = 0 ∨ i = 1 ∨ i = 2 ∨ i = 3 := by omega
              rcases this with rfl | rfl | rfl | rfl <;> exact (Option.some.inj hc).symm
            rw [← hc7, ← tx_append]; rfl
          rw [e7, List.range_succ, List.map_append, List.map_append]
          exact strs_snoc hRel
        · intro hx5 D5 h15 tk15 ys5 hR5 F15 N15 off5 hD5 hD5L F16 N16
          k_steps
          refine Hold.of ?_
          rw [show cs4.toArray.size = 4 from hcl] at hR5
          have hml := marked_len n
          refine join_M (isList_of N16 (.head _)) hR5 ?_ fun t' k => ?_
          · have e8 : ((List.range 4).map fun j => List.replicate ((cntL n).getD j 0) 92 ++ [signL.getD j 0]).map (·.length) = (cntL n).map (· + 1) := by
              simp [cntL, signL, List.range, List.range.loop]
            have h1 := cnt_le n 1
            have h2 := cnt_le n 2
            have h3 := cnt_le n 4
            have h4 := cntL_le n (par8 n) (by simp [cntL])
            rw [e8]
            simp only [cntL, List.map_cons, List.map_nil, List.sum_cons, List.sum_nil, List.length_map, List.length_range]
            omega
          rw [show ((List.range 4).map fun j => List.replicate ((cntL n).getD j 0) 92 ++ [signL.getD j 0]).flatten = marked n from by simp [cntL, signL, marked, markL, List.range, List.range.loop]]
          have N17 : News g' L' h15 ((D2, lst cs4) :: (D1, lst ys1) :: (L' + 5, oSp) :: (L' + 4, oBa) :: (L' + 3, oUn2) :: (L' + 2, oW) :: (L' + 1, oNu) :: T0) := fun p hp => N16 p (.tail _ hp)
          clear F15 N15 N16 F14 N14 hR5
          have hml2 : (tx (marked n)).length ≤ 36 := by rw [tx_length]; exact hml
          have hMk : Hold True := trivial
          k_steps
          refine Hold.of ?_
          rename Hold True => hMk2
          clear hMk2
          -- bare
          refine wpAny_Assign_Name ?_ (by with_unfolding_all rfl)
          rename Fr _ _ _ _ => F18
          refine ListComp_N F18 rfl T'.nolimit (by ktr_room) (by with_unfolding_all rfl) (by decide) (by rfl) (by decide) (by rfl) (by rfl) (by decide) (by decide) ?_
          k_steps
          refine Hold.of ?_
          refine escaped_c w loose mean mg mb (marked n) _ (by omega) (marked_ascii n) _ _ _ _ _ _ _ _ _ _ _ _ _ _ _ _ _ _ (by k_asm) (by k_asm) (by k_asm) (by k_asm) (by k_asm) rfl (by ktr_room) (by ktr_units) ?_
          intro ga gG mG gs' h19 tk19 hB19 F19 N19 hga hGN hglt hLG hGa hga0
          refine wpAny_pyIter_gen hga ?_
          refine ⟨ga, gG, _, pcs (marked n) false, [], mG, _, rfl, Nat.le_trans (pcs_len _ _) (by have := PySem.sizeLine_eq; omega), hga, hGN, Nat.ne_of_gt (Nat.lt_trans hLG hGa), Nat.ne_of_gt hGa, Nat.ne_of_lt hLG, hga0, fun p hp => Nat.ne_of_lt (hglt p hp), fun p hp => (nomatch hp), F19, N19, ?_⟩
          intro D6 h20 gs20 tk20 ys6 hB20 hR6 F20 N20 hD6
          refine storeX_C F20 N20 (by rfl) (UpdF.tail (hD6 (L' + 4, oBa) (by repeat' (first | with_reducible exact mem_hd | with_reducible refine mem_tl ?_))).symm (UpdF.tail (hc2 4 (by decide) (by decide)) (UpdF.tail (hD1c 4 (by decide) (by decide)) (UpdF.tail (adjN L' 5 4 (by decide)) (UpdF.head fun p hp => ?_))))) dBa fun h21 oBa2 F21 N21 dBa2 => ?_
          · rcases List.mem_cons.mp hp with rfl | hp
            · exact adjN L' 3 4 (by decide)
            rcases List.mem_cons.mp hp with rfl | hp
            · exact adjN L' 2 4 (by decide)
            rcases List.mem_cons.mp hp with rfl | hp
            · exact adjN L' 1 4 (by decide)
            · exact lt_adj (i := 4) (lL p hp)
          (try dsimp only at N21)
          clear F20 N20 F18
          have hc6 : ∀ k : Nat, 1 ≤ k → k ≤ 5 → D6 ≠ L' + k := fun k h1 h2 => by
            have e : k = 1 ∨ k = 2 ∨ k = 3 ∨ k = 4 ∨ k = 5 := by omega
            rcases e with rfl | rfl | rfl | rfl | rfl
            · exact (hD6 (L' + 1, oNu) (by repeat' (first | with_reducible exact mem_hd | with_reducible refine mem_tl ?_))).symm
            · exact (hD6 (L' + 2, oW) (by repeat' (first | with_reducible exact mem_hd | with_reducible refine mem_tl ?_))).symm
            · exact (hD6 (L' + 3, oUn2) (by repeat' (first | with_reducible exact mem_hd | with_reducible refine mem_tl ?_))).symm
            · exact (hD6 (L' + 4, oBa) (by repeat' (first | with_reducible exact mem_hd | with_reducible refine mem_tl ?_))).symm
            · exact (hD6 (L' + 5, oSp) (by repeat' (first | with_reducible exact mem_hd | with_reducible refine mem_tl ?_))).symm
          -- odd
          have hMk : Hold True := trivial
          k_steps
          refine Hold.of ?_
          rename Hold True => hMk2
          clear hMk2
          refine Assign_ListComp_M F21 rfl (by with_unfolding_all rfl) (by with_unfolding_all rfl) (by decide) (by rfl) (by decide) (by with_unfolding_all rfl) (by with_unfolding_all rfl) ?_
          k_steps
          refine Hold.of ?_
          refine iter_str_M (by decide +kernel) rfl F21 N21 (by rfl) (by rfl) (by decide +kernel) (Rel := fun i ys => IntsAre ys ((List.range i).map fun j => (((cntL n).getD j 0 % 2 : Nat) : Int))) .nil ?_ ?_
          · intro i C oC m₂ ys led h g tk E' hi hB hC hRel F N hCm hsub
            obtain ⟨v, ⟨c, u, hc, rfl⟩, hk⟩ := hB
            replace hi : i < 4 := hi
            have hmB : (L' + 4, oBa2) ∈ led := hsub _ (by repeat' (first | with_reducible exact mem_hd | with_reducible refine mem_tl ?_))
            have hm6 : (D6, lst ys6) ∈ led := hsub _ (.head _)
            refine wpAny_tests_nil ?_
            simp only [if_true]
            clear F21 N21
            k_steps
            refine Hold.of ?_
            refine notin_list_strs (isList_of (by k_asm) hm6) hR6 ?_
            have hc7 : (⟨#[c]⟩ : Str) = tx [signL.getD i 0] := by
              have : i = 0 ∨ i = 1 ∨ i = 2 ∨ i = 3 := by omega
              rcases this with rfl | rfl | rfl | rfl <;> (rw [← Option.some.inj hc]; rfl)
            rw [hc7, odd_any n i hi]
            rcases Nat.mod_two_eq_zero_or_one ((cntL n).getD i 0) with hm | hm
            · rw [show decide ((cntL n).getD i 0 % 2 = 0) = true from decide_eq_true hm, Bool.not_true]
              k_steps
              refine MEnd.mk F N ?_
              rw [List.range_succ, List.map_append, List.map_singleton, hm]
              exact ints_snoc hRel
            · rw [show decide ((cntL n).getD i 0 % 2 = 0) = false from decide_eq_false (by omega), Bool.not_false]
              k_steps
              refine MEnd.mk F N ?_
              rw [List.range_succ, List.map_append, List.map_singleton, hm]
              exact ints_snoc hRel
          · intro hx7 D7 h22 tk22 ys7 hR7 F22 N22 hD7 hD7' hD7L h23 tk23 F23 N23
            rw [show (Str.ofString "xyzp").cps.size = 4 by decide +kernel] at hR7
            replace hR7 : IntsAre ys7 [((cnt n 1 % 2 : Nat) : Int), ((cnt n 2 % 2 : Nat) : Int), ((cnt n 4 % 2 : Nat) : Int), ((par8 n % 2 : Nat) : Int)] := hR7
            obtain ⟨o0, o1, o2, o3, rfl⟩ : ∃ t0 t1 t2 t3, ys7 = [.int ((cnt n 1 % 2 : Nat) : Int) t0, .int ((cnt n 2 % 2 : Nat) : Int) t1, .int ((cnt n 4 % 2 : Nat) : Int) t2, .int ((par8 n % 2 : Nat) : Int) t3] := by
              cases hR7 with | cons _ t0 hR7 => cases hR7 with | cons _ t1 hR7 => cases hR7 with | cons _ t2 hR7 => cases hR7 with | cons _ t3 hR7 => cases hR7 with | nil => exact ⟨t0, t1, t2, t3, rfl⟩
            clear F21 N21 F22 N22 hR7
            k_steps
            refine Hold.of ?_
            rename_i D8 h24 F24 N24 l24
            have hTD2 : TabOk 62 posD qualD psD ((D8, W.listOf #[.int ((cnt n 1 % 2 : Nat) : Int) o0, .int ((cnt n 2 % 2 : Nat) : Int) o1, .int ((cnt n 4 % 2 : Nat) : Int) o2] 0) :: (D7, lst [.int ((cnt n 1 % 2 : Nat) : Int) o0, .int ((cnt n 2 % 2 : Nat) : Int) o1, .int ((cnt n 4 % 2 : Nat) : Int) o2, .int ((par8 n % 2 : Nat) : Int) o3]) :: (D6, lst ys6) :: (D1, lst ys1) :: (L' + 5, oSp) :: (L' + 4, oBa2) :: (L' + 3, oUn2) :: (L' + 2, oW) :: (L' + 1, oNu) :: (48, tabObj psI) :: rest) := by
              rcases hTD with ⟨e, hNT⟩ | hH
              · refine .inl ⟨e, ?_⟩
                refine NoTab.cons (.inr (fun h => by cases h)) (NoTab.cons (.inr (fun h => by cases h)) (NoTab.cons (.inr (fun h => by cases h)) (NoTab.cons (.inr (fun h => by cases h)) (NoTab.cons (.inr (not_fields_cell dSp)) (NoTab.cons (.inr (not_fields_cell dBa2)) (NoTab.cons (.inr (not_fields_cell dUn2)) (NoTab.cons (.inr (not_fields_cell dW)) (NoTab.cons (.inr (not_fields_cell dNu)) (NoTab.cons (.inl (show (48 : Nat) ≠ 62 by decide)) hNT)))))))))
              · exact .inr (hH.mono fun p hp => by repeat' (first | with_reducible exact hp | with_reducible refine mem_tl ?_))
            (refine' ConN.use (digits_c w loose mean mg mb D8 ((cnt n 1 % 2 : Nat) : Int) ((cnt n 2 % 2 : Nat) : Int) ((cnt n 4 % 2 : Nat) : Int) o0 o1 o2 _ 0 (by omega) (by omega) (by omega)) ?k1 ?k2 ?k3 ?k4 ?k5 ?kK hTD2 ?kp ?kd ?ku ?_; (case k1 => k_asm); (case k2 => k_asm); (case k3 => k_asm); (case k4 => exact fun p hp => N24 p (by rw [← hT0]; exact sub1 p hp)); (case k5 => k_asm); (case kK => exact rfl); (case kp => exact .head _); (case kd => ktr_room); (case ku => ktr_units); intro tS ownS psD1 h25 tk25 F25 N25 hitS; (try dsimp only))
            obtain ⟨hTri1, c1, oc1, vs1, ts1, hAm1, hcm1, hcd1, hcv1⟩ := hitS
            rw [spot_int]
            have N26 : News g' L' h25 ((c1, oc1) :: (L' + 5, oSp) :: (D7, lst [.int ((cnt n 1 % 2 : Nat) : Int) o0, .int ((cnt n 2 % 2 : Nat) : Int) o1, .int ((cnt n 4 % 2 : Nat) : Int) o2, .int ((par8 n % 2 : Nat) : Int) o3]) :: (D1, lst ys1) :: (L' + 3, oUn2) :: (L' + 2, oW) :: (L' + 1, oNu) :: (62, tabObj psD1) :: (48, tabObj psI) :: rest) := fun p hp => by
              rcases List.mem_cons.mp hp with rfl | hp
              · rcases List.mem_append.mp hcm1 with h | h
                · exact N25 _ (List.mem_append_left _ h)
                · exact N25 _ (List.mem_append_right _ (.tail _ h))
              · refine N25 p (List.mem_append_right _ ?_)
                exact sub2 p hp
            clear N25 F24 N24 hcm1 hTD2
            have lL62 : 62 < L' := lL (62, tabObj psD) (by rw [← hT0]; exact .head _)
            have lL48 : 48 < L' := lL (48, tabObj psI) (by rw [← hT0]; exact .tail _ (.head _))
            have lLr : ∀ p ∈ rest, p.1 < L' := fun p hp => lL p (by rw [← hT0]; exact .tail _ (.tail _ hp))
            refine storeX_C F25 N26 (by rfl) (UpdF.tail (ne_data N26 (.head _) (.tail _ (.head _)) (by rw [hcd1, dSp]; exact fun e => by cases e)) (UpdF.head fun p hp => ?_)) dSp fun h27 oSp2 F27 N27 dSp2 => ?_
            · rcases List.mem_cons.mp hp with rfl | hp
              · exact (hD7 (L' + 5, oSp) (by repeat' (first | with_reducible exact mem_hd | with_reducible refine mem_tl ?_))).symm
              rcases List.mem_cons.mp hp with rfl | hp
              · exact hD1c 5 (by decide) (by decide)
              rcases List.mem_cons.mp hp with rfl | hp
              · exact adjN L' 3 5 (by decide)
              rcases List.mem_cons.mp hp with rfl | hp
              · exact adjN L' 2 5 (by decide)
              rcases List.mem_cons.mp hp with rfl | hp
              · exact adjN L' 1 5 (by decide)
              rcases List.mem_cons.mp hp with rfl | hp
              · exact lt_adj (i := 5) lL62
              rcases List.mem_cons.mp hp with rfl | hp
              · exact lt_adj (i := 5) lL48
              · exact lt_adj (i := 5) (lLr p hp)
            (try dsimp only at N27)
            clear F25 N26
            -- ones
            k_steps
            refine Hold.of ?_
            refine ListComp_M (F₀ := by k_asm) (by with_unfolding_all rfl) (by decide) (by rfl) (by decide) ?_
            k_steps
            refine Hold.of ?_
            rename Fr _ _ _ _ => F28
            rename News _ _ _ _ => N28
            refine enum_str_M (by decide +kernel) rfl F28 N28 (by rfl) (by rfl) (by rfl) (by decide) (by decide) (Rel := fun j ys => StrsAre ys ((((List.range j).filter fun k => bit (seven n) k != if k + 1 = spotN n then 1 else 0).map fun k => [97 + k]).map tx)) .nil ?_ ?_
            · intro i C oC m₂ ys led h g tk E' hi hB hC hRel F N hCm hsub
              obtain ⟨a3, b3, ⟨t3, c, u, rfl, hc, rfl⟩, hk, hs⟩ := hB
              replace hi : i < 7 := hi
              have hcc : c = 97 + i := by
                have : ∀ j, j < 7 → (Str.ofString "abcdefg").cps[j]? = some (97 + j) := by decide +kernel
                rw [this i hi] at hc
                exact (Option.some.inj hc).symm
              subst hcc
              have hmS : (L' + 5, oSp2) ∈ led := hsub _ (by repeat' (first | with_reducible exact mem_hd | with_reducible refine mem_tl ?_))
              have hmU : (L' + 3, oUn2) ∈ led := hsub _ (by repeat' (first | with_reducible exact mem_hd | with_reducible refine mem_tl ?_))
              have hm1 : (D1, lst ys1) ∈ led := hsub _ (by repeat' (first | with_reducible exact mem_hd | with_reducible refine mem_tl ?_))
              have hi0 : (0 : Int) ≤ ((i : Nat) : Int) := by omega
              have hi7 : ((i : Nat) : Int) < 7 := by omega
              refine wpAny_tests_one ?_
              clear F28 N28
              have hMk : Hold True := trivial
              k_steps
              refine Hold.of ?_
              rename Hold True => hMk2
              clear hMk2
              refine item_anyK (isList_of (by k_asm) hm1) hR1 (by omega) (by rw [List.length_map, List.length_range]; omega) (by omega) ?_
              intro tu
              rw [unl_getD n i hi]
              k_steps
              · rename_i hb
                refine MEnd.mk F N ?_
                have hcond : (bit (seven n) i != if i + 1 = spotN n then 1 else 0) = true := by
                  rw [bne_iff_ne]; intro e; apply hb
                  rw [e]
                  by_cases h : i + 1 = spotN n
                  · rw [if_pos h, if_pos (by rw [beq_iff_eq]; omega)]; rfl
                  · rw [if_neg h, if_neg (by rw [beq_iff_eq]; omega)]; rfl
                rw [List.range_succ, List.filter_append, List.map_append, List.map_append, List.filter_cons, if_pos hcond]
                exact strs_snoc hRel
              · rename_i hb
                refine MEnd.mk F N ?_
                have hcond : ¬ (bit (seven n) i != if i + 1 = spotN n then 1 else 0) = true := by
                  rw [bne_iff_ne]; intro hne; apply hne
                  by_cases h : i + 1 = spotN n
                  · rw [if_pos h]; rw [if_pos (by rw [beq_iff_eq]; omega)] at hb; omega
                  · rw [if_neg h]; rw [if_neg (by rw [beq_iff_eq]; omega)] at hb; omega
                rw [List.range_succ, List.filter_append, List.map_append, List.map_append, List.filter_cons, if_neg hcond]
                simpa using hRel
            · intro hx9 D9 h29 tk29 ys9 hR9 F29 N29 off9 hD9 hD9L F30 N30
              k_steps
              refine Hold.of ?_
              rw [show (Str.ofString "abcdefg").cps.size = 7 by decide +kernel] at hR9
              have hlO : (onesS n).length ≤ 7 := by unfold onesS; rw [List.length_map]; exact Nat.le_trans (List.length_filter_le _ _) (by decide)
              refine join_M (isList_of N30 (.head _)) hR9 ?_ fun t' k => ?_
              · simp only [List.map_map, Function.comp_def, List.length_cons, List.length_nil, List.length_map]
                refine Nat.le_trans (Nat.add_le_add (Nat.le_trans (Nat.le_of_eq (sum_ones _)) (List.length_filter_le _ _)) (List.length_filter_le _ _)) (by decide)
              rw [flatten_ones]
              have N31 : News g' L' h29 ((c1, oc1) :: (L' + 5, oSp2) :: (D7, lst [.int ((cnt n 1 % 2 : Nat) : Int) o0, .int ((cnt n 2 % 2 : Nat) : Int) o1, .int ((cnt n 4 % 2 : Nat) : Int) o2, .int ((par8 n % 2 : Nat) : Int) o3]) :: (D1, lst ys1) :: (L' + 3, oUn2) :: (L' + 2, oW) :: (L' + 1, oNu) :: (62, tabObj psD1) :: (48, tabObj psI) :: rest) := fun p hp => N30 p (.tail _ hp)
              clear N30 F29 N29 F28 N28
              have hlO2 : (tx (onesS n)).length ≤ 7 := by rw [tx_length]; exact hlO
              rw [show ((List.filter (fun k => bit (seven n) k != if k + 1 = spotN n then 1 else 0) (List.range 7)).map fun k => 97 + k) = onesS n from rfl]
              obtain ⟨d0, t0, R0, ysT, epT, hxT, hdT, hRT, hRowsT⟩ := hpE
              have hx31 := mem_of N31 (.tail _ (.tail _ (.tail _ (.tail _ (.tail _ (.tail _ (.tail _ (.tail _ (.tail _ hxT)))))))))
              have hd31 := mem_of N31 (.tail _ (.tail _ (.tail _ (.tail _ (.tail _ (.tail _ (.tail _ (.tail _ (.tail _ hdT)))))))))
              have hR31 := mem_of N31 (.tail _ (.tail _ (.tail _ (.tail _ (.tail _ (.tail _ (.tail _ (.tail _ (.tail _ hRT)))))))))
              obtain ⟨hk16, hk7, hk8⟩ := tab_facts (seven n) (seven_lt n)
              k_steps
              refine Hold.of ?_
              have hname : Str.ofString "v" ++ tx (onesS n) = tx (nameL (kS (seven n))) := by
                rw [show Str.ofString "v" = tx [118] by decide, tx_append]
                show tx (118 :: onesS n) = tx (118 :: onesL 97 (sevenAt (kS (seven n))))
                unfold onesS onesL sevenAt
                rw [spotN_eq, hk7]
              rw [hname]
              have hq16 : flagAt fl (kS (seven n)) < 65536 := Nat.lt_of_le_of_lt (Nat.div_le_self _ _) hfl
              (refine' Con.use (get_c w loose mean mg mb fl (kS (seven n)) hk16 x _) ?k1 ?k2 ?k3 ?k4 ?k5 ?kK ?kp ?kd ?ku ?_; (case k1 => k_asm); (case k2 => k_asm); (case k3 => k_asm); (case k4 => k_asm); (case k5 => k_asm); (case kK => exact rfl); (case kp => exact ⟨d0, t0, R0, ysT, epT, hx31, hd31, hR31, hRowsT.mono fun p hp => .tail _ (.tail _ (.tail _ (.tail _ (.tail _ (.tail _ (.tail _ (.tail _ (.tail _ hp))))))))⟩); (case kd => ktr_room); (case ku => ktr_units); intro tG h32 tk32 F32 N32; (try dsimp only))
              generalize hqq : flagAt fl (kS (seven n)) = q at *
              k_steps
              refine Hold.of ?_
              rename_i tk33
              have hTI2 : TabOk 48 posI qualI psI ((c1, oc1) :: (L' + 5, oSp2) :: (D7, lst [.int ((cnt n 1 % 2 : Nat) : Int) o0, .int ((cnt n 2 % 2 : Nat) : Int) o1, .int ((cnt n 4 % 2 : Nat) : Int) o2, .int ((par8 n % 2 : Nat) : Int) o3]) :: (D1, lst ys1) :: (L' + 3, oUn2) :: (L' + 2, oW) :: (L' + 1, oNu) :: (62, tabObj psD1) :: rest) := by
                rcases hTI with ⟨e, hNT⟩ | hH
                · refine .inl ⟨e, ?_⟩
                  exact NoTab.cons (.inr (not_fields_vs hcd1 hcv1)) (NoTab.cons (.inr (not_fields_cell dSp2)) (NoTab.cons (.inr (fun h => by cases h)) (NoTab.cons (.inr (fun h => by cases h)) (NoTab.cons (.inr (not_fields_cell dUn2)) (NoTab.cons (.inr (not_fields_cell dW)) (NoTab.cons (.inr (not_fields_cell dNu)) (NoTab.cons (.inl (show (62 : Nat) ≠ 48 by decide)) hNT)))))))
                · exact .inr (hH.mono fun p hp => by repeat' (first | with_reducible exact hp | with_reducible refine mem_tl ?_))
              (refine' ConND.use (strnum_c w loose mean mg mb q hq16 _) ?k1 ?k2 ?k3 ?k4 ?k5 ?kK hTI2 ?kp ?kd ?ku ?_; (case k1 => k_asm); (case k2 => k_asm); (case k3 => k_asm); (case k4 => exact fun p hp => N32 p (by exact sub3 p hp)); (case k5 => k_asm); (case kK => exact rfl); (case kp => trivial); (case kd => ktr_room); (case ku => ktr_units); intro tQ ownQ psI1 h34 tk34 d34 F34 N34 hitQ; (try dsimp only))
              obtain ⟨hTri2, c2, oc2, vs2, ts2, hAm2, hcm2, hcd2, hcv2⟩ := hitQ
              have N35 : News g' L' h34 ((c2, oc2) :: (c1, oc1) :: (L' + 5, oSp2) :: (D7, lst [.int ((cnt n 1 % 2 : Nat) : Int) o0, .int ((cnt n 2 % 2 : Nat) : Int) o1, .int ((cnt n 4 % 2 : Nat) : Int) o2, .int ((par8 n % 2 : Nat) : Int) o3]) :: (L' + 2, oW) :: (L' + 1, oNu) :: (62, tabObj psD1) :: (48, tabObj psI1) :: rest) := fun p hp => by
                rcases List.mem_cons.mp hp with rfl | hp
                · rcases List.mem_append.mp hcm2 with h | h
                  · exact N34 _ (List.mem_append_left _ h)
                  · exact N34 _ (List.mem_append_right _ (.tail _ h))
                · refine N34 p (List.mem_append_right _ ?_)
                  exact sub4 p hp
              clear N34 hcm2 hTI2 hx31 hd31 hR31
              rw [spotN_eq] at *
              have hs0 : (0 : Int) ≤ ((spotS (seven n) : Nat) : Int) := by omega
              have hs8 : ((spotS (seven n) : Nat) : Int) < 8 := by omega
              have hMk : Hold True := trivial
              k_steps
              refine Hold.of ?_
              rename Hold True => hMk2
              clear hMk2
              rename Fr _ _ _ _ => F36
              rename News _ _ _ _ => N36
              have hlate : (([((cnt n 1 % 2 : Nat) : Int), ((cnt n 2 % 2 : Nat) : Int), ((cnt n 4 % 2 : Nat) : Int), ((par8 n % 2 : Nat) : Int)] : List Int).getD (Int.toNat 3) 0 + ((q : Nat) : Int)).fmod 2 = (((par8 n % 2 + q) % 2 : Nat) : Int) := by
                show (((par8 n % 2 : Nat) : Int) + ((q : Nat) : Int)).fmod 2 = (((par8 n % 2 + q) % 2 : Nat) : Int)
                rw [Int.fmod_eq_emod_of_nonneg _ (by decide)]; push_cast; rfl
              rw [hlate] at F36
              have hsub0 : subC (tx [0]) (tx [0]) = 0 := rfl
              have hlN : (par8 n % 2 + q) % 2 = lateN n fl := by rw [← hqq]; rfl
              have hl2 : lateN n fl < 2 := Nat.mod_lt _ (by decide)
              rw [hlN] at F36
              clear hlate hlN
              have hfa : faultN n fl = if spotS (seven n) = 0 then (if lateN n fl = 1 then 14 else 15) else (if lateN n fl = 1 then spotS (seven n) - 1 else spotS (seven n) + 6) := rfl
              generalize lateN n fl = lt at *
              generalize spotS (seven n) = sp at *
              obtain ⟨m36, hm36, F36⟩ := Fr.named F36
              obtain ⟨l36, hl36, N36⟩ := News.named N36
              refine wpAny_join (h₀ := g') (L := L') (fun m' led => led = l36 ∧ ∃ t : Tok, m' = fun y => if y = Str.ofString "fault" then some (.int ((faultN n fl : Nat) : Int) t) else m36 y) ?_ ?_
              · subst hm36 hl36
                have hlt0 : (0 : Int) ≤ ((lt : Nat) : Int) := by omega
                have hlt2 : ((lt : Nat) : Int) < 2 := by omega
                rcases Nat.eq_zero_or_pos sp with h0 | h0
                · have hsz : ((sp : Nat) : Int) = 0 := by omega
                  rcases (show lt = 1 ∨ lt = 0 by omega) with h1 | h1
                  · have hlz : ((lt : Nat) : Int) = 1 := by omega
                    have hf : ((faultN n fl : Nat) : Int) = 14 := by rw [hfa, if_pos h0, if_pos h1]; rfl
                    rw [hf]
                    clear hfa hf hk7 hk8
                    k_steps
                    all_goals (try (exfalso; omega))
                    exact JEnd.mk (by k_asm) (by k_asm) ⟨rfl, _, rfl⟩
                  · have hlz : ((lt : Nat) : Int) = 0 := by omega
                    have hf : ((faultN n fl : Nat) : Int) = 15 := by rw [hfa, if_pos h0, if_neg (by omega)]; rfl
                    rw [hf]
                    clear hfa hf hk7 hk8
                    k_steps
                    all_goals (try (exfalso; omega))
                    exact JEnd.mk (by k_asm) (by k_asm) ⟨rfl, _, rfl⟩
                · have hsz : 0 < ((sp : Nat) : Int) := by omega
                  rcases (show lt = 1 ∨ lt = 0 by omega) with h1 | h1
                  · have hlz : ((lt : Nat) : Int) = 1 := by omega
                    have hf : ((faultN n fl : Nat) : Int) = ((sp : Nat) : Int) - 1 := by rw [hfa, if_neg (by omega), if_pos h1]; omega
                    rw [hf]
                    clear hfa hf hk7 hk8
                    k_steps
                    all_goals (try (exfalso; omega))
                    exact JEnd.mk (by k_asm) (by k_asm) ⟨rfl, _, rfl⟩
                  · have hlz : ((lt : Nat) : Int) = 0 := by omega
                    have hf : ((faultN n fl : Nat) : Int) = ((sp : Nat) : Int) + 6 := by rw [hfa, if_neg (by omega), if_neg (by omega)]; omega
                    rw [hf]
                    clear hfa hf hk7 hk8
                    k_steps
                    all_goals (try (exfalso; omega))
                    exact JEnd.mk (by k_asm) (by k_asm) ⟨rfl, _, rfl⟩
              · rintro h39 tk39 m39 l39 ⟨rfl, tf, rfl⟩ F39 N39
                clear F36 N36
                subst hm36 hl36
                have hf15 := faultN_le n fl
                have hpw : (1 * 2 ^ Int.toNat ((faultN n fl : Nat) : Int) : Int) = ((2 ^ faultN n fl : Nat) : Int) := by
                  rw [Int.toNat_natCast, Int.one_mul]; push_cast; rfl
                have hM : Builtin.bitAnd (Builtin.bitXor (n : Int) (1 * 2 ^ Int.toNat ((faultN n fl : Nat) : Int))) 32767 = ((mendN n fl : Nat) : Int) := by
                  rw [hpw, bitXor_nat, show (32767 : Int) = ((32767 : Nat) : Int) from rfl, bitAnd_nat]; rfl
                have hlev := lev_mend w loose mean mg mb n fl hn
                have hfI0 : (0 : Int) ≤ ((faultN n fl : Nat) : Int) := by omega
                have hfI1 : ((faultN n fl : Nat) : Int) ≤ 15 := by omega
                dsimp only at F39
                generalize ((faultN n fl : Nat) : Int) = fI at *
                clear hpw hfa hk7 hk8 hcnt
                k_steps
                refine Hold.of ?_
                rename Fr _ _ _ _ => F40
                rename News _ _ _ _ => N40
                rw [hM] at F40 ⊢
                clear hM
                (refine' Con.use (spelled_c w loose mean mg mb (mendN n fl) _) ?k1 ?k2 ?k3 ?k4 ?k5 ?kK ?kp ?kd ?ku ?_; (case k1 => k_asm); (case k2 => k_asm); (case k3 => k_asm); (case k4 => k_asm); (case k5 => k_asm); (case kK => exact rfl); (case kp => trivial); (case kd => ktr_room); (case ku => ktr_units); intro tZ h41 tk41 F41 N41; (try dsimp only))
                clear F40 N40
                k_steps
                refine Hold.of ?_
                (refine' Con.use (hlev _ _ _) ?k1 ?k2 ?k3 ?k4 ?k5 ?kK ?kp ?kd ?ku ?_; (case k1 => k_asm); (case k2 => k_asm); (case k3 => k_asm); (case k4 => k_asm); (case k5 => k_asm); (case kK => exact rfl); (case kp => trivial); (case kd => ktr_room); (case ku => ktr_units); intro tD h42 tk42 F42 N42; (try dsimp only))
                clear F41 N41
                k_steps
                rename_i T9 h43 F43 N43 l43 kF kN _ _
                have hin1 : ∀ o : Obj, (c1, oc1) ∈ [(T9, o), (c2, oc2), (c1, oc1)] ++ rest := fun o => .tail _ (.tail _ (.head _))
                have hin2 : ∀ o : Obj, (c2, oc2) ∈ [(T9, o), (c2, oc2), (c1, oc1)] ++ rest := fun o => .tail _ (.head _)
                obtain ⟨tm, kN2⟩ : ∃ tm : Tok, News h₀ L h43 ((T9, ({ cls := .type "tuple", data := .seq #[.int ((mendN n fl : Nat) : Int) tm, .int (if mendN n fl = n then 0 else 1) tD] } : Obj)) :: (c2, oc2) :: (c1, oc1) :: (L' + 5, oSp2) :: (D7, lst [.int ((cnt n 1 % 2 : Nat) : Int) o0, .int ((cnt n 2 % 2 : Nat) : Int) o1, .int ((cnt n 4 % 2 : Nat) : Int) o2, .int ((par8 n % 2 : Nat) : Int) o3]) :: (L' + 2, oW) :: (L' + 1, oNu) :: (62, tabObj psD1) :: (48, tabObj psI1) :: rest) := ⟨_, kN⟩
                refine hret T9 [(T9, ({ cls := .type "tuple", data := .seq #[.int ((mendN n fl : Nat) : Int) tm, .int (if mendN n fl = n then 0 else 1) tD] } : Obj)), (c2, oc2), (c1, oc1)] psD1 psI1 h43 gs20 tk42 d34 ⟨tm, tD, List.mem_cons_self ..⟩ (fun q => hB20 (hB19 q)) kF (fun p hp => kN2 p ?_) ⟨hTri1, c1, oc1, vs1, ts1, hAm1, hin1 _, hcd1, hcv1⟩ ⟨hTri2, c2, oc2, vs2, ts2, hAm2, hin2 _, hcd2, hcv2⟩
                dsimp only [List.cons_append, List.nil_append] at hp ⊢
                exact sub5 p hp
end Mine
end
section
theorem Mine.reset_LW : True := by
  w_top off
  trivial
open PySem PySem.W PyProof.Rows PySem.Calls PyProof.Rows.LCg
namespace Mine
theorem good_true {c : ClaimW} {cl : Str → Option Addr} {mean : ExcName → Option Value} {args : List WData} {s₁ s' : Shared} {L : Addr} {m : Str → Option Value} {tabs : List (Addr × Addr)} (hT : TabsAt tabs s₁.heap) (F : Fr (ghostOf s₁.heap tabs) L s'.heap m) (hgr : GrownAll tabs s'.heap)
    (hn : ∀ cls, c.raises args cls = false) (hp : c.post args (.bool true) args = true) (hos : s'.os = s₁.os) (hB : AllBare s'.gens) : GoodWG c cl mean args s₁ (.ok (.ret (.bool true))) s' := by
  have tab : ∀ b o, s₁.heap.get? b = some o → b ∈ tabs.map (·.2) → isCodeTable s₁.heap b ∧ o = tabObj #[] ∧ ∃ ps, s'.heap.get? b = some (tabObj ps) := by
    intro b o e hb
    obtain ⟨q, hq, rfl⟩ := List.mem_map.mp hb
    have t := hT q hq
    rw [t.2] at e
    exact ⟨(t.1.tab t.2).isCodeTable, (Option.some.inj e).symm, hgr.get q hq⟩
  have kept : ∀ b o, s₁.heap.get? b = some o → b ∉ tabs.map (·.2) → s'.heap.get? b = some o := fun b o e hb => F.keep b o (ghost_ne e hb)
  refine ⟨.inl ⟨.bool true, .bool true, [], rfl, hn, .bool true, hp, unshared_nil⟩, ⟨fun b o e => ?_, fun b o e => ?_⟩, hos, hB⟩
  · rcases Classical.em (b ∈ tabs.map (·.2)) with hb | hb
    · obtain ⟨t1, rfl, ps, t3⟩ := tab b o e hb
      refine .inr (.inl ⟨t1, rfl, #[], ps, rfl, ?_⟩)
      rw [Array.empty_append]; exact t3
    · exact .inl (kept b o e hb)
  · rcases Classical.em (b ∈ tabs.map (·.2)) with hb | hb
    · obtain ⟨_, _, ps, t3⟩ := tab b o e hb; exact ⟨_, t3⟩
    · exact ⟨o, kept b o e hb⟩
theorem RowsAre.clean {fl i : Nat} {ys : List Value} {led : List (Addr × Obj)} (h : RowsAre fl i ys led) : ∃ led', (∀ p ∈ led', p ∈ led) ∧ RowsAre fl i ys led' ∧ ∀ p ∈ led', ∃ a n, p.2.data = .seq a n := by
  induction h with
  | nil led => exact ⟨[], fun _ h => (nomatch h), .nil _, fun _ h => (nomatch h)⟩
  | @snoc i ys led T o h hm hc t1 t2 nn hd ih =>
    obtain ⟨l', a, b, c⟩ := ih
    refine ⟨(T, o) :: l', fun p hp => ?_, .snoc (b.mono fun p hp => .tail _ hp) (.head _) hc t1 t2 hd, fun p hp => ?_⟩
    · rcases List.mem_cons.mp hp with rfl | hp
      · exact hm
      · exact a p hp
    · rcases List.mem_cons.mp hp with rfl | hp
      · exact ⟨_, _, hd⟩
      · exact c p hp
/-- No cell and no table of codes. -/
def Solid (l : List (Addr × Obj)) : Prop := ∀ p ∈ l, (∀ v, p.2.data ≠ .cell v) ∧ p.2.data ≠ .fields #[]
theorem table_clean {w : World} {fl : Nat} {v : Value} {own : List (Addr × Obj)} (h : IsTable w fl v own) : ∃ x TB, v = .ref x ∧ (∀ p ∈ TB, p ∈ own) ∧ IsTab w fl x TB ∧ Solid TB := by
  obtain ⟨x, d, t, R0, ys, ep, rest, rfl, rfl, hr⟩ := h
  obtain ⟨l', a, b, c⟩ := hr.clean
  refine ⟨x, (x, instObj 221 d) :: (d, headObj w t R0) :: (R0, ({ cls := .type "list", data := .seq ys.toArray ep } : Obj)) :: l', rfl, fun p hp => ?_, ⟨d, t, R0, ys, ep, .head _, .tail _ (.head _), .tail _ (.tail _ (.head _)), b.mono fun p hp => .tail _ (.tail _ (.tail _ hp))⟩, fun p hp => ?_⟩
  · rcases List.mem_cons.mp hp with rfl | hp
    · exact .head _
    rcases List.mem_cons.mp hp with rfl | hp
    · exact .tail _ (.head _)
    rcases List.mem_cons.mp hp with rfl | hp
    · exact .tail _ (.tail _ (.head _))
    · exact .tail _ (.tail _ (.tail _ (a p hp)))
  · rcases List.mem_cons.mp hp with rfl | hp
    · exact ⟨fun v e => (by cases e), fun e => (by cases e)⟩
    rcases List.mem_cons.mp hp with rfl | hp
    · exact ⟨fun v e => (by cases e), fun e => (by cases e)⟩
    rcases List.mem_cons.mp hp with rfl | hp
    · exact ⟨fun v e => (by cases e), fun e => (by cases e)⟩
    · obtain ⟨aa, nn, e⟩ := c p hp
      exact ⟨fun v e2 => (by rw [e] at e2; cases e2), fun e2 => (by rw [e] at e2; cases e2)⟩
theorem ne_of_data {h₀ h : Heap} {L : Addr} {led : List (Addr × Obj)} (N : News h₀ L h led) {p q : Addr × Obj} (hp : p ∈ led) (hq : q ∈ led) (hd : p.2.data ≠ q.2.data) : p.1 ≠ q.1 := fun e => by
  have a := (N p hp).1
  have b := (N q hq).1
  rw [e, b] at a
  exact hd (by rw [Option.some.inj a])
theorem fm (a : Int) (k : Nat) (hk : 0 < k) : ∃ r : Nat, a.fmod (k : Int) = (r : Int) ∧ r < k := by
  rw [Int.fmod_eq_emod_of_nonneg _ (Int.natCast_nonneg k)]
  have h1 := Int.emod_nonneg a (show (k : Int) ≠ 0 by omega)
  have h2 := Int.emod_lt_of_pos a (show (0 : Int) < k by omega)
  exact ⟨(a % (k : Int)).toNat, by omega, by omega⟩
theorem IsTab.mono {w : World} {fl : Nat} {x : Addr} {l l' : List (Addr × Obj)} (h : IsTab w fl x l) (hs : ∀ p ∈ l, p ∈ l') : IsTab w fl x l' := by
  obtain ⟨d, t, R0, ys, ep, q1, q2, q3, q4⟩ := h
  exact ⟨d, t, R0, ys, ep, hs _ q1, hs _ q2, hs _ q3, q4.mono hs⟩
theorem ConMD.use {w : World} {loose : List Str} {mean : ExcName → Option Value} {mg mb : Str → Option Value} {f : Addr} {k : Nat} {vs : List Value} {Pre : List (Addr × Obj) → Prop} {Res : Addr → List (Addr × Obj) → Prop} (C : ConMD w loose mean mg mb f k vs Pre Res)
    {dp un : Nat} {gd : Option (List Code)} {cn : Str} {cs : Scope} {a : Addr} {ccd : Value} {cl : List (Str × Addr)} {outer : List Env} {A₀ : Around} {base h₀ : Heap} {L : Addr} {m : Str → Option Value} (rest : List (Addr × Obj)) (psD psI : Array Value) {s : Shared} {Q E : Value → Shared → Prop}
    (B : Below A₀ base outer h₀) (F : Fr h₀ L s.heap m) (X : (hd.heap_39 w.params).In h₀) (N : News h₀ L s.heap ((62, tabObj psD) :: (48, tabObj psI) :: rest)) (T : Top topProg loose mean mg mb h₀) (hk : cs.kind = .function)
    (tD : TabOk 62 posD qualD psD rest) (tI : TabOk 48 posI qualI psI rest) (hp : Pre rest) (hd : dp + k < recursionLimit) (hu : un + 16 * k < cLine)
    (ret : ∀ (T : Addr) (own : List (Addr × Obj)) (psD' psI' : Array Value) (h' : Heap) (g' : Array GenState) (tk' : Nat) (d' : Drawn), Res T own → (AllBare s.gens → AllBare g') → Fr h₀ L h' m → News h₀ L h' (own ++ (62, tabObj psD') :: (48, tabObj psI') :: rest) →
      TabHit posD qualD psD' (own ++ rest) → TabHit posI qualI psI' (own ++ rest) → Q (.ref T) { s with heap := h', gens := g', toks := tk', drawn := d' }) :
    wpAny (model PySem.Challenge.rw_to0078_01.row.toRowW.prog w) (ktrTop dp un gd cn cs L a ccd cl outer) (call (.ref f) vs) Q E s := C _ _ _ _ _ _ _ _ _ _ _ _ _ _ _ _ _ _ _ _ B F X N T hk tD tI hp hd hu ret
/-- What the walk of law ends in. -/
def Done (os : OsState) (g : Heap) (L : Addr) (gs : Array GenState) (f : Flow) (s' : Shared) : Prop := ∃ h' g' tk' d' m led, f = .ret (.bool true) ∧ s' = ⟨h', g', d', tk', os⟩ ∧ (AllBare gs → AllBare g') ∧ Fr g L h' m ∧ News g L h' led ∧ ∃ psD psI, (62, tabObj psD) ∈ led ∧ (48, tabObj psI) ∈ led
theorem law1 {own TB : List (Addr × Obj)} {sv d1 oh ot td ti : Addr × Obj} (hTB : ∀ p ∈ TB, p ∈ own) : ∀ q ∈ sv :: oh :: ot :: td :: ti :: TB, q ∈ own ++ [sv, d1, oh, ot, td, ti] :=
  sub_cons (List.mem_append_right _ (by repeat' (first | with_reducible exact mem_hd | with_reducible refine mem_tl ?_))) (sub_cons (List.mem_append_right _ (by repeat' (first | with_reducible exact mem_hd | with_reducible refine mem_tl ?_))) (sub_cons (List.mem_append_right _ (by repeat' (first | with_reducible exact mem_hd | with_reducible refine mem_tl ?_))) (sub_cons (List.mem_append_right _ (by repeat' (first | with_reducible exact mem_hd | with_reducible refine mem_tl ?_))) (sub_cons (List.mem_append_right _ (by repeat' (first | with_reducible exact mem_hd | with_reducible refine mem_tl ?_))) fun p hp => List.mem_append_left _ (hTB p hp)))))
theorem law2 {own TB : List (Addr × Obj)} {ot oh t cd ci sv td ti : Addr × Obj} (hT : t ∈ own) (hD : cd ∈ own ++ td :: ti :: sv :: oh :: ot :: TB) (hI : ci ∈ own ++ td :: ti :: sv :: oh :: ot :: TB) :
    ∀ q ∈ ot :: oh :: t :: cd :: ci :: sv :: td :: ti :: TB, q ∈ own ++ td :: ti :: sv :: oh :: ot :: TB :=
  sub_cons (List.mem_append_right _ (by repeat' (first | with_reducible exact mem_hd | with_reducible refine mem_tl ?_))) (sub_cons (List.mem_append_right _ (by repeat' (first | with_reducible exact mem_hd | with_reducible refine mem_tl ?_))) (sub_cons (List.mem_append_left _ hT) (sub_cons hD (sub_cons hI (sub_cons (List.mem_append_right _ (by repeat' (first | with_reducible exact mem_hd | with_reducible refine mem_tl ?_))) (sub_cons (List.mem_append_right _ (by repeat' (first | with_reducible exact mem_hd | with_reducible refine mem_tl ?_))) (sub_cons (List.mem_append_right _ (by repeat' (first | with_reducible exact mem_hd | with_reducible refine mem_tl ?_)))
    fun p hp => List.mem_append_right _ (.tail _ (.tail _ (.tail _ (.tail _ (.tail _ hp))))))))))))
theorem law3 {TB : List (Addr × Obj)} {l d3 t ot oh cd ci sv td ti : Addr × Obj} : ∀ q ∈ td :: ti :: ot :: oh :: cd :: ci :: sv :: TB, q ∈ l :: d3 :: ot :: oh :: t :: cd :: ci :: sv :: td :: ti :: TB := by
  repeat' (first | with_reducible exact fun _ h => h | with_reducible refine sub_cons (by repeat' (first | with_reducible exact mem_hd | with_reducible refine mem_tl ?_)) ?_ | with_reducible refine sub_tail ?_)
theorem law4 {own TB : List (Addr × Obj)} {ot oh t cd ci sv td ti : Addr × Obj} (hT : t ∈ own) : ∀ q ∈ [oh, ot, t, sv, td, ti], q ∈ own ++ td :: ti :: ot :: oh :: cd :: ci :: sv :: TB :=
  sub_cons (List.mem_append_right _ (by repeat' (first | with_reducible exact mem_hd | with_reducible refine mem_tl ?_))) (sub_cons (List.mem_append_right _ (by repeat' (first | with_reducible exact mem_hd | with_reducible refine mem_tl ?_))) (sub_cons (List.mem_append_left _ hT) (sub_cons (List.mem_append_right _ (by repeat' (first | with_reducible exact mem_hd | with_reducible refine mem_tl ?_))) (sub_cons (List.mem_append_right _ (by repeat' (first | with_reducible exact mem_hd | with_reducible refine mem_tl ?_))) (sub_cons (List.mem_append_right _ (by repeat' (first | with_reducible exact mem_hd | with_reducible refine mem_tl ?_)))
    fun p hp => absurd hp List.not_mem_nil)))))
theorem law5 {TB : List (Addr × Obj)} {ot oh sv td ti : Addr × Obj} : ∀ q ∈ td :: ti :: sv :: oh :: ot :: TB, q ∈ sv :: oh :: ot :: td :: ti :: TB := by
  repeat' (first | with_reducible exact fun _ h => h | with_reducible refine sub_cons (by repeat' (first | with_reducible exact mem_hd | with_reducible refine mem_tl ?_)) ?_ | with_reducible refine sub_tail ?_)
local macro_rules | `(tactic| kn_posts) => `(tactic| skip)
local macro_rules | `(tactic| walk_at "eval ListComp") => `(tactic| refine Hold.mk ?_)
local macro_rules | `(tactic| walk_at "exec Assign cons ListComp") => `(tactic| refine Hold.mk ?_)
local macro_rules | `(tactic| walk_at "call ref") => `(tactic| refine Hold.mk ?_)
local macro_rules | `(tactic| walk_at "pyIter ref") => `(tactic| refine Hold.mk ?_)
local macro_rules | `(tactic| walk_at "call type:enumerate") => `(tactic| refine Hold.mk ?_)
local macro_rules | `(tactic| walk_at "call builtin:sum") => `(tactic| refine Hold.mk ?_)
local macro_rules | `(tactic| walk_at "subscriptTail Name Slice ref ref") => `(tactic| refine Hold.mk ?_)
local macro_rules | `(tactic| walk_at "storeName") => `(tactic| ((with_reducible rename Hold False → False => hMk); refine Hold.mk ?_))
theorem cw_x : PySem.Challenge.rw_to0078_01.Holds := hd (by
  k_go0
  all_goals try k_fold
  rename Top topProg _ _ _ _ _ => TE
  rename Top hd.view_39 _ _ _ _ _ => T0
  clear T0
  rename Fr _ _ _ _ => F'
  rename News _ _ _ _ => N'
  rename Below _ _ _ _ => B'
  rename IntsAre _ _ => hI
  rename (hd.heap_39 _).In (ghostOf _ _) => X'
  rename_i w s₀ s₁ mg mb G Y fa o pm cd doc ho hcd hgn XM V BT TE2 TW ns hs hlay0 hL1 hr1 hl2 aw1 aw2 scr vs aw3 hLs ra w1 r0 hrr hc1 hc2 hDf h₁ tk₁ oH oT oS dH dT dS X0 ch66 l0
  clear X0 hDf
  replace dS : oS.data = .cell (some (.ref scr)) := dS
  replace dT : oT.data = .cell none := dT
  replace dH : oH.data = .cell none := dH
  refine wpAny_mono (Q := Done s₁.os (ghostOf s₁.heap [(66, 62), (52, 48)]) s₁.heap.objs.size s₁.gens) (E := fun _ _ => False) ?walk ?post (fun _ _ h => h.elim)
  case post =>
    rintro _ _ ⟨h', g', tk', d', m, led, rfl, rfl, hB, Fz, Nz, psD, psI, z1, z2⟩
    refine good_true hT9 Fz ⟨GrownAt.of Nz z1, GrownAt.of Nz z2, True.intro⟩ ?_ ?_ rfl (hB (AllBare.of_eq hgn))
    · exact raisesW_false (by wrow_none_raised)
    · wrow_post
  case walk =>
  replace F' : Fr (ghostOf s₁.heap [(66, 62), (52, 48)]) s₁.heap.objs.size h₁ (fun x => none) := F'
  generalize hg : ghostOf s₁.heap [(66, 62), (52, 48)] = g at *
  generalize hL : s₁.heap.objs.size = L at *
  clear hL1 hr1 hl2 aw1 aw2 aw3 hrr w1 r0 ra hLs hlay0 hs BT TE2 TW V Y G
  k_steps
  refine Hold.of ?_
  refine Assign_ListComp_M F' rfl (by with_unfolding_all rfl) (by with_unfolding_all rfl) (by decide) (by rfl) (by decide) (by with_unfolding_all rfl) (by with_unfolding_all rfl) ?_
  k_steps
  refine Hold.of ?_
  rename Fr _ _ _ _ => F1
  rename News _ _ _ _ => N1
  rename_i l1 h1 l1lt
  refine enum_list_M (its := #[_, _, _, _]) rfl F1 N1 (Or.inr ⟨_, .head _, rfl, _, rfl⟩) (by rfl) (by rfl) (by rfl) (by decide) (by show (4 : Nat) ≤ sizeLine; decide) (Rel := fun i ys => ∃ zs : List Int, IntsAre ys zs ∧ zs.length = i) ⟨[], .nil, rfl⟩ ?_ ?_
  · intro i C oC m₂ ys led h g' tk E' hi hB hC hRel F N hCm hsub
    obtain ⟨a, b, ⟨t, rfl, hb⟩, hk, hs⟩ := hB
    obtain ⟨kk, tv, hks, rfl⟩ := ints_arr (ns := [51030, 26917, 2, 8]) (by exact .cons 51030 _ (.cons 26917 _ (.cons 2 _ (.cons 8 _ .nil)))) hb
    obtain ⟨zs, hz1, hz2⟩ := hRel
    refine wpAny_tests_nil ?_
    simp only [if_true]
    have hmS : (L + 1, oS) ∈ led := hsub _ (.tail _ (.tail _ (.tail _ (.head _))))
    clear l1lt F1 N1
    k_steps
    refine Hold.of ?_
    rename Fr _ _ _ _ => F3
    rename News _ _ _ _ => N3
    refine slice_list3 F3 N3 (F3.lst lifted) (.int _ _) (.int _ _) (.int _ _) (by decide) (fun h' F4 N4 => ?_) (by with_unfolding_all rfl) (by intro _; with_unfolding_all rfl) (by rw [List.size_toArray, hI.length, PySem.sizeLine_eq]; omega)
    dsimp only
    obtain ⟨ws, hws⟩ : ∃ ws : List Value, slicePick vs.toArray (some ((i : Nat) : Int)) (some 16) (some 4) = ws.toArray := ⟨_, (Array.toArray_toList).symm⟩
    have hwI := hI.pick (some ((i : Nat) : Int)) (some 16) (some 4)
    rw [hws] at hwI N4
    generalize pickNums ns (some ((i : Nat) : Int)) (some 16) (some 4) = qs at hwI
    clear F3 N3 hws
    k_steps
    refine Hold.of ?_
    refine sumK rfl (by k_asm) (by k_asm) ⟨_, (N4 _ (.head _)).1, rfl, _, rfl⟩ hwI ?_
    intro h5 tk5 t5 F5 N5
    clear F4 N4
    k_steps
    refine MEnd.mk F5 (fun p hp => N5 p (.tail _ hp)) ⟨zs ++ [_], ints_snoc hz1, by rw [List.length_append, hz2]; rfl⟩
  · intro hx D1 h3 tk3 ys1 hR1 F3 N3 hD1 hD1' hD1L h4 tk4 F4 N4
    clear F3 N3 F1 N1
    (try dsimp only)
    obtain ⟨zs, hz1, hz2⟩ := hR1
    obtain ⟨d0, d1, d2, d3, rfl⟩ : ∃ a b c d, zs = [a, b, c, d] := by
      match zs, hz2 with
      | [a, b, c, d], _ => exact ⟨a, b, c, d, rfl⟩
    obtain ⟨t0, t1, t2, t3, rfl⟩ : ∃ t0 t1 t2 t3 : Tok, ys1 = [.int d0 t0, .int d1 t1, .int d2 t2, .int d3 t3] := by
      cases hz1 with
      | cons _ t0 h => cases h with
        | cons _ t1 h => cases h with
          | cons _ t2 h => cases h with
            | cons _ t3 h => cases h; exact ⟨t0, t1, t2, t3, rfl⟩
    have hD1c : ∀ k : Nat, 1 ≤ k → k ≤ 3 → D1 ≠ L + k := fun k h1 h2 => by
      have e : k = 1 ∨ k = 2 ∨ k = 3 := by omega
      rcases e with rfl | rfl | rfl
      · exact (hD1 (L + 1, oS) (.tail _ (.tail _ (.tail _ (.head _))))).symm
      · exact (hD1 (L + 2, oT) (.tail _ (.tail _ (.head _)))).symm
      · exact (hD1 (L + 3, oH) (.tail _ (.head _))).symm
    have N5 : News g L h4 [(D1, lst [.int d0 t0, .int d1 t1, .int d2 t2, .int d3 t3]), (L + 1 + 1 + 1, oH), (L + 1 + 1, oT), (62, tabObj #[]), (48, tabObj #[])] := fun p hp => N4 p (by
      rcases List.mem_cons.mp hp with rfl | hp
      · exact .head _
      rcases List.mem_cons.mp hp with rfl | hp
      · exact .tail _ (.tail _ (.head _))
      rcases List.mem_cons.mp hp with rfl | hp
      · exact .tail _ (.tail _ (.tail _ (.head _)))
      · exact .tail _ (.tail _ (.tail _ (.tail _ (.tail _ hp)))))
    clear N4 hz1 hz2 hD1 l1lt hx h3 dS
    obtain ⟨fl, e0, hfl⟩ := fm d0 65536 (by decide)
    obtain ⟨n, e1, hn⟩ := fm d1 32768 (by decide)
    obtain ⟨a, e2, ha⟩ := fm d2 15 (by decide)
    obtain ⟨b0, e3, hb0⟩ := fm d3 14 (by decide)
    obtain ⟨b, e4, hb⟩ := fm ((a : Int) + 1 + (b0 : Int)) 15 (by decide)
    replace e0 : d0.fmod 65536 = (fl : Int) := e0
    replace e1 : d1.fmod 32768 = (n : Int) := e1
    replace e2 : d2.fmod 15 = (a : Int) := e2
    replace e3 : d3.fmod 14 = (b0 : Int) := e3
    replace e4 : ((a : Int) + 1 + (b0 : Int)).fmod 15 = (b : Int) := e4
    have hab : a ≠ b := by
      rw [Int.fmod_eq_emod_of_nonneg _ (by decide)] at e4
      omega
    k_steps
    refine Hold.of ?_
    rename Fr _ _ _ _ => F6
    rename News _ _ _ _ => N6
    have g0 : [d0, d1, d2, d3].getD (Int.toNat 0) 0 = d0 := rfl
    have g1 : [d0, d1, d2, d3].getD (Int.toNat 1) 0 = d1 := rfl
    have g2 : [d0, d1, d2, d3].getD (Int.toNat 2) 0 = d2 := rfl
    have g3 : [d0, d1, d2, d3].getD (Int.toNat 3) 0 = d3 := rfl
    simp only [g0, g1, g2, g3, e0, e1, e2, e3, e4] at F6
    obtain ⟨u0, u1, u2, u3, F7⟩ : ∃ u0 u1 u2 u3 : Tok, Fr g L _ (fun y => if y = Str.ofString "second" then some (.int (b : Int) u3) else if y = Str.ofString "first" then some (.int (a : Int) u2) else if y = Str.ofString "number" then some (.int (n : Int) u1) else if y = Str.ofString "flags" then some (.int (fl : Int) u0) else if y = Str.ofString "drawn" then some (.ref D1) else none) := ⟨_, _, _, _, F6⟩
    clear F6 e0 e1 e2 e3 e4 g0 g1 g2 g3
    (refine' ConL.use (sevens_c w _ _ _ _) ?k1 ?k2 ?k3 ?k4 ?k5 ?kK ?kp ?kd ?ku ?_; (case k1 => exact B'); (case k2 => exact F7); (case k3 => exact X'); (case k4 => exact N6); (case k5 => exact TE); (case kK => exact rfl); (case kp => trivial); (case kd => ktr_room); (case ku => ktr_units); intro D2 ys2 ep2 h8 tk8 hS F8 N8; (try dsimp only))
    clear F7 N6
    k_steps
    refine Hold.of ?_
    (refine' ConH.use (table_c w _ _ _ _ fl hfl D2 _ ys2 ep2 hS) ?k1 ?k2 ?k3 ?k4 ?k5 ?kK ?kp ?kd ?ku ?_; (case k1 => k_asm); (case k2 => k_asm); (case k3 => k_asm); (case k4 => k_asm); (case k5 => k_asm); (case kK => exact rfl); (case kp => exact .head _); (case kd => ktr_room); (case ku => ktr_units); intro v9 own9 h9 tk9 hT9 F9 N9; (try dsimp only))
    obtain ⟨x, TB, rfl, hTB, hTab, hSol⟩ := table_clean hT9
    have dSV : ∀ v, ({ cls := .type "list", data := .seq ys2.toArray ep2 } : Obj).data ≠ .cell v := fun v e => by cases e
    have dSV2 : ({ cls := .type "list", data := .seq ys2.toArray ep2 } : Obj).data ≠ .fields #[] := fun e => by cases e
    generalize hSV : ({ cls := .type "list", data := .seq ys2.toArray ep2 } : Obj) = SV at N9 dSV dSV2
    have N10 : News g L h9 ((D2, SV) :: (L + 1 + 1 + 1, oH) :: (L + 1 + 1, oT) :: (62, tabObj #[]) :: (48, tabObj #[]) :: TB) := fun p hp => N9 p (law1 hTB p hp)
    clear N9 hT9 hTB
    k_steps
    refine Hold.of ?_
    rename Fr _ _ _ _ => F11
    rename News _ _ _ _ => N11
    have hNo : ∀ P, NoTab P ((D2, SV) :: (L + 1 + 1 + 1, oH) :: (L + 1 + 1, oT) :: TB) := fun P => .cons (.inr dSV2) (.cons (.inr (not_fields_cell dH)) (.cons (.inr (not_fields_cell dT)) (fun p hp => .inr fun e => (hSol p hp).2 (by rw [e]))))
    (refine' ConMD.use (mended_c w _ _ _ _ n fl hn hfl x _) ((D2, SV) :: (L + 1 + 1 + 1, oH) :: (L + 1 + 1, oT) :: TB) #[] #[] ?k1 ?k2 ?k3 ?k4 ?k5 ?kK (.inl ⟨rfl, hNo _⟩) (.inl ⟨rfl, hNo _⟩) ?kp ?kd ?ku ?_; (case k1 => exact B'); (case k2 => exact F11); (case k3 => exact X'); (case k4 => exact fun p hp => N11 p (law5 p hp)); (case k5 => exact TE); (case kK => exact rfl); (case kp => exact hTab.mono fun p hp => .tail _ (.tail _ (.tail _ hp))); (case kd => ktr_room); (case ku => ktr_units); intro T own psD' psI' h12 g12 tk12 dr12 hRes hBare F12 N12 hitD hitI; (try dsimp only))
    clear F11 N11 hNo
    obtain ⟨t1, t2, hT⟩ := hRes
    obtain ⟨trD, cD, ocD, vsD, tsD, amD, inD, dcD, hvD⟩ := hitD
    obtain ⟨trI, cI, ocI, vsI, tsI, amI, inI, dcI, hvI⟩ := hitI
    have inA : ∀ p, p ∈ own ++ ((D2, SV) :: (L + 1 + 1 + 1, oH) :: (L + 1 + 1, oT) :: TB) → p ∈ own ++ (62, tabObj psD') :: (48, tabObj psI') :: ((D2, SV) :: (L + 1 + 1 + 1, oH) :: (L + 1 + 1, oT) :: TB) := fun p hp => by
      rcases List.mem_append.mp hp with h | h
      · exact List.mem_append_left _ h
      · exact List.mem_append_right _ (.tail _ (.tail _ h))
    have N13 : News g L h12 ((L + 1 + 1, oT) :: (L + 1 + 1 + 1, oH) :: (T, ({ cls := .type "tuple", data := .seq #[.int ((mendN n fl : Nat) : Int) t1, .int (if mendN n fl = n then 0 else 1) t2] } : Obj)) :: (cD, ocD) :: (cI, ocI) :: (D2, SV) :: (62, tabObj psD') :: (48, tabObj psI') :: TB) := fun p hp => N12 p (law2 hT (inA _ inD) (inA _ inI) p hp)
    clear N12 inA inD inI hT own
    have hMk : Hold False → False := fun h => h
    k_steps
    refine Hold.of ?_
    rename Hold False → False => hMk2
    clear hMk2
    rename Fr _ _ _ _ => F14
    rename News _ _ _ _ => N14
    refine storeX_C F14 N14 (by rfl) (UpdF.head fun p hp => ?_) dT fun h15 oT2 F15 N15 dT2 => ?_
    · rcases List.mem_cons.mp hp with rfl | hp2
      · show L + 1 + 1 + 1 ≠ L + 1 + 1; omega
      refine ne_of_data N14 (.tail _ hp) (.head _) ?_
      rw [dT]
      rcases List.mem_cons.mp hp2 with rfl | hp2
      · exact fun e => by cases e
      rcases List.mem_cons.mp hp2 with rfl | hp2
      · exact fun e => by rw [dcD] at e; cases e
      rcases List.mem_cons.mp hp2 with rfl | hp2
      · exact fun e => by rw [dcI] at e; cases e
      rcases List.mem_cons.mp hp2 with rfl | hp2
      · exact dSV _
      rcases List.mem_cons.mp hp2 with rfl | hp2
      · exact fun e => by cases e
      rcases List.mem_cons.mp hp2 with rfl | hp2
      · exact fun e => by cases e
      exact (hSol p hp2).1 _
    clear F14 N14 dT
    (try dsimp only at N15)
    obtain ⟨hPf, _, _, hm0⟩ := perfect n fl hn
    have hDist := distance n fl a b hn ha hb hab
    dsimp only at hDist
    obtain ⟨q, hq⟩ : ∃ q : Int, (if mendN n fl = n then (0 : Int) else 1) = q := ⟨_, rfl⟩
    simp only [hq] at N15 ⊢
    generalize mendN n fl = m0 at *
    have hq2 : (m0 = n ∧ q = 0) ∨ (m0 ≠ n ∧ q = 1) := by
      by_cases hE : m0 = n
      · rw [if_pos hE] at hq; exact .inl ⟨hE, hq.symm⟩
      · rw [if_neg hE] at hq; exact .inr ⟨hE, hq.symm⟩
    clear hq
    k_steps
    refine Hold.of ?_
    rename Fr _ _ _ _ => F16
    rename News _ _ _ _ => N16
    (refine' ConL.use (ball_c w _ _ _ _ n fl D2 _ _ ys2 ep2 hS) ?k1 ?k2 ?k3 ?k4 ?k5 ?kK ?kp ?kd ?ku ?_; (case k1 => exact B'); (case k2 => exact F16); (case k3 => exact X'); (case k4 => exact N16); (case k5 => exact TE); (case kK => exact rfl); (case kp => rw [hSV]; repeat' (first | with_reducible exact mem_hd | with_reducible refine mem_tl ?_)); (case kd => ktr_room); (case ku => ktr_units); intro D3 ys3 ep3 h17 tk17 hY F17 N17; (try dsimp only))
    rw [hPf, List.map_cons, List.map_nil] at hY
    clear F16 N16
    have ha0 : (0 : Int) ≤ (a : Int) := by omega
    have ha1 : (a : Int) < 15 := by omega
    have hb0' : (0 : Int) ≤ (b : Int) := by omega
    have hb1 : (b : Int) < 15 := by omega
    clear hPf
    k_steps
    all_goals try (exfalso; (rename ¬ (_ = _) => hbb); exact hbb rfl)
    · exfalso
      rename q ≠ _ => hbad
      rcases hq2 with ⟨f1, f2⟩ | ⟨f1, f2⟩
      · apply hbad; rw [f2, f1]; simp
      · apply hbad; rw [f2, if_pos]; rw [bne_iff_ne]; omega
    refine Hold.of ?_
    rename Fr _ _ _ _ => F18
    rename News _ _ _ _ => N18
    have hX : Builtin.bitXor (Builtin.bitXor (m0 : Int) (1 * 2 ^ Int.toNat (a : Int))) (1 * 2 ^ Int.toNat (b : Int)) = ((m0 ^^^ 2 ^ a ^^^ 2 ^ b : Nat) : Int) := by
      rw [show Int.toNat (a : Int) = a from rfl, show Int.toNat (b : Int) = b from rfl, Int.one_mul, Int.one_mul, ← bitXor_nat, ← bitXor_nat, Int.natCast_pow, Int.natCast_pow]; rfl
    rw [hX] at F18 ⊢
    clear hX
    obtain ⟨hC1, hC2, hC3⟩ := hDist
    generalize m0 ^^^ 2 ^ a ^^^ 2 ^ b = ch at *
    have N19 : News g L _ ((62, tabObj psD') :: (48, tabObj psI') :: ((L + 1 + 1, oT2) :: (L + 1 + 1 + 1, oH) :: (cD, ocD) :: (cI, ocI) :: (D2, SV) :: TB)) := fun p hp => N18 p (law3 p hp)
    clear N18
    (refine' ConMD.use (mended_c w _ _ _ _ ch fl hC1 hfl x _) ((L + 1 + 1, oT2) :: (L + 1 + 1 + 1, oH) :: (cD, ocD) :: (cI, ocI) :: (D2, SV) :: TB) psD' psI' ?k1 ?k2 ?k3 ?k4 ?k5 ?kK (.inr ⟨trD, cD, ocD, vsD, tsD, amD, .tail _ (.tail _ (.head _)), dcD, hvD⟩) (.inr ⟨trI, cI, ocI, vsI, tsI, amI, .tail _ (.tail _ (.tail _ (.head _))), dcI, hvI⟩) ?kp ?kd ?ku ?_; (case k1 => exact B'); (case k2 => exact F18); (case k3 => exact X'); (case k4 => exact N19); (case k5 => exact TE); (case kK => exact rfl); (case kp => exact hTab.mono fun p hp => .tail _ (.tail _ (.tail _ (.tail _ (.tail _ hp))))); (case kd => ktr_room); (case ku => ktr_units); intro T5 own5 psD2 psI2 h20 g20 tk20 dr20 hRes5 hBare5 F20 N20 hitD5 hitI5; (try dsimp only))
    clear F18 N19 hitD5 hitI5
    obtain ⟨t5, t6, hT5⟩ := hRes5
    rw [if_neg hC2] at hT5
    have N21 : News g L h20 ((L + 1 + 1 + 1, oH) :: (L + 1 + 1, oT2) :: (T5, ({ cls := .type "tuple", data := .seq #[.int ((mendN ch fl : Nat) : Int) t5, .int 1 t6] } : Obj)) :: (D2, SV) :: (62, tabObj psD2) :: (48, tabObj psI2) :: []) := fun p hp => N20 p (law4 hT5 p hp)
    clear N20 hT5 own5
    have hMk : Hold False → False := fun h => h
    k_steps
    refine Hold.of ?_
    rename Hold False → False => hMk2
    clear hMk2
    rename Fr _ _ _ _ => F22
    rename News _ _ _ _ => N22
    refine storeX_C F22 N22 (by rfl) (UpdF.head fun p hp => ?_) dH fun h23 oH2 F23 N23 dH2 => ?_
    · rcases List.mem_cons.mp hp with rfl | hp2
      · show L + 1 + 1 ≠ L + 1 + 1 + 1; omega
      refine ne_of_data N22 (.tail _ hp) (.head _) ?_
      rw [dH]
      rcases List.mem_cons.mp hp2 with rfl | hp2
      · exact fun e => by cases e
      rcases List.mem_cons.mp hp2 with rfl | hp2
      · exact dSV _
      rcases List.mem_cons.mp hp2 with rfl | hp2
      · exact fun e => by cases e
      rcases List.mem_cons.mp hp2 with rfl | hp2
      · exact fun e => by cases e
      exact absurd hp2 List.not_mem_nil
    clear F22 N22 dH
    (try dsimp only at N23)
    have hPf2 := (perfect ch fl hC1).1
    generalize mendN ch fl = m1 at *
    k_steps
    refine Hold.of ?_
    rename Fr _ _ _ _ => F24
    rename News _ _ _ _ => N24
    (refine' ConL.use (ball_c w _ _ _ _ ch fl D2 _ _ ys2 ep2 hS) ?k1 ?k2 ?k3 ?k4 ?k5 ?kK ?kp ?kd ?ku ?_; (case k1 => exact B'); (case k2 => exact F24); (case k3 => exact X'); (case k4 => exact N24); (case k5 => exact TE); (case kK => exact rfl); (case kp => rw [hSV]; repeat' (first | with_reducible exact mem_hd | with_reducible refine mem_tl ?_)); (case kd => ktr_room); (case ku => ktr_units); intro D6 ys6 ep6 h25 tk25 hY6 F25 N25; (try dsimp only))
    rw [hPf2, List.map_cons, List.map_nil] at hY6
    clear F24 N24 hPf2
    k_steps
    all_goals try (exfalso; (rename ¬ (_ = _) => hbb); exact hbb rfl)
    refine Hold.of ?_
    rename Fr _ _ _ _ => F26
    rename News _ _ _ _ => N26
    refine ListComp_M (F₀ := F26) (by with_unfolding_all rfl) (by decide) (by rfl) (by decide) ?_
    k_steps
    refine Hold.of ?_
    rename IsRange _ _ _ _ _ _ _ _ => hR
    rename Fr _ _ _ _ => F27
    rename News _ _ _ _ => N27
    refine iter_range_M rfl F27 N27 hR (by decide) (n := 15) (by decide) rfl rfl (by decide) (Rel := fun i ys => IntsAre ys ((List.range i).map fun k => ((bit (m0 ^^^ m1) k : Nat) : Int))) .nil ?_ ?_
    · intro i C oC m₂ ys led h g' tk E' hi hB hC hRel F N hCm hsub
      obtain ⟨v, ⟨t, rfl⟩, hk⟩ := hB
      refine wpAny_tests_nil ?_
      simp only [if_true]
      have hmT : (L + 1 + 1, oT2) ∈ led := hsub _ (by repeat' (first | with_reducible exact mem_hd | with_reducible refine mem_tl ?_))
      have hmH : (L + 1 + 1 + 1, oH2) ∈ led := hsub _ (by repeat' (first | with_reducible exact mem_hd | with_reducible refine mem_tl ?_))
      rw [show (0 : Int) + (i : Int) = ((i : Nat) : Int) by omega] at hk
      have hi0 : (0 : Int) ≤ ((i : Nat) : Int) := by omega
      clear F27 N27 hR
      k_steps
      refine MEnd.mk F N ?_
      rw [List.range_succ, List.map_append]
      have e : Builtin.bitAnd ((Builtin.bitXor (m0 : Int) (m1 : Int)).fdiv (2 ^ ((i : Nat) : Int).toNat)) 1 = ((bit (m0 ^^^ m1) i : Nat) : Int) := by rw [bitXor_nat]; exact bit_int _ i
      rw [e]
      exact ints_snoc hRel
    · intro hx D7 h27 tk27 ys7 hR7 F28 N28 hD7 hD7' hD7L F29 N29
      k_steps
      refine Hold.of ?_
      have hR7' : IntsAre ys7 (((List.range 15).map (bit (m0 ^^^ m1))).map fun x => ((x : Nat) : Int)) := by rw [List.map_map]; exact hR7
      refine sumK rfl (by k_asm) (by k_asm) (isList_of N29 (.head _)) hR7' ?_
      intro h30 tk30 t30 F30 N30
      rw [sum_cast, hC3, show (((3 : Nat) : Nat) : Int) = 3 from rfl]
      clear F29 N29 F28 N28 F27 N27 hR
      k_steps
      all_goals exact ⟨_, _, _, _, _, _, rfl, rfl, fun q => hBare5 (hBare q), F30, N30, psD2, psI2, by simp only [List.mem_cons]; simp, by simp only [List.mem_cons]; simp⟩)
end Mine
end
theorem PySem.Challenge.cw_to0078_01_holds : PySem.Challenge.rw_to0078_01.Holds :=
  Mine.cw_x
