import PyProof.Rows.All
import Wide.All
import OpenK.AllK
import Wide.FinOn
import PySem.Challenge.RW_dw0001_01
open PySem PySem.W PyProof.Rows
set_option Elab.async false
set_option linter.all false
set_option maxRecDepth 100000

section
namespace Mine
set_option maxHeartbeats 8000000
open_top hd for PySem.Challenge.rw_dw0001_01
end Mine

end
section
namespace Mine
open Sem (wp)

/-- the weakest surroundings of a depth and a weight -/
def Aw (D U : Nat) : Around := { handled := none, depth := D, frames := none, guards := none, units := U }

theorem weaken {M : Model} {α : Type} {A : Around} {D U : Nat} {t : Sem α} {Q : α → Shared → Prop} {E : Value → Shared → Prop} {s : Shared}
    (h : wpAny M (Aw D U) t Q E s) (hh : A.handled = none) (hd : A.depth ≤ D) (hu : A.units ≤ U) : wpAny M A t Q E s :=
  fun Γ p hΓ => h Γ p ⟨hΓ.1.trans hh, Nat.le_trans hΓ.2.1 hd, (fun _ hl => nomatch hl), (fun _ hg => nomatch hg), Nat.le_trans hΓ.2.2.2.2 hu⟩

/-- what a source's own generators may do to the table of generators -/
def GRel (gi : Nat → Prop) (a b : Array GenState) : Prop :=
  b.size = a.size ∧ (∀ k, ¬ gi k → b[k]? = a[k]?) ∧ ∀ (k : Nat) (x : GenState), b[k]? = some x → x.bare = true ∨ a[k]? = some x
theorem GRel.refl {gi : Nat → Prop} (a : Array GenState) : GRel gi a a := ⟨rfl, fun _ _ => rfl, fun _ _ e => .inr e⟩
theorem GRel.trans {gi : Nat → Prop} {a b c : Array GenState} (x : GRel gi a b) (y : GRel gi b c) : GRel gi a c :=
  ⟨y.1.trans x.1, fun k hk => (y.2.1 k hk).trans (x.2.1 k hk), fun k z e => (y.2.2 k z e).elim .inl fun e' => x.2.2 k z e'⟩
theorem GRel.bare {gi : Nat → Prop} {a b : Array GenState} (x : GRel gi a b) (h : AllBare a) : AllBare b := fun y hy => by
  obtain ⟨i, hi, rfl⟩ := Array.mem_iff_getElem.mp hy
  rcases x.2.2 i b[i] (Array.getElem?_eq_getElem hi) with e | e
  · exact e
  · obtain ⟨hi', e'⟩ := Array.getElem?_eq_some_iff.mp e
    exact e' ▸ h _ (Array.getElem_mem hi')

/-- what one step of a source leaves as it was -/
structure Mv (wr : List Addr) (gi : Nat → Prop) (s s' : Shared) : Prop where
  heap : ∀ b o, b ∉ wr → s.heap.get? b = some o → s'.heap.get? b = some o
  gens : GRel gi s.gens s'.gens
  drawn : s'.drawn = s.drawn
  os : s'.os = s.os
theorem Mv.refl {wr : List Addr} {gi : Nat → Prop} (s : Shared) : Mv wr gi s s := ⟨fun _ _ _ e => e, .refl _, rfl, rfl⟩
theorem Mv.trans {wr : List Addr} {gi : Nat → Prop} {s s' s'' : Shared} (x : Mv wr gi s s') (y : Mv wr gi s' s'') : Mv wr gi s s'' :=
  ⟨fun b o hb e => y.heap b o hb (x.heap b o hb e), x.gens.trans y.gens, y.drawn.trans x.drawn, y.os.trans x.os⟩
theorem Mv.mono {wr wr' : List Addr} {gi : Nat → Prop} {s s' : Shared} (x : Mv wr gi s s') (h : ∀ b ∈ wr, b ∈ wr') : Mv wr' gi s s' :=
  ⟨fun b o hb e => x.heap b o (fun q => hb (h b q)) e, x.gens, x.drawn, x.os⟩
theorem Mv.then_heap {wr : List Addr} {gi : Nat → Prop} {s s' : Shared} (x : Mv wr gi s s') {h' : Heap} {tk : Nat} (hk : ∀ b o, b ∉ wr → s'.heap.get? b = some o → h'.get? b = some o) :
    Mv wr gi s { s' with heap := h', toks := tk } := ⟨fun b o hb e => hk b o hb (x.heap b o hb e), x.gens, x.drawn, x.os⟩

/-- a source of n items: an iterator at I; fp: what it reads, wr: what it writes, gi: its generators -/
structure Src (prog : Program) (w : World) (A : Around) (I : Addr) (fp wr : List Addr) (gi : Nat → Prop) (n : Nat) (P : Nat → Value → Prop) (St : Nat → Shared → Prop) : Prop where
  sub : ∀ b ∈ wr, b ∈ fp
  frame : ∀ i (s s' : Shared), St i s → (∀ b ∈ fp, ∀ o, s.heap.get? b = some o → s'.heap.get? b = some o) → (∀ k, gi k → s'.gens[k]? = s.gens[k]?) → St i s'
  item : ∀ i (s : Shared) (Q : Option Value → Shared → Prop) (E : Value → Shared → Prop), i < n → St i s →
    (∀ v s', P i v → St (i + 1) s' → Mv wr gi s s' → Q (some v) s') → wpAny (model prog w) A (pyNext (.ref I)) Q E s
  done : ∀ (s : Shared) (Q : Option Value → Shared → Prop) (E : Value → Shared → Prop), St n s → (∀ s', Mv wr gi s s' → Q none s') → wpAny (model prog w) A (pyNext (.ref I)) Q E s
  self : ∀ i (s : Shared) (Q : Value → Shared → Prop) (E : Value → Shared → Prop), St i s → Q (.ref I) s → wpAny (model prog w) A (pyIter (.ref I)) Q E s

section
variable {prog : Program} {w : World} {A : Around} {I : Addr} {fp wr : List Addr} {gi : Nat → Prop} {n : Nat} {P : Nat → Value → Prop} {St : Nat → Shared → Prop}

theorem Src.weaken {D U : Nat} (W : Src prog w (Aw D U) I fp wr gi n P St) (hh : A.handled = none) (hd : A.depth ≤ D) (hu : A.units ≤ U) : Src prog w A I fp wr gi n P St where
  sub := W.sub
  frame := W.frame
  item := fun i s Q E hi st hQ => Mine.weaken (W.item i s Q E hi st hQ) hh hd hu
  done := fun s Q E st hQ => Mine.weaken (W.done s Q E st hQ) hh hd hu
  self := fun i s Q E st hQ => Mine.weaken (W.self i s Q E st hQ) hh hd hu

theorem Src.mono_fp {fp' : List Addr} (W : Src prog w A I fp wr gi n P St) (h : ∀ b ∈ fp, b ∈ fp') : Src prog w A I fp' wr gi n P St where
  sub := fun b hb => h b (W.sub b hb)
  frame := fun i s s' st hk hg => W.frame i s s' st (fun b hb o e => hk b (h b hb) o e) hg
  item := W.item
  done := W.done
  self := W.self

theorem Src.ofWalks {St₀ : Nat → Heap → Prop} (W : Walks prog w A I fp wr n P St₀) : Src prog w A I fp wr (fun _ => False) n P (fun i s => St₀ i s.heap) where
  sub := W.sub
  frame := fun i s s' st hk _ => W.frame i s.heap s'.heap st hk
  item := fun i s Q E hi st hQ => W.item i s Q E hi st fun v _ _ hP st' hk => hQ v _ hP st' ⟨hk, .refl _, rfl, rfl⟩
  done := fun s Q E st hQ => W.done s Q E st fun _ _ hk => hQ _ ⟨hk, .refl _, rfl, rfl⟩
  self := fun i s Q E st hQ => W.self i s Q E st hQ

theorem Src.toS (W : Src prog w A I fp wr gi n P St) : WalksS prog w A I fp wr (GRel gi) n P St where
  sub := W.sub
  grefl := GRel.refl
  gtrans := fun _ _ _ x y => x.trans y
  frame := fun i s h' tk st _ hk => W.frame i s _ st hk fun _ _ => rfl
  item := fun i s Q E hi st hQ => wpAny_with_toks (Nat.le_refl s.toks) (W.item i s _ _ hi st fun v s' hP st' m htk => hQ v s' hP st' ⟨m.heap, m.gens, m.drawn, m.os, htk⟩)
  done := fun s Q E st hQ => wpAny_with_toks (Nat.le_refl s.toks) (W.done s _ _ st fun s' m htk => hQ s' ⟨m.heap, m.gens, m.drawn, m.os, htk⟩)
  self := W.self

/-- what a generator over a source says at a yield -/
def proto (C : Addr) (fp wr : List Addr) (gi : Nat → Prop) (n : Nat) (F : Nat → Value → Prop) : Protocol := fun m s₀ v s kap =>
  F (n - 1 - m) v ∧ Mv (C :: wr) gi s₀ s ∧
    ∀ s'' : Shared, (∀ b ∈ C :: fp, ∀ o, s.heap.get? b = some o → s''.heap.get? b = some o) → (∀ k, gi k → s''.gens[k]? = s.gens[k]?) → kap (.send .none) s''

/-- the element, quietly -/
def Quiet (prog : Program) (w : World) (cenv : Env) (x : Str) (elt : Expr) (fp wr : List Addr) (P : Nat → Value → Prop) (F : Nat → Value → Prop) (href : Heap) : Prop :=
  ∀ (A' : Around) E' i v (s₂ : Shared) m₂, A'.handled = none → P i v → s₂.heap.Ns cenv.locals m₂ → m₂ x = some v → (∀ b ∈ fp, b ∉ wr → ∀ o, href.get? b = some o → s₂.heap.get? b = some o) →
    wpAny (model prog w) A' (eval elt cenv) (fun y s₃ => F i y ∧ Keeps s₂ s₃) E' s₂

theorem seg_loop {elt iter : Expr} {x : Str} {px : Pos} {scope : Scope} {pos : Pos} {cenv : Env}
    (hh : A.handled = none) (W : ∀ A' : Around, A'.handled = none → A'.depth ≤ A.depth + 1 → A'.units ≤ A.units + 3 → Src prog w A' I fp wr gi n P St) (F : Nat → Value → Prop) (href : Heap)
    (hx : cenv.kindOf x = some .local) (hp : (cenv.scope.kind == .class || (cenv.scope.kind == .module && cenv.locals != cenv.globals)) = false)
    (hco : cenv.scope.isCoroutine = false) (hCf : cenv.locals ∉ fp) (hq : Quiet prog w cenv x elt fp wr P F href) :
    ∀ (k i : Nat) (s₀ s : Shared) (m : Str → Option Value), n - i = k → i ≤ n → St i s → s.heap.Ns cenv.locals m → Mv (cenv.locals :: wr) gi s₀ s →
      (∀ b ∈ fp, b ∉ wr → ∀ o, href.get? b = some o → s.heap.get? b = some o) →
      Seg (model prog w) A (fun j s₀ r s₁ => r = .ok .next ∧ (j = 0 ∧ Mv (cenv.locals :: wr) gi s₀ s₁)) (proto cenv.locals fp wr gi n F) (n - i) s₀
        (.compLoop (.GeneratorExp elt [⟨.Name x px, iter, [], 0⟩] scope pos) 0 (.ref I) .none cenv)
        ((model prog w).den (.compLoop (.GeneratorExp elt [⟨.Name x px, iter, [], 0⟩] scope pos) 0 (.ref I) .none cenv)) [] s := by
  have hh' : (A.over (.compLoop (.GeneratorExp elt [⟨.Name x px, iter, [], 0⟩] scope pos) 0 (.ref I) .none cenv) []).handled = none := hh
  have hdep' : (A.over (.compLoop (.GeneratorExp elt [⟨.Name x px, iter, [], 0⟩] scope pos) 0 (.ref I) .none cenv) []).depth ≤ A.depth + 1 := Nat.le_of_eq rfl
  have huni' : (A.over (.compLoop (.GeneratorExp elt [⟨.Name x px, iter, [], 0⟩] scope pos) 0 (.ref I) .none cenv) []).units ≤ A.units + 3 := Nat.le_of_eq rfl
  have W₁ := W A hh (Nat.le_succ _) (Nat.le_add_right _ _)
  have hCw : cenv.locals ∉ wr := fun h => hCf (W₁.sub _ h)
  have hsub : ∀ b ∈ wr, b ∈ cenv.locals :: wr := fun b hb => List.mem_cons_of_mem _ hb
  intro k
  induction k with
  | zero =>
    intro i s₀ s m hk hi hst hn hsince hkp
    have hin : i = n := by omega
    subst hin
    show Seg _ A _ _ _ s₀ _ ((compTurn (.GeneratorExp elt [⟨.Name x px, iter, [], 0⟩] scope pos) 0 (.ref I) .none cenv).onRaise (leaving cenv)) [] s
    rw [compTurn_gen, Sem.onRaise_eq_wrap]
    refine seg_bind_wrap (wpAny_standAt ?_)
    refine seg_bind_wrap ((W _ hh' hdep' huni').done s _ _ hst fun s' hm => ?_)
    exact seg_end (.ok .next) ⟨rfl, Nat.sub_self _, hsince.trans (hm.mono hsub)⟩
  | succ k ih =>
    intro i s₀ s m hk hi hst hn hsince hkp
    have hlt : i < n := by omega
    show Seg _ A _ _ _ s₀ _ ((compTurn (.GeneratorExp elt [⟨.Name x px, iter, [], 0⟩] scope pos) 0 (.ref I) .none cenv).onRaise (leaving cenv)) [] s
    rw [compTurn_gen, Sem.onRaise_eq_wrap]
    refine seg_bind_wrap (wpAny_standAt ?_)
    refine seg_bind_wrap ((W _ hh' hdep' huni').item i s _ _ hlt hst fun v s₁ hPv hst₁ hm₁ => ?_)
    refine seg_bind_wrap (wpAny_of_eq (rfl : letOwnedTupleGo (.Name x px) (.ref I) v = pure ()) ?_)
    refine seg_bind_wrap (wpAny_assign_Name (wpAny_storeName_local hx (hn.at' fun o e => hm₁.heap _ o hCw e) (fun h₂ hn₂ hs₂ => ?_) hp))
    have up₂ : ∀ b o, b ≠ cenv.locals → b ∉ wr → s.heap.get? b = some o → h₂.get? b = some o := fun b o hbC hbw e => hs₂.extBut b o hbC (hm₁.heap b o hbw e)
    have hst₂ : St (i + 1) { s₁ with heap := h₂, toks := s₁.toks + 1 } := W₁.frame _ _ _ hst₁ (fun b hb o e => hs₂.extBut b o (fun h => hCf (h ▸ hb)) e) fun _ _ => rfl
    have hkp₂ : ∀ b ∈ fp, b ∉ wr → ∀ o, href.get? b = some o → h₂.get? b = some o := fun b hb hbw o e => up₂ b o (fun h => hCf (h ▸ hb)) hbw (hkp b hb hbw o e)
    have hm₂ : Mv (cenv.locals :: wr) gi s₀ { s₁ with heap := h₂, toks := s₁.toks + 1 } :=
      (hsince.trans (hm₁.mono hsub)).then_heap fun b o hb e => hs₂.extBut b o (fun h => hb (h ▸ List.mem_cons_self ..)) e
    refine seg_bind_wrap (wpAny_pure ?_)
    simp only [if_true]
    have hy : ∀ v, yieldOut cenv v = yieldValue v := fun v => by simp only [yieldOut, hco, Bool.false_eq_true, if_false]
    simp only [hy]
    rw [Sem.bind_eq_wrap', Sem.bind_eq_wrap', Sem.wrap_wrap, Sem.wrap_wrap]
    have hni : n - i = (n - (i + 1)) + 1 := by omega
    rw [hni]
    refine seg_wrap (wpAny_mono (hq _ (fun _ _ => False) i v _ _ hh' hPv hn₂ (by simp) hkp₂) (fun y s₄ h₄ => ?_) fun _ _ e => e.elim)
    obtain ⟨hFy, h₄, tk₄, rfl, hk₄⟩ := h₄
    refine seg_at (seg_yield rfl rfl rfl ⟨?_, hm₂.then_heap fun b o _ e => hk₄ b o e, fun s'' hal hgs => ?_⟩)
    · have e : n - 1 - (n - (i + 1)) = i := by omega
      rw [e]; exact hFy
    refine seg_again rfl (ih (i + 1) s'' s'' _ (by omega) hlt (W₁.frame _ _ _ hst₂ (fun b hb o e => hal b (List.mem_cons_of_mem _ hb) o (hk₄ b o e)) hgs)
      ((hn₂.keeps hk₄).at' fun o e => hal _ (List.mem_cons_self ..) o e) (.refl _) fun b hb hbw o e => hal b (List.mem_cons_of_mem _ hb) o (hk₄ b o (hkp₂ b hb hbw o e)))
end
end Mine

end
section
namespace Mine
open Sem (wp)
section
variable {prog : Program} {w : World} {A : Around} {I : Addr} {fp wr : List Addr} {gi : Nat → Prop} {n : Nat} {P : Nat → Value → Prop} {St : Nat → Shared → Prop}

theorem seg_start {elt iter : Expr} {x : Str} {px : Pos} {scope : Scope} {pos : Pos} {cenv : Env}
    (hh : A.handled = none) (W : ∀ A' : Around, A'.handled = none → A'.depth ≤ A.depth + 1 → A'.units ≤ A.units + 3 → Src prog w A' I fp wr gi n P St) (F : Nat → Value → Prop) (href : Heap)
    (hx : cenv.kindOf x = some .local) (hp : (cenv.scope.kind == .class || (cenv.scope.kind == .module && cenv.locals != cenv.globals)) = false)
    (hco : cenv.scope.isCoroutine = false) (hCf : cenv.locals ∉ fp) (hq : Quiet prog w cenv x elt fp wr P F href)
    (s₀ s : Shared) (m : Str → Option Value) (hst : St 0 s) (hn : s.heap.Ns cenv.locals m) (hsince : Mv (cenv.locals :: wr) gi s₀ s)
    (hkp : ∀ b ∈ fp, b ∉ wr → ∀ o, href.get? b = some o → s.heap.get? b = some o) :
    Seg (model prog w) A (fun j s₀ r s₁ => r = .ok .next ∧ (j = 0 ∧ Mv (cenv.locals :: wr) gi s₀ s₁)) (proto cenv.locals fp wr gi n F) n s₀
      (.compStart (.GeneratorExp elt [⟨.Name x px, iter, [], 0⟩] scope pos) 0 (.ref I) .none cenv)
      ((model prog w).den (.compStart (.GeneratorExp elt [⟨.Name x px, iter, [], 0⟩] scope pos) 0 (.ref I) .none cenv)) [] s := by
  have hh' : (A.over (.compStart (.GeneratorExp elt [⟨.Name x px, iter, [], 0⟩] scope pos) 0 (.ref I) .none cenv) []).handled = none := hh
  have hdep' : (A.over (.compStart (.GeneratorExp elt [⟨.Name x px, iter, [], 0⟩] scope pos) 0 (.ref I) .none cenv) []).depth ≤ A.depth + 1 := Nat.le_of_eq rfl
  have huni' : (A.over (.compStart (.GeneratorExp elt [⟨.Name x px, iter, [], 0⟩] scope pos) 0 (.ref I) .none cenv) []).units ≤ A.units + 3 := Nat.le_of_eq rfl
  have loop := seg_loop (iter := iter) (px := px) (scope := scope) (pos := pos) hh W F href hx hp hco hCf hq n 0 s₀ s m (Nat.sub_zero _) (Nat.zero_le _) hst hn hsince hkp
  show Seg _ A _ _ _ s₀ _ ((compStart (.GeneratorExp elt [⟨.Name x px, iter, [], 0⟩] scope pos) 0 (.ref I) .none cenv).onRaise (leaving cenv)) [] s
  unfold compStart
  rw [Sem.onRaise_eq_wrap]
  show Seg _ A _ _ _ s₀ _ ((ask >>= _).wrap _ _ _ _) [] s
  refine seg_bind_wrap (wpAny_askSetting ?_)
  split
  · exact seg_again rfl loop
  · first
      | exact seg_bind_wrap (wpAny_rule (seg_bind_wrap (wpAny_standAt (seg_bind_wrap ((W _ hh' hdep' huni').self 0 s _ _ hst (seg_again rfl loop))))))
      | (refine seg_bind_wrap (wpAny_rule ?_); show Seg _ A _ _ _ s₀ _ ((standAt iter.pos >>= _).wrap _ _ _ _) [] s; exact seg_bind_wrap (wpAny_standAt (seg_bind_wrap ((W _ hh' hdep' huni').self 0 s _ _ hst (seg_again rfl loop)))))

/-- a generator of the expression, j items taken -/
def GAt (prog : Program) (w : World) (A : Around) (a : Addr) (g : Nat) (C : Addr) (fp wr : List Addr) (gi : Nat → Prop) (n : Nat) (F : Nat → Value → Prop) (j : Nat) (s : Shared) : Prop :=
  s.heap.IsGen a g ∧ s.heap.NoLimit ∧ ∃ gs, s.gens[g]? = some gs ∧ ∀ s'' : Shared, (∀ b ∈ C :: fp, ∀ o, s.heap.get? b = some o → s''.heap.get? b = some o) → (∀ k, gi k → s''.gens[k]? = s.gens[k]?) →
    gs.Goes (model prog w) A.in1 (fun m s₀ r s₁ => r = .ok .next ∧ (m = 0 ∧ Mv (C :: wr) gi s₀ s₁)) (proto C fp wr gi n F) (n - j) (.send .none) s''

theorem setGen_ne {s : Shared} {g k : Nat} {x : GenState} (h : k ≠ g) : (s.setGen g x).gens[k]? = s.gens[k]? := by simp [Shared.setGen, Ne.symm h]
theorem grel_setGen {gi : Nat → Prop} {s s₁ : Shared} {g : Nat} {x : GenState} (hx : x.bare = true) (r : GRel gi (s.setGen g .running).gens s₁.gens) : GRel (fun k => k = g ∨ gi k) s.gens (s₁.setGen g x).gens := by
  refine ⟨by simpa [Shared.setGen] using r.1, fun k hk => ?_, fun k y e => ?_⟩
  · have h1 : k ≠ g := fun q => hk (.inl q)
    rw [setGen_ne h1, r.2.1 k fun q => hk (.inr q), setGen_ne h1]
  · by_cases h1 : k = g
    · subst h1
      have hlt : k < (s₁.setGen k x).gens.size := by
        rcases Nat.lt_or_ge k (s₁.setGen k x).gens.size with h' | h'
        · exact h'
        · rw [Array.getElem?_eq_none h'] at e; cases e
      have hlt' : k < s₁.gens.size := by simpa [Shared.setGen] using hlt
      have e2 : (s₁.setGen k x).gens[k]? = some x := by simp [Shared.setGen, hlt']
      rw [e2] at e; cases e; exact .inl hx
    · rw [setGen_ne h1] at e
      exact (r.2.2 k y e).imp id fun e' => by rw [setGen_ne h1] at e'; exact e'

theorem Src.genexp (hh : A.handled = none) (a : Addr) (g : Nat) (C : Addr) (F : Nat → Value → Prop) (haC : a ≠ C) (haf : a ∉ fp) (hsub : ∀ b ∈ wr, b ∈ fp) (hgi : ¬ gi g)
    (hroom : A.depth < recursionLimit) (hcs : cStatics ∈ fp) (hcC : cStatics ≠ C) (hcw : cStatics ∉ wr) :
    Src prog w A a (a :: C :: fp) (C :: wr) (fun k => k = g ∨ gi k) n F (GAt prog w A a g C fp wr gi n F) where
  sub := fun b hb => by
    rcases List.mem_cons.mp hb with rfl | hb
    · simp
    · exact List.mem_cons_of_mem _ (List.mem_cons_of_mem _ (hsub b hb))
  frame := fun j s s' st hk hg =>
    ⟨let ⟨o, nm, qn, ho, r⟩ := st.1; ⟨o, nm, qn, hk a (List.mem_cons_self ..) o ho, r⟩,
     (let ⟨mc, hns, hnn⟩ := st.2.1; ⟨mc, hns.at' fun o e => hk cStatics (List.mem_cons_of_mem _ (List.mem_cons_of_mem _ hcs)) o e, hnn⟩),
     let ⟨gs, hgs, hgo⟩ := st.2.2; ⟨gs, (hg g (.inl rfl)).trans hgs, fun s'' hal hgl => hgo s'' (fun b hb o e => hal b hb o (hk b (List.mem_cons_of_mem _ hb) o e)) fun k q => (hgl k q).trans (hg k (.inr q))⟩⟩
  item := fun j s Q E hj st hQ => by
    obtain ⟨hg, hl, gs, hgs, hgo⟩ := st
    obtain ⟨m, hm⟩ : ∃ m, n - j = m + 1 := ⟨n - j - 1, by omega⟩
    rw [hm] at hgo
    have hkne : ∀ k, gi k → k ≠ g := fun k q e => hgi (e ▸ q)
    refine wpAny_pyNext_genexpQ (P := fun n s₀ s₁ => n = 0 ∧ Mv (C :: wr) gi s₀ s₁) hh hl hroom hg hgs (hgo _ (fun _ _ _ e => e) fun k q => setGen_ne (hkne k q)) (fun v s₁ gs' hb hv => ?_) (fun s₁ hp h' hk => ?_)
    · obtain ⟨hF, hmv, hkap⟩ := hv
      have hidx : n - 1 - (m + 1 - 1) = j := by omega
      rw [hidx] at hF
      have haw : a ∉ C :: wr := fun h => (List.mem_cons.mp h).elim haC fun q => haf (hsub a q)
      have hcw' : cStatics ∉ C :: wr := fun h => (List.mem_cons.mp h).elim hcC hcw
      have hlt : g < s.gens.size := by
        rcases Nat.lt_or_ge g s.gens.size with h' | h'
        · exact h'
        · rw [Array.getElem?_eq_none h'] at hgs; cases hgs
      have hlt₁ : g < s₁.gens.size := by rw [hmv.gens.1]; simpa [Shared.setGen] using hlt
      refine hQ v _ hF ⟨let ⟨o, nm, qn, ho, r⟩ := hg; ⟨o, nm, qn, hmv.heap a o haw ho, r⟩, (let ⟨mc, hns, hnn⟩ := hl; ⟨mc, hns.at' fun o e => hmv.heap cStatics o hcw' e, hnn⟩), gs', by simp [Shared.setGen, hlt₁], fun s'' hal hgl => ?_⟩
        ⟨fun b o hb e => hmv.heap b o hb e, grel_setGen hb hmv.gens, hmv.drawn, hmv.os⟩
      have e : n - (j + 1) = m := by omega
      rw [e]
      exact hkap s'' hal fun k q => (hgl k q).trans (setGen_ne (hkne k q))
    · exact absurd hp.1 (Nat.succ_ne_zero m)
  done := fun s Q E st hQ => by
    obtain ⟨hg, hl, gs, hgs, hgo⟩ := st
    rw [Nat.sub_self] at hgo
    have hkne : ∀ k, gi k → k ≠ g := fun k q e => hgi (e ▸ q)
    refine wpAny_pyNext_genexpQ (P := fun n s₀ s₁ => n = 0 ∧ Mv (C :: wr) gi s₀ s₁) hh hl hroom hg hgs (hgo _ (fun _ _ _ e => e) fun k q => setGen_ne (hkne k q)) (fun v s₁ gs' hb hv => ?_) (fun s₁ hp h' hk => ?_)
    · obtain ⟨_, _, hkap⟩ := hv
      exact False.elim (hkap s₁ (fun _ _ _ e => e) fun _ _ => rfl)
    · obtain ⟨_, hmv⟩ := hp
      exact hQ _ ⟨fun b o hb e => hk b o (hmv.heap b o hb e), grel_setGen rfl hmv.gens, hmv.drawn, hmv.os⟩
  self := fun _ _ _ _ st hQ => wpAny_pyIter_gen st.1 hQ

theorem GAt.fresh {elt iter : Expr} {x : Str} {px : Pos} {scope : Scope} {pos : Pos} {a : Addr} {g : Nat} {cenv : Env}
    (hh : A.handled = none) (W : ∀ A' : Around, A'.handled = none → A'.depth ≤ A.depth + 1 → A'.units ≤ A.units + 4 → Src prog w A' I fp wr gi n P St) (F : Nat → Value → Prop)
    (hx : cenv.kindOf x = some .local) (hp : (cenv.scope.kind == .class || (cenv.scope.kind == .module && cenv.locals != cenv.globals)) = false)
    (hco : cenv.scope.isCoroutine = false) (hCf : cenv.locals ∉ fp) {s : Shared} {m : Str → Option Value} (hq : Quiet prog w cenv x elt fp wr P F s.heap)
    (hg : s.heap.IsGen a g) (hgs : s.gens[g]? = some (.fresh (.compStart (.GeneratorExp elt [⟨.Name x px, iter, [], 0⟩] scope pos) 0 (.ref I) .none cenv)))
    (hst : St 0 s) (hn : s.heap.Ns cenv.locals m) (hl : s.heap.NoLimit) : GAt prog w A a g cenv.locals fp wr gi n F 0 s :=
  ⟨hg, hl, _, hgs, fun s'' hal hgl => ⟨rfl, seg_start (A := A.in1) hh (fun A' h1 h2 h3 => W A' h1 h2 (by have : A'.units ≤ A.units + 1 + 3 := h3; omega)) F s.heap hx hp hco hCf hq s'' s'' m
    ((W A hh (Nat.le_succ _) (Nat.le_add_right _ _)).frame _ _ _ hst (fun b hb o e => hal b (List.mem_cons_of_mem _ hb) o e) hgl)
    (hn.at' fun o e => hal _ (List.mem_cons_self ..) o e) (.refl _) fun b hb _ o e => hal b (List.mem_cons_of_mem _ hb) o e⟩⟩
end
end Mine

end
section
namespace Mine
open Sem (wp)

/-- the table of a code object, well made -/
def TabOk (Pt : Addr) (h : Heap) : Prop := ∃ ps, h.get? Pt = some (tabObj ps) ∧ TriplesOk ps.toList

section
variable {M : Model} {A : Around} {E : Value → Shared → Prop} {s : Shared}
theorem code_step {env : Env} {c Pt : Addr} {pos : Pos} {qualname : Str} {scope : Scope} {Q : Value → Shared → Prop} (hc : env.code = .ref c) (hd : CodeHd s.heap c Pt) (ht : TabOk Pt s.heap)
    (hQ : ∀ code h' tk, Heap.ExtBut Pt s.heap h' → s.heap.objs.size ≤ h'.objs.size → TabOk Pt h' → Q code { s with heap := h', toks := tk }) :
    wpAny M A (genexprCode env pos qualname scope) Q E s := by
  obtain ⟨ps, hP, htr⟩ := ht
  have hok : s.heap.IsCode c Pt ps := hd.code hP htr
  cases hnf : codeAmong pos ps.toList with
  | none =>
    refine wpAny_genexprCodeX hc hok (hd.tab hP) hnf fun c' h' tk hx h1 h2 hcode _ htab _ => ?_
    refine hQ _ h' tk hx (by omega) ⟨_, htab.2, ?_⟩
    obtain ⟨_, _, _, _, _, _, _, _, _, _, _, _, _, _, _, _, _, hop, hpd, htr', _⟩ := hcode
    exact htr'
  | some cv =>
    exact wpAny_genexprCode_hit hc hok hnf (hQ cv s.heap s.toks (Heap.ExtBut.refl _ _) (Nat.le_refl _) ⟨ps, hP, htr⟩)
end

section
variable {prog : Program} {w : World} {A : Around} {E : Value → Shared → Prop} {s : Shared}

theorem gen_make {env : Env} {elt iter : Expr} {x : Str} {px : Pos} {scope : Scope} {cl : List (Str × Addr)} {pos : Pos} {Q : Value → Shared → Prop} {c Pt bm : Addr} {mg : Str → Option Value} {ob : Obj} (D U : Nat)
    (hD : D < recursionLimit) (hcode : env.code = .ref c)
    (hco : scope.isCoroutine = false) (hclos : closureFor scope env = pure cl) (hcell : ∀ y ∈ scope.names, y.2 ≠ .cell) (h0 : scope.names.lookup (".0" : Str) = some NameKind.local)
    (hx : scope.names.lookup x = some .local) (hkind : scope.kind = .function) (hroom : A.depth < recursionLimit)
    (h : wpAny (model prog w) A (eval iter env) (fun xv s₁ => wpAny (model prog w) A (pyIter xv) (fun it s₂ => s₂.heap.NoLimit ∧ CodeHd s₂.heap c Pt ∧ TabOk Pt s₂.heap ∧ BMod s₂.heap env.globals mg bm ob ∧ Pt ≠ cStatics ∧ env.globals ≠ Pt ∧ bm ≠ Pt ∧
      ∃ (I : Addr) (fp wr kp : List Addr) (gi : Nat → Prop) (n : Nat) (P : Nat → Value → Prop) (St : Nat → Shared → Prop) (F : Nat → Value → Prop), it = .ref I ∧ Src prog w (Aw (D + 1) (U + 4)) I fp wr gi n P St ∧ St 0 s₂ ∧ (∀ b ∈ fp, b < s₂.heap.objs.size) ∧ Pt ∉ fp ∧
        cStatics ∉ wr ∧ (∀ k, gi k → k < s₂.gens.size) ∧ (∀ b ∈ kp, b < s₂.heap.objs.size) ∧
        (∀ (C : Addr) (code : Value) (href : Heap), s₂.heap.objs.size ≤ C → (∀ b o, b ≠ Pt → s₂.heap.get? b = some o → href.get? b = some o) →
          Quiet prog w (genEnv scope cl C code builtinsNs env) x elt (cStatics :: (kp ++ fp)) wr P F href) ∧
        (∀ (a C : Addr) (s₅ : Shared), (∀ b o, b ≠ Pt → s₂.heap.get? b = some o → s₅.heap.get? b = some o) → TabOk Pt s₅.heap → (∃ gs : GenState, gs.bare = true ∧ s₅.gens = s₂.gens.push gs) → s₅.os = s₂.os →
          s₂.heap.objs.size ≤ C → C < a → a < s₅.heap.objs.size →
          Src prog w (Aw D U) a (a :: C :: (cStatics :: (kp ++ fp))) (C :: wr) (fun k => k = s₂.gens.size ∨ gi k) n F (GAt prog w (Aw D U) a s₂.gens.size C (cStatics :: (kp ++ fp)) wr gi n F) →
          GAt prog w (Aw D U) a s₂.gens.size C (cStatics :: (kp ++ fp)) wr gi n F 0 s₅ → Q (.ref a) s₅)) E s₁) E s)
    (hs : ∀ x, genFold iter env x = pure x) :
    wpAny (model prog w) A (eval (.GeneratorExp elt [⟨.Name x px, iter, [], 0⟩] scope pos) env) Q E s := by
  refine wpAny_GeneratorExp_make hco hclos hcell h0 hkind hroom (wpAny_mono h (fun xv s₁ h₁ => wpAny_mono h₁ (fun it s₂ h₂ => ?_) fun _ _ e => e) fun _ _ e => e) hs
  obtain ⟨hlim, hch, htab, M, hPc, hgP, hbP, I, fp, wr, kp, gi, n, P, St, F, rfl, W, hst, hfp, hPf, hcw, hgi, hkp, hq, hQ⟩ := h₂
  refine ⟨hlim, code_step hcode hch htab fun code h₃ tk₃ hx₃ hsz₃ htab₃ => ?_⟩
  have M₃ : BMod h₃ env.globals mg bm ob := ⟨M.ns.extBut hx₃ hgP, M.name, M.ne, hx₃ _ _ hbP M.obj, M.cls, M.dict, M.data⟩
  have hl₃ : h₃.NoLimit := hlim.extBut hx₃ (Ne.symm hPc)
  refine wpAny_builtinsFor M₃.ns M₃.name M₃.ne M₃.obj M₃.cls M₃.dict M₃.data ?_
  intro h' hn' hs'
  have hclt : cStatics < h₃.objs.size := let ⟨_, hn, _⟩ := hl₃; hn.lt
  have hsz : h'.objs.size = h₃.objs.size + 1 := by rw [hs'.1, Heap.size_push]
  have keep' : ∀ b o, h₃.get? b = some o → h'.get? b = some o := fun b o e => hs'.extBut b o (Nat.ne_of_lt (Heap.lt_size e)) (Heap.get?_push_of_some _ e)
  have keep₅ : ∀ b o, h₃.get? b = some o → (h'.push { cls := .type "generator", data := .fields #[.int s₂.gens.size 0, .str "<genexpr>" (tk₃ + 1), .str (env.qual ++ "<genexpr>") (tk₃ + 1 + 1)] }).get? b = some o :=
    fun b o e => Heap.get?_push_of_some _ (keep' b o e)
  have hfpl : ∀ b ∈ cStatics :: (kp ++ fp), b < h₃.objs.size := fun b hb => by
    rcases List.mem_cons.mp hb with rfl | hb
    · exact hclt
    · rcases List.mem_append.mp hb with hb | hb
      · exact Nat.lt_of_lt_of_le (hkp b hb) hsz₃
      · exact Nat.lt_of_lt_of_le (hfp b hb) hsz₃
  have hsub : ∀ b ∈ wr, b ∈ cStatics :: (kp ++ fp) := fun b hb => List.mem_cons_of_mem _ (List.mem_append_right _ (W.sub b hb))
  have hCf : h₃.objs.size ∉ cStatics :: (kp ++ fp) := fun hm => Nat.lt_irrefl _ (hfpl _ hm)
  have haf : h'.objs.size ∉ cStatics :: (kp ++ fp) := fun hm => absurd (hfpl _ hm) (by rw [hsz]; exact Nat.not_lt.mpr (Nat.le_succ _))
  have hold : ∀ b o, b ≠ Pt → s₂.heap.get? b = some o → h₃.get? b = some o := fun b o hb e => hx₃ b o hb e
  have W' : ∀ A' : Around, A'.handled = none → A'.depth ≤ (Aw D U).depth + 1 → A'.units ≤ (Aw D U).units + 4 → Src prog w A' I (cStatics :: (kp ++ fp)) wr gi n P St :=
    fun A' h1 h2 h3 => (W.weaken h1 h2 h3).mono_fp fun b hb => List.mem_cons_of_mem _ (List.mem_append_right _ hb)
  refine hQ h'.objs.size h₃.objs.size _ (fun b o hb e => keep₅ b o (hold b o hb e)) ?_ ⟨_, rfl, rfl⟩ rfl hsz₃ (by rw [hsz]; exact Nat.lt_succ_self _) (by rw [Heap.size_push]; exact Nat.lt_succ_self _)
    (Src.genexp rfl _ _ _ _ (by rw [hsz]; exact Nat.succ_ne_self _) haf hsub (fun q => Nat.lt_irrefl _ (hgi _ q)) hD (List.mem_cons_self ..) (Nat.ne_of_lt hclt) hcw) ?_
  · obtain ⟨ps, e, ht⟩ := htab₃
    exact ⟨ps, keep₅ _ _ e, ht⟩
  · refine GAt.fresh (A := Aw D U) (cenv := genEnv scope cl h₃.objs.size code builtinsNs env) (m := fun y => if y = ".0" then some (.ref I) else none) rfl W' F hx (by simp [genEnv, hkind]) hco hCf
      (hq _ _ _ hsz₃ fun b o hb e => keep₅ b o (hold b o hb e)) ⟨_, _, _, Heap.get?_push_size _ rfl, rfl, rfl, rfl⟩ (Array.getElem?_push_size ..)
      (W.frame _ s₂ _ hst (fun b hb o e => keep₅ b o (hold b o (fun q => hPf (q ▸ hb)) e)) fun k q => ?_) (hn'.push _) (hl₃.keeps keep₅)
    show (s₂.gens.push _)[k]? = _
    rw [Array.getElem?_push, if_neg (Nat.ne_of_lt (hgi k q))]

/-- a list as a source -/
theorem iter_list {l : Addr} {items : Array Value} {Q : Value → Shared → Prop} (hl : s.heap.IsList l items)
    (h : ∀ (I : Addr) (s₂ : Shared), I = s.heap.objs.size → s₂.heap.objs.size = s.heap.objs.size + 1 → (∀ b o, s.heap.get? b = some o → s₂.heap.get? b = some o) → s₂.gens = s.gens → s₂.os = s.os →
      (∀ A' : Around, A'.handled = none → Src prog w A' I [I, l] [I] (fun _ => False) items.size (fun i v => items[i]? = some v) (fun i s => s.heap.IsListIter I l i ∧ s.heap.IsList l items)) →
      (s₂.heap.IsListIter I l 0 ∧ s₂.heap.IsList l items) → Q (.ref I) s₂) :
    wpAny (model prog w) A (pyIter (.ref l)) Q E s := by
  have hlt : l < s.heap.objs.size := by obtain ⟨_, e, _⟩ := hl; exact Heap.lt_size e
  refine wpAny_pyIter_list hl (h s.heap.objs.size _ rfl (by rw [Heap.size_push]) (fun b o e => Heap.get?_push_of_some _ e) rfl rfl (fun A' hA => Src.ofWalks (Walks.list hA _ _ (Nat.ne_of_lt hlt) items))
    ⟨⟨_, Heap.get?_push_size _ rfl, rfl, rfl⟩, hl.push _⟩)

/-- the texts of a list of values, one by one -/
theorem texts_are {lt : List (Str × Tok)} {n : Nat} {tx : Nat → Str} (hn : lt.length = n) (h : ∀ (j : Nat) (hj : j < lt.length), ∃ u, Value.str lt[j].1 lt[j].2 = .str (tx j) u) : lt.map (·.1) = (List.range n).map tx := by
  refine List.ext_getElem (by rw [List.length_map, List.length_map, List.length_range, hn]) fun j h1 h2 => ?_
  rw [List.length_map] at h1
  obtain ⟨u, e⟩ := h j h1
  rw [List.getElem_map, List.getElem_map, List.getElem_range]
  exact (Value.str.inj e).1

/-- join over a source that is a generator -/
theorem join_src {I : Addr} {fp wr : List Addr} {gi : Nat → Prop} {n : Nat} {P : Nat → Value → Prop} {St : Nat → Shared → Prop} {D U : Nat} {sep : Str} {t : Tok} {Q : Value → Shared → Prop} {tx : Nat → Str}
    (hh : A.handled = none) (hd : A.depth ≤ D) (hu : A.units + 2 ≤ U) (W : Src prog w (Aw D U) I fp wr gi n P St) (hT : ∀ i s, St i s → s.TypeIs (.ref I) "generator") (hst : St 0 s) (hI : I ∈ fp) (hfp : ∀ b ∈ fp, b < s.heap.objs.size)
    (htx : ∀ j v, P j v → ∃ u, v = .str (tx j) u) (hok : JoinOk sep ((List.range n).map tx) = true) (hsz : n ≤ sizeLine)
    (hQ : ∀ s' t', Mv wr gi s s' → Q (.str (Txt.join sep ((List.range n).map tx)) t') s') : wpAny (model prog w) A (call (.builtin "str.join") [.str sep t, .ref I]) Q E s := by
  refine SC.joinGen (Src.toS (W.weaken hh hd hu)) hT hst hfp hI (fun j v hv => let ⟨u, e⟩ := htx j v hv; ⟨_, u, e⟩) (fun s' lt hm hacc => ?_) hsz
  have hl : lt.map (·.1) = (List.range n).map tx := texts_are (by simpa [strValues] using hacc.1) fun j hj => htx j _ (hacc.2 j _ (by simp only [List.getElem?_toArray, strValues, List.getElem?_map, List.getElem?_eq_getElem hj, Option.map_some]))
  rw [hl]
  exact ⟨hok, fun t' k => hQ { s' with toks := k } t' ⟨hm.heap, hm.gens, hm.drawn, hm.os⟩⟩
end
end Mine

end
section
namespace Mine
open Sem (wp)
section
variable {prog : Program} {w : World} {A : Around} {E : Value → Shared → Prop} {s : Shared} {Q : Value → Shared → Prop}

theorem seqSlot_none {T : String} {name : Str} (h : typeLookup (.type T) name = pure none) : seqSlot? (.type T) name = pure none := by
  unfold seqSlot?
  rw [h]; rfl
theorem noTable_int : hasSequenceTable (.type "int") = pure false := by
  unfold hasSequenceTable
  dsimp only
  rw [if_neg (by decide +kernel), if_pos (by decide +kernel)]
theorem imulName : (dunderI (Operator.info .Mult).2 : Str) = dunderI "mul" := rfl

/-- an int's *= by a text -/
theorem imul_int_str {x : Int} {u t : Tok} {y : Str} (hok : MulOk y x) (h : ∀ t' k, Q (.str (Txt.mul y x) t') { s with toks := k }) :
    wpAny (model prog w) A (inplaceOp .Mult (.int x u) (.str y t)) Q E s := by
  unfold inplaceOp
  refine wpAny_holding ?_
  have hfi : fillsInplaceSlot (.type "int") (Operator.info .Mult).2 (Operator.Mult == Operator.Add) = pure false := by
    unfold fillsInplaceSlot
    show (typeLookup (.type "int") (dunderI "mul") >>= fun fi => pure (fi.isSome && !isSeqSlot fi)) = pure false
    rw [F.noI_int_mul]; rfl
  refine wpAny_bind (wpAny_typeOf (typeIs_int s x u) (wpAny_bind (wpAny_of_eq hfi ?_)))
  show wpAny _ A (if false = true then _ else _) Q E s
  rw [if_neg Bool.false_ne_true]
  refine wpAny_bind (lm_binaryOp1_left_declines (T := "int") (U := "str") (nm := "mul") (by decide) (typeIs_int s x u) (typeIs_str s y t) F.fills_int_mul noFill_str_mul F.slot_int_mul
    (call_gives F.slot_int_mul (typeIs_int s x u) F.entry_int_mul (F.args_int_mul_2 _ _) (AutoIntG3.int___mul___int_str_0 x u y t) ⟨rfl, ?_⟩))
  refine wpAny_bind (wpAny_of_eq (seqSlot_none (name := dunderI "mul") F.noI_int_mul) ?_)
  refine wpAny_bind (wpAny_of_eq lm_noRepeat_int ?_)
  refine wpAny_bind (wpAny_typeOf (typeIs_str s y t) ?_)
  refine wpAny_bind (wpAny_of_eq repeat_str ?_)
  refine wpAny_bind (wpAny_of_eq noTable_int ?_)
  refine wpAny_bind (wpAny_rule ?_)
  unfold sequenceRepeat
  refine wpAny_bind (wpAny_specialOf (typeIs_int s x u) F.slot_int_index.lookup ?_)
  refine wpAny_bind (wpAny_rule ?_)
  refine call_gives F.slot_str_mul (typeIs_str s y t) F.entry_str_mul (F.args_str_mul_2 _ _) (gives_str_mul y x t u hok.1 hok.2.1 hok.2.2) ?_
  rcases Int.lt_or_le x 1 with h1 | h1
  · have e : Txt.mul y x = Str.empty := if_pos h1
    rw [e] at h
    rw [if_pos h1]
    exact ⟨by decide, h s.toks (s.toks + 1)⟩
  · have h1' : ¬ x < 1 := by omega
    have e : Txt.mul y x = if (x == 1 || y.length == 0) = true then y else ⟨(List.replicate x.toNat y.cps).foldl (· ++ ·) #[]⟩ := if_neg h1'
    rw [e] at h
    rw [if_neg h1']
    exact post_val_or_made (fun hc => fits_reps (hok.2.2 h1' (Bool.eq_false_iff.mpr hc))) h
end
end Mine

end
section
namespace Mine

abbrev sp1 : Str := Str.ofString " "
theorem mul_list (n : Int) : (Txt.mul sp1 n).cps.toList = List.replicate n.toNat 32 := by
  show (Txt.mul (Str.ofString " ") n).cps.toList = _
  rw [KCtr.blank_mk, mul_one_list]
theorem mul_len (n : Int) : (Txt.mul sp1 n).length = n.toNat := by
  show (Txt.mul sp1 n).cps.size = _
  rw [← Array.length_toList, mul_list, List.length_replicate]

/-- one turn of the law's own line -/
def stepT (width sp : Int) (st : Str × Int) (text : Str) : Str × Int :=
  let breadth := max width (text.length : Int)
  let spot := st.2 + (breadth - (text.length : Int) + breadth.fmod 2).fdiv 2
  let line1 := st.1 ++ Txt.mul sp1 (spot - (st.1.length : Int)) ++ text
  (line1 ++ Txt.mul sp1 (st.2 + breadth - (line1.length : Int)), st.2 + breadth + max sp 0)
/-- the law's line -/
def lawLine (ts : List Str) (width sp : Int) : Str := (ts.foldl (stepT width sp) (Str.empty, 0)).1

/-- the room left of a text -/
def lft (width : Int) (t : Str) : Int := (max width (t.length : Int) - (t.length : Int) + (max width (t.length : Int)).fmod 2).fdiv 2
theorem lft_facts (width : Int) (t : Str) : 0 ≤ lft width t ∧ lft width t ≤ max width (t.length : Int) - (t.length : Int) ∧
    (width ≤ (t.length : Int) → lft width t = 0) ∧
    ((t.length : Int) < width → lft width t = (width - (t.length : Int)) / 2 + (if (width - (t.length : Int)) % 2 = 1 ∧ width % 2 = 1 then 1 else 0)) := by
  unfold lft
  have hx : (0 : Int) ≤ (t.length : Int) := Int.natCast_nonneg _
  generalize (t.length : Int) = n at hx ⊢
  have e1 : (max width n).fmod 2 = (max width n) % 2 := Int.fmod_eq_emod_of_nonneg _ (by decide)
  rw [e1, Int.fdiv_eq_ediv_of_nonneg _ (by decide : (0 : Int) ≤ 2)]
  refine ⟨by omega, by omega, fun h => ?_, fun h => ?_⟩
  · have : max width n = n := by omega
    rw [this]; omega
  · have : max width n = width := by omega
    rw [this]
    split <;> omega
theorem center_is (width : Int) (t : Str) : Txt.center t width = Txt.mul sp1 (lft width t) ++ t ++ Txt.mul sp1 (max width (t.length : Int) - (t.length : Int) - lft width t) := by
  obtain ⟨h0, h1, h2, h3⟩ := lft_facts width t
  refine KCtr.center_mul (fun h => ?_) fun h => ⟨h3 h, ?_⟩
  · have := h2 h
    omega
  · have : max width (t.length : Int) = width := by omega
    omega
theorem center_len (width : Int) (t : Str) : ((Txt.center t width).length : Int) = max width (t.length : Int) := by
  obtain ⟨h0, h1, _, _⟩ := lft_facts width t
  rw [center_is, Str.length_append, Str.length_append, mul_len, mul_len]
  omega

theorem str_ext {a b : Str} (h : a.cps.toList = b.cps.toList) : a = b := Str.ext' (Array.toList_inj.mp h)

theorem mul_add {a b : Int} (ha : 0 ≤ a) (hb : 0 ≤ b) : Txt.mul sp1 (a + b) = Txt.mul sp1 a ++ Txt.mul sp1 b := by
  refine str_ext ?_
  rw [Str.cps_append, Array.toList_append, mul_list, mul_list, mul_list]
  have : (a + b).toNat = a.toNat + b.toNat := by omega
  rw [this, List.replicate_append_replicate]
theorem mul_max (a : Int) : Txt.mul sp1 (max a 0) = Txt.mul sp1 a := by
  refine str_ext ?_
  rw [mul_list, mul_list]
  have : (max a 0).toNat = a.toNat := by omega
  rw [this]
theorem mul_zero : Txt.mul sp1 0 = Str.empty := rfl

theorem step_core (width sp : Int) (line : Str) (edge gap : Int) (t : Str) (hg : 0 ≤ gap) (he : edge = (line.length : Int) + gap) :
    stepT width sp (line, edge) t = (line ++ Txt.mul sp1 gap ++ Txt.center t width, ((line ++ Txt.mul sp1 gap ++ Txt.center t width).length : Int) + max sp 0) := by
  obtain ⟨h0, h1, _, _⟩ := lft_facts width t
  have hl1 : edge + lft width t - (line.length : Int) = gap + lft width t := by omega
  have e1 : line ++ Txt.mul sp1 (edge + lft width t - (line.length : Int)) ++ t = line ++ (Txt.mul sp1 gap ++ (Txt.mul sp1 (lft width t) ++ t)) := by
    rw [hl1, mul_add hg h0]
    simp only [Str.append_assoc]
  have hlen : ((line ++ (Txt.mul sp1 gap ++ (Txt.mul sp1 (lft width t) ++ t))).length : Int) = (line.length : Int) + gap + lft width t + (t.length : Int) := by
    rw [Str.length_append, Str.length_append, Str.length_append, mul_len, mul_len]
    omega
  have e2 : edge + max width (t.length : Int) - ((line ++ (Txt.mul sp1 gap ++ (Txt.mul sp1 (lft width t) ++ t))).length : Int) = max width (t.length : Int) - (t.length : Int) - lft width t := by
    rw [hlen]; omega
  have e3 : ((line ++ Txt.mul sp1 gap ++ Txt.center t width).length : Int) = (line.length : Int) + gap + max width (t.length : Int) := by
    have := center_len width t
    rw [Str.length_append, Str.length_append, mul_len]
    omega
  have key : stepT width sp (line, edge) t = ((line ++ Txt.mul sp1 (edge + lft width t - (line.length : Int)) ++ t) ++ Txt.mul sp1 (edge + max width (t.length : Int) - ((line ++ Txt.mul sp1 (edge + lft width t - (line.length : Int)) ++ t).length : Int)), edge + max width (t.length : Int) + max sp 0) := rfl
  rw [key, e1, e2, e3, center_is]
  refine Prod.ext ?_ ?_
  · simp only [Str.append_assoc]
  · show edge + max width (t.length : Int) + max sp 0 = _
    omega

theorem step_first (width sp : Int) (t : Str) : stepT width sp (Str.empty, 0) t = (Txt.center t width, ((Txt.center t width).length : Int) + max sp 0) := by
  have h := step_core width sp Str.empty 0 0 t (Int.le_refl 0) rfl
  rw [mul_zero, Str.empty_append, Str.empty_append] at h
  exact h
theorem step_next (width sp : Int) (line : Str) (t : Str) :
    stepT width sp (line, (line.length : Int) + max sp 0) t = (line ++ Txt.mul sp1 sp ++ Txt.center t width, ((line ++ Txt.mul sp1 sp ++ Txt.center t width).length : Int) + max sp 0) := by
  have h := step_core width sp line ((line.length : Int) + max sp 0) (max sp 0) t (by omega) rfl
  rw [mul_max] at h
  exact h

theorem fold_next (width sp : Int) : ∀ (ts : List Str) (line : Str),
    (ts.foldl (stepT width sp) (line, (line.length : Int) + max sp 0)).1.cps = (ts.map fun t => Txt.center t width).foldl (fun acc p => acc ++ (Txt.mul sp1 sp).cps ++ p.cps) line.cps
  | [], line => rfl
  | t :: r, line => by
    rw [List.foldl_cons, step_next, fold_next width sp r, List.map_cons, List.foldl_cons]
    rfl

theorem line_is (ts : List Str) (width sp : Int) : lawLine ts width sp = Txt.join (Txt.mul sp1 sp) (ts.map fun t => Txt.center t width) := by
  cases ts with
  | nil => rfl
  | cons t r =>
    unfold lawLine
    rw [List.foldl_cons, step_first]
    exact Str.ext' (fold_next width sp r _)

theorem map_range (ts : List Str) (f : Str → Str) : (List.range ts.length).map (fun i => f (ts.getD i Str.empty)) = ts.map f := by
  apply List.ext_getElem
  · simp
  · intro i h1 h2
    simp at h1 ⊢
    rw [List.getElem?_eq_getElem (by simpa using h1)]
    rfl
end Mine

end
section
namespace Mine
open Sem (wp)

noncomputable abbrev K (w : World) : Frag := Mine.hd.heap_39 w.params
abbrev prg : Program := Challenge.rw_dw0001_01.row.prog
def fdAt (K : Frag) (a : Addr) : FuncData := match K.lookup a with
  | some ⟨_, _, .func fd, _⟩ => fd
  | _ => default

/-- v may be walked over as the texts ts; what this writes lies in wr₀ or is new -/
def Cols (prog : Program) (w : World) (v : Value) (ts : List Str) (wr₀ : List Addr) (s : Shared) : Prop :=
  ∀ (s₁ : Shared) (A' : Around) (E' : Value → Shared → Prop) (Q' : Value → Shared → Prop), A'.handled = none → A'.depth ≤ 340 → A'.units ≤ 100 → (∀ b o, s.heap.get? b = some o → s₁.heap.get? b = some o) → s.heap.objs.size ≤ s₁.heap.objs.size → s₁.gens = s.gens →
    (∀ (I : Addr) (s₂ : Shared) (fp wr : List Addr) (gi : Nat → Prop) (St : Nat → Shared → Prop), Src prog w (Aw 360 200) I fp wr gi ts.length (fun i v => ∃ u, v = .str (ts.getD i Str.empty) u) St → St 0 s₂ → (∀ b ∈ fp, b < s₂.heap.objs.size) → 17 ∉ fp →
      cStatics ∉ wr → (∀ k, gi k → k < s₂.gens.size) → (∀ b ∈ wr, b ∈ wr₀ ∨ s₁.heap.objs.size ≤ b) → (∀ b o, s₁.heap.get? b = some o → s₂.heap.get? b = some o) → s₁.heap.objs.size ≤ s₂.heap.objs.size → s₂.gens = s₁.gens → s₂.os = s₁.os → Q' (.ref I) s₂) →
    wpAny (model prog w) A' (pyIter v) Q' E' s₁

/-- what formatstring gives -/
def fmtText (ts : List Str) (cw sp : Int) : Str := Txt.join (Txt.mul (Str.ofString " ") sp) ((List.range ts.length).map fun i => Txt.center (ts.getD i Str.empty) cw)

set_option maxHeartbeats 2000000 in
set_option pp.maxSteps 20000 in
theorem fmt_call {w : World} {A : Around} {s : Shared} {h₀ : Heap} {mg mb : Str → Option Value} {p : Program} {loose : List Str} {mean : ExcName → Option Value} {args : Args} {v : Value} {ts : List Str} {wr₀ : List Addr} {cw sp : Int} {t1 t2 : Tok} {R : Result → Shared → Prop}
    (hh : A.handled = none) (hd : A.depth ≤ 320) (hu : A.units ≤ 60)
    (X : (K w).In h₀) (T : Top p loose mean mg mb h₀) (hk : ∀ b o, h₀.get? b = some o → s.heap.get? b = some o) (h17 : h₀.get? 17 = none) (ht : TabOk 17 s.heap)
    (hb : BindsTo s (fdAt (K w) 22) args [(Str.ofString "cols", v), (Str.ofString "colwidth", .int cw t1), (Str.ofString "spacing", .int sp t2)])
    (hv : Cols prg w v ts wr₀ s) (hwr : ∀ b ∈ wr₀, b < s.heap.objs.size) (hcw : PadOk cw = true) (hsp : MulOk (Str.ofString " ") sp) (hn : ts.length ≤ sizeLine)
    (hok : JoinOk (Txt.mul (Str.ofString " ") sp) ((List.range ts.length).map fun i => Txt.center (ts.getD i Str.empty) cw) = true)
    (hR : ∀ s' t', (∀ b o, b ≠ 17 → b ∉ wr₀ → s.heap.get? b = some o → s'.heap.get? b = some o) → TabOk 17 s'.heap → s'.os = s.os → (AllBare s.gens → AllBare s'.gens) → R (.ok (.ret (.str (fmtText ts cw sp) t'))) s') :
    codeAny (model prg w) A (.call (.ref 22) args) R s := by
  have ho := hk _ _ (X 22 _ rfl)
  have hlimS := T.nolimit.keeps hk
  have hch₀ : CodeHd h₀ 21 17 := codeHd_of_K X (by rfl)
  obtain ⟨bm, ob, b1, b2, b3, b4, b5, b6⟩ := T.bmain
  refine codeAny_call_function (fd := fdAt (K w) 22) (Nat.lt_of_le_of_lt hd (by decide)) ho rfl rfl rfl rfl (codeRec_of (X.keeps hk) (by rfl)) (hb _ _ _ _ ?_)
  refine wpAny_newFunctionEnv_cells rfl (kindsX rfl _) fun env' he s' x => ?_
  subst he
  refine ⟨hlimS.keeps x.toInCall.keep, codeAny_func ?_⟩
  obtain ⟨h₁, tk, rfl, hk₁⟩ := x.done
  have hns := x.toInCall.ns
  have hcell := x.cell (Str.ofString "colwidth") (s.heap.objs.size + 1) rfl
  have hL : s.heap.objs.size < h₁.objs.size := hns.lt
  have hC : s.heap.objs.size + 1 < h₁.objs.size := by obtain ⟨o, e, _⟩ := hcell; exact Heap.lt_size e
  refine wpAny_execs_cons (wpAny_AugAssign_Name (wpAny_loadName_local (v := .int sp t2) rfl rfl hns rfl ?_))
  refine Calls.Constant_str ?_
  refine imul_int_str hsp fun t₃ k₃ => ?_
  refine wpAny_storeName_local rfl hns (fun h₂ hns₂ hs₂ => ?_) rfl
  refine wpAny_execs_cons (wpAny_Return_some ?_)
  refine Call_method1 rfl rfl rfl ?_
  refine wpAny_Name (wpAny_loadName_local (v := .str (Txt.mul (Str.ofString " ") sp) t₃) rfl rfl hns₂ rfl ?_) rfl
  refine ⟨"str", _, F.plainAttrs_str, F.slot_str_join, F.type_str_join, typeIs_str _ _ _, (fun _ e => nomatch e), ?_⟩
  refine Calls.callWith_builtin rfl (Calls.evalArgs_plain (Calls.spliced_cons ?_))
  have up₂ : ∀ b o, b < s.heap.objs.size → s.heap.get? b = some o → h₂.get? b = some o := fun b o hb e => hs₂.extBut b o (Nat.ne_of_lt hb) (hk₁ b o e)
  have hsz₂ : h₂.objs.size = h₁.objs.size := hs₂.1
  have hcell₂ : h₂.IsCell (s.heap.objs.size + 1) (some (.int cw t1)) := by
    obtain ⟨o, e, r⟩ := hcell
    exact ⟨o, hs₂.extBut _ o (Nat.succ_ne_self _) e, r⟩
  have hk₂ : ∀ b o, h₀.get? b = some o → h₂.get? b = some o := fun b o e => up₂ b o (Heap.lt_size (hk b o e)) (hk b o e)
  refine gen_make (c := 21) (Pt := 17) (mg := mg) (bm := bm) (ob := ob) 359 196 (by decide) rfl rfl rfl (by decide) rfl rfl rfl (Nat.lt_of_le_of_lt (Nat.succ_le_succ hd) (by decide)) ?_ (fun _ => rfl)
  refine wpAny_Name (wpAny_loadName_local (v := v) rfl rfl hns₂ rfl ?_) rfl
  refine hv _ _ _ _ hh (Nat.le_trans (Nat.succ_le_succ hd) (by decide)) (Nat.le_trans (Nat.add_le_add_right hu 3) (by decide)) (fun b o e => up₂ b o (Heap.lt_size e) e) (by show s.heap.objs.size ≤ h₂.objs.size; rw [hsz₂]; exact Nat.le_of_lt hL) rfl fun I s₂ fp wr gi St W hst hfp hPf hcs hgi hwr₂ hkeep hsz hgens hos => ?_
  have hk₃ : ∀ b o, h₀.get? b = some o → s₂.heap.get? b = some o := fun b o e => hkeep b o (hk₂ b o e)
  have hcellw : s.heap.objs.size + 1 ∉ wr := fun hm => by
    rcases hwr₂ _ hm with h | h
    · exact absurd (hwr _ h) (Nat.not_lt.mpr (Nat.le_succ _))
    · have h' : h₂.objs.size ≤ s.heap.objs.size + 1 := h
      rw [hsz₂] at h'
      exact absurd hC (Nat.not_lt.mpr h')
  refine ⟨T.nolimit.keeps hk₃, hch₀.keeps hk₃, ?_, ⟨T.g.keeps hk₃, b1, b2, hk₃ _ _ b3, b4, b5, b6⟩, by decide, (show mainGlobals ≠ (17 : Addr) by decide), ?_, I, fp, wr, [s.heap.objs.size + 1], gi, ts.length, _, St, (fun i y => ∃ u, y = .str (Txt.center (ts.getD i Str.empty) cw) u), rfl, W, hst, hfp, hPf, hcs, hgi, ?_, ?_, ?_⟩
  · obtain ⟨ps, e, htr⟩ := ht
    exact ⟨ps, hkeep _ _ (up₂ _ _ (Heap.lt_size e) e), htr⟩
  · intro e
    rw [e, h17] at b3; cases b3
  · intro b hb
    rw [List.mem_singleton.mp hb]
    refine Nat.lt_of_lt_of_le hC ?_
    have h' : h₂.objs.size ≤ s₂.heap.objs.size := hsz
    rw [hsz₂] at h'
    exact h'
  · intro C code href hCs hrk A' E' i y s₃ m₃ hA hP hns₃ hm₃ hkp
    obtain ⟨u, rfl⟩ := hP
    have hcell₃ : s₃.heap.IsCell (s.heap.objs.size + 1) (some (.int cw t1)) := by
      obtain ⟨o, e, r⟩ := hcell₂
      refine ⟨o, hkp _ (by simp) hcellw o (hrk _ o ?_ (hkeep _ o e)), r⟩
      intro q
      obtain ⟨ps, e', _⟩ := ht
      have := Heap.lt_size e'
      rw [← q] at this
      exact absurd this (Nat.not_lt.mpr (Nat.le_succ _))
    refine Call_method1 rfl rfl rfl ?_
    refine wpAny_Name (wpAny_loadName_local rfl rfl hns₃ hm₃ ?_) rfl
    refine SB.center ?_
    refine wpAny_Name (wpAny_loadName_free rfl rfl rfl hcell₃ ?_) rfl
    exact ⟨cw, t1, rfl, hcw, fun t' k => ⟨⟨t', rfl⟩, s₃.heap, k, rfl, fun _ _ e => e⟩⟩
  · intro a C s₅ hkeep₅ htab₅ hgs hos₅ hCs hCa ha W₅ hat
    refine Calls.spliced_nil ?_
    refine join_src (D := 359) (U := 196) (tx := fun i => Txt.center (ts.getD i Str.empty) cw) hh (Nat.le_trans (Nat.succ_le_succ hd) (by decide)) (Nat.le_trans (Nat.add_le_add_right (Nat.add_le_add_right hu 3) 2) (by decide)) W₅
      (fun i s st => st.1.typeIs) hat (List.mem_cons_self ..) ?_ (fun j y hy => hy) hok hn fun s' t' hm => ?_
    · intro b hb
      rcases List.mem_cons.mp hb with rfl | hb
      · exact ha
      rcases List.mem_cons.mp hb with rfl | hb
      · exact Nat.lt_trans hCa ha
      have hlt : b < s₂.heap.objs.size := by
        rcases List.mem_cons.mp hb with rfl | hb
        · obtain ⟨_, hn, _⟩ := T.nolimit.keeps hk₃; exact hn.lt
        rcases List.mem_append.mp hb with hb | hb
        · rw [List.mem_singleton.mp hb]
          refine Nat.lt_of_lt_of_le hC ?_
          have h' : h₂.objs.size ≤ s₂.heap.objs.size := hsz
          rw [hsz₂] at h'
          exact h'
        · exact hfp b hb
      exact Nat.lt_trans (Nat.lt_of_lt_of_le hlt hCs) (Nat.lt_trans hCa ha)
    · refine hR s' t' (fun b o hb hw e => ?_) ?_ (hm.os.trans (hos₅.trans hos)) fun hbare => hm.gens.bare ?_
      · have hlt : b < s.heap.objs.size := Heap.lt_size e
        have hlt₂ : b < h₂.objs.size := by rw [hsz₂]; exact Nat.lt_trans hlt hL
        refine hm.heap b o (fun q => ?_) (hkeep₅ b o hb (hkeep b o (up₂ b o hlt e)))
        rcases List.mem_cons.mp q with rfl | q
        · have h' : h₂.objs.size ≤ b := Nat.le_trans hsz hCs
          exact absurd hlt₂ (Nat.not_lt.mpr h')
        · rcases hwr₂ b q with q | q
          · exact hw q
          · exact absurd hlt₂ (Nat.not_lt.mpr q)
      · obtain ⟨ps, e, htr⟩ := htab₅
        refine ⟨ps, hm.heap _ _ (fun q => ?_) e, htr⟩
        have hlt : 17 < s.heap.objs.size := by obtain ⟨ps', e', _⟩ := ht; exact Heap.lt_size e'
        have hlt₂ : 17 < h₂.objs.size := by rw [hsz₂]; exact Nat.lt_trans hlt hL
        rcases List.mem_cons.mp q with q | q
        · have h' : h₂.objs.size ≤ 17 := by rw [q]; exact Nat.le_trans hsz hCs
          exact absurd hlt₂ (Nat.not_lt.mpr h')
        · exact hPf (W.sub _ q)
      · obtain ⟨gs, hb', e⟩ := hgs
        rw [e, hgens]
        exact hbare.push hb'
end Mine

end
section
namespace Mine
open Sem (wp)
section
variable {prog : Program} {w : World} {A : Around} {s : Shared} {I : Addr} {fp wr : List Addr} {gi : Nat → Prop} {n : Nat} {P : Nat → Value → Prop} {St : Nat → Shared → Prop}

/-- a for over a source, by an invariant of its turns -/
theorem for_loop {x : Str} {px : Pos} {body : List Stmt} {env : Env} {R : Result → Shared → Prop} {m₀ : Str → Option Value} (W : Src prog w A I fp wr gi n P St) (J : Nat → (Str → Option Value) → Shared → Prop)
    (hx : env.kindOf x = some .local) (hp : (env.scope.kind == .class || (env.scope.kind == .module && env.locals != env.globals)) = false) (hL : env.locals ∉ fp)
    (hst : St 0 s) (hns : s.heap.Ns env.locals m₀) (hJ : J 0 m₀ s)
    (hmv : ∀ i m s s₁, J i m s → Mv wr gi s s₁ → J i m s₁)
    (turn : ∀ i v m s₁ h₂, i < n → J i m s₁ → P i v → St (i + 1) { s₁ with heap := h₂, toks := s₁.toks + 1 } → h₂.Ns env.locals (fun y => if y = x then some v else m y) → Heap.SameBut env.locals s₁.heap h₂ →
      wpAny (model prog w) A (execs body env) (fun f s₃ => match f with
        | .next | .cont => ∃ m', s₃.heap.Ns env.locals m' ∧ J (i + 1) m' s₃ ∧ St (i + 1) s₃
        | .brk => R (.ok .next) s₃
        | .ret v => R (.ok (.ret v)) s₃) (fun _ _ => False) { s₁ with heap := h₂, toks := s₁.toks + 1 })
    (done : ∀ m s', s'.heap.Ns env.locals m → J n m s' → R (.ok .next) s') :
    codeAny (model prog w) A (.forLoop (.Name x px) (.ref I) body [] env) R s := by
  have hLw : env.locals ∉ wr := fun h => hL (W.sub _ h)
  refine codeAny_forLoop_any (fun k s => ∃ i m, k = n + 1 - i ∧ i ≤ n ∧ St i s ∧ s.heap.Ns env.locals m ∧ J i m s) ?_ (n + 1) ⟨0, m₀, rfl, Nat.zero_le _, hst, hns, hJ⟩
  rintro k s ⟨i, m, rfl, hi, hst, hns, hJ⟩
  by_cases hlt : i < n
  · refine W.item i s _ _ hlt hst fun v s₁ hP hst₁ hm₁ => ?_
    refine wpAny_of_eq (rfl : letOwnedTupleGo (.Name x px) (.ref I) v = pure ()) ?_
    refine wpAny_assign_Name (wpAny_storeName_local hx (hns.at' fun o e => hm₁.heap _ o hLw e) (fun h₂ hn₂ hs₂ => ?_) hp)
    have hst₂ : St (i + 1) { s₁ with heap := h₂, toks := s₁.toks + 1 } := W.frame _ _ _ hst₁ (fun b hb o e => hs₂.extBut b o (fun h => hL (h ▸ hb)) e) fun _ _ => rfl
    refine wpAny_mono (turn i v m s₁ h₂ hlt (hmv _ _ _ _ hJ hm₁) hP hst₂ hn₂ hs₂) (fun f s₃ h₃ => ?_) fun _ _ e => e.elim
    cases f with
    | next => obtain ⟨m', a, b, c⟩ := h₃; exact ⟨n + 1 - (i + 1), by omega, i + 1, m', rfl, hlt, c, a, b⟩
    | cont => obtain ⟨m', a, b, c⟩ := h₃; exact ⟨n + 1 - (i + 1), by omega, i + 1, m', rfl, hlt, c, a, b⟩
    | brk => exact h₃
    | ret v => exact h₃
  · have hin : i = n := by omega
    subst hin
    refine W.done s _ _ hst fun s₁ hm₁ => wpAny_execs_nil ?_
    exact done m s₁ (hns.at' fun o e => hm₁.heap _ o hLw e) (hmv _ _ _ _ hJ hm₁)
end
end Mine

end
section
namespace Mine
open Sem (wp)

theorem Keeps.rfl' (s : Shared) : Keeps s s := ⟨s.heap, s.toks, rfl, fun _ _ e => e⟩
theorem Keeps.trans' {a b c : Shared} (x : Keeps a b) (y : Keeps b c) : Keeps a c := by
  obtain ⟨h, t, rfl, k⟩ := x
  obtain ⟨h', t', rfl, k'⟩ := y
  exact ⟨h', t', rfl, fun b o e => k' b o (k b o e)⟩
theorem Keeps.heap' {a b : Shared} (x : Keeps a b) : ∀ c o, a.heap.get? c = some o → b.heap.get? c = some o := by
  obtain ⟨h, t, rfl, k⟩ := x; exact k
theorem Keeps.gens' {a b : Shared} (x : Keeps a b) : b.gens = a.gens := by obtain ⟨h, t, rfl, k⟩ := x; rfl
theorem Keeps.os' {a b : Shared} (x : Keeps a b) : b.os = a.os := by obtain ⟨h, t, rfl, k⟩ := x; rfl
theorem Keeps.toks' {a : Shared} (tk : Nat) : Keeps a { a with toks := tk } := ⟨a.heap, tk, rfl, fun _ _ e => e⟩
theorem Keeps.grow {a : Shared} {h : Heap} {tk : Nat} (k : ∀ b o, a.heap.get? b = some o → h.get? b = some o) : Keeps a { a with heap := h, toks := tk } := ⟨h, tk, rfl, k⟩

def IntV (i : Int) (v : Value) : Prop := ∃ t, v = .int i t
def StrV (x : Str) (v : Value) : Prop := ∃ t, v = .str x t

/-- the expression gives a value of which V holds, and keeps all that stood at s₀ -/
def Ev (prog : Program) (w : World) (env : Env) (s₀ : Shared) (e : Expr) (V : Value → Prop) : Prop :=
  ∀ (A : Around) (E : Value → Shared → Prop) (s : Shared), A.handled = none → Keeps s₀ s → wpAny (model prog w) A (eval e env) (fun v s' => V v ∧ Keeps s₀ s') E s

section
variable {prog : Program} {w : World} {env : Env} {s₀ : Shared} {V : Value → Prop} {m mg mb : Str → Option Value}

theorem Ev.imp {e : Expr} {V' : Value → Prop} (h : Ev prog w env s₀ e V) (i : ∀ v, V v → V' v) : Ev prog w env s₀ e V' :=
  fun A E s hh k => wpAny_mono (h A E s hh k) (fun _ _ x => ⟨i _ x.1, x.2⟩) fun _ _ x => x
theorem Ev.local' {x : Str} {pos : Pos} {v : Value} (hk : env.scope.kind = .function) (hl : env.kindOf x = some .local) (hn : s₀.heap.Ns env.locals m) (hv : m x = some v) (hV : V v)
    (hd : (x == ("__debug__" : Str)) = false := by rfl) : Ev prog w env s₀ (.Name x pos) V :=
  fun A E s hh k => wpAny_Name (wpAny_loadName_local hk hl (hn.keeps (Keeps.heap' k)) hv ⟨hV, k⟩) hd
theorem Ev.int {i : Int} {k : Nat} {pos : Pos} : Ev prog w env s₀ (.Constant (.int i) k pos) (IntV i) :=
  fun A E s hh k => wpAny_Constant_int ⟨⟨_, rfl⟩, Keeps.trans' k (Keeps.toks' _)⟩
theorem Ev.str {x : Str} {k : Nat} {pos : Pos} : Ev prog w env s₀ (.Constant (.str x) k pos) (StrV x) :=
  fun A E s hh k => Calls.Constant_str ⟨⟨_, rfl⟩, Keeps.trans' k (Keeps.toks' _)⟩
theorem Ev.bin {l r : Expr} {op : Operator} {pos : Pos} {V₁ V₂ : Value → Prop} (hl : Ev prog w env s₀ l V₁) (hr : Ev prog w env s₀ r V₂)
    (h : ∀ (A : Around) (E : Value → Shared → Prop) (s : Shared) a b, A.handled = none → Keeps s₀ s → V₁ a → V₂ b → wpAny (model prog w) A (binaryOp op a b) (fun v s' => V v ∧ Keeps s₀ s') E s) : Ev prog w env s₀ (.BinOp l op r pos) V :=
  fun A E s hh k => wpAny_BinOp (wpAny_mono (hl A E s hh k) (fun a s₁ x => wpAny_mono (hr A E s₁ hh x.2) (fun b s₂ y => h A E s₂ a b hh y.2 x.1 y.1) fun _ _ e => e) fun _ _ e => e)
theorem Ev.add {l r : Expr} {pos : Pos} {a b : Int} (hl : Ev prog w env s₀ l (IntV a)) (hr : Ev prog w env s₀ r (IntV b)) : Ev prog w env s₀ (.BinOp l .Add r pos) (IntV (a + b)) :=
  hl.bin hr fun A E s x y hh k ⟨_, e1⟩ ⟨_, e2⟩ => by subst e1 e2; exact PyProof.Rows.add_int ⟨⟨_, rfl⟩, Keeps.trans' k (Keeps.toks' _)⟩
theorem Ev.sub {l r : Expr} {pos : Pos} {a b : Int} (hl : Ev prog w env s₀ l (IntV a)) (hr : Ev prog w env s₀ r (IntV b)) : Ev prog w env s₀ (.BinOp l .Sub r pos) (IntV (a - b)) :=
  hl.bin hr fun A E s x y hh k ⟨_, e1⟩ ⟨_, e2⟩ => by subst e1 e2; exact PyProof.Rows.sub_int ⟨⟨_, rfl⟩, Keeps.trans' k (Keeps.toks' _)⟩
theorem Ev.mod {l r : Expr} {pos : Pos} {a b : Int} (hl : Ev prog w env s₀ l (IntV a)) (hr : Ev prog w env s₀ r (IntV b)) (hb : b ≠ 0) : Ev prog w env s₀ (.BinOp l .Mod r pos) (IntV (a.fmod b)) :=
  hl.bin hr fun A E s x y hh k ⟨_, e1⟩ ⟨_, e2⟩ => by subst e1 e2; exact PyProof.Rows.mod_int hb ⟨⟨_, rfl⟩, Keeps.trans' k (Keeps.toks' _)⟩
theorem Ev.fdiv {l r : Expr} {pos : Pos} {a b : Int} (hl : Ev prog w env s₀ l (IntV a)) (hr : Ev prog w env s₀ r (IntV b)) (hb : b ≠ 0) (hp : Builtin.divisionGoesByPylong a b = false) : Ev prog w env s₀ (.BinOp l .FloorDiv r pos) (IntV (a.fdiv b)) :=
  hl.bin hr fun A E s x y hh k ⟨_, e1⟩ ⟨_, e2⟩ => by subst e1 e2; exact PyProof.Rows.floordiv_int hb ⟨⟨_, rfl⟩, Keeps.trans' k (Keeps.toks' _)⟩ (.inl hp)
theorem Ev.addS {l r : Expr} {pos : Pos} {a b : Str} (hl : Ev prog w env s₀ l (StrV a)) (hr : Ev prog w env s₀ r (StrV b)) (hsz : a.length + b.length ≤ sizeLine) : Ev prog w env s₀ (.BinOp l .Add r pos) (StrV (a ++ b)) :=
  hl.bin hr fun A E s x y hh k ⟨_, e1⟩ ⟨_, e2⟩ => by subst e1 e2; exact PyProof.Rows.add_str (fun t' tk => ⟨⟨_, rfl⟩, Keeps.trans' k (Keeps.toks' _)⟩) hsz
theorem Ev.mulS {l r : Expr} {pos : Pos} {a : Str} {n : Int} (hl : Ev prog w env s₀ l (StrV a)) (hr : Ev prog w env s₀ r (IntV n)) (hok : MulOk a n) : Ev prog w env s₀ (.BinOp l .Mult r pos) (StrV (Txt.mul a n)) :=
  hl.bin hr fun A E s x y hh k ⟨_, e1⟩ ⟨_, e2⟩ => by subst e1 e2; exact SB.mul hok fun t' tk => ⟨⟨_, rfl⟩, Keeps.trans' k (Keeps.toks' _)⟩

/-- a built-in's name is free -/
theorem Ev.builtin {x : Str} {pos : Pos} {v : Value} (hk : env.scope.kind = .function) (hx : env.kindOf x = some .globalImplicit) (hg : s₀.heap.Ns env.globals mg) (hmiss : mg x = none) (hb : s₀.heap.Ns env.builtins mb) (hv : mb x = some v) (hV : V v)
    (hd : (x == ("__debug__" : Str)) = false := by rfl) : Ev prog w env s₀ (.Name x pos) V :=
  fun A E s hh k => Calls.Name_function_global hk hx (Calls.loadGlobal_builtin (hg.keeps (Keeps.heap' k)) hmiss (hb.keeps (Keeps.heap' k)) hv ⟨hV, k⟩) hd
theorem Ev.call1 {x : Str} {np pos : Pos} {e : Expr} {id : String} {V₁ : Value → Prop} (hf : Ev prog w env s₀ (.Name x np) (· = .builtin id)) (h1 : Ev prog w env s₀ e V₁)
    (h : ∀ (A : Around) (E : Value → Shared → Prop) (s : Shared) a, A.handled = none → Keeps s₀ s → V₁ a → wpAny (model prog w) A (call (.builtin id) [a]) (fun v s' => V v ∧ Keeps s₀ s') E s)
    (hs : backTo pos (starEach [e] env) = [(false, eval e env)] := by rfl) : Ev prog w env s₀ (.Call (.Name x np) [e] [] pos) V := fun A E s hh k => by
  refine wpAny_Call_NameR (wpAny_mono (hf A E s hh k) (fun f s₁ x => ?_) fun _ _ e => e)
  obtain ⟨rfl, k₁⟩ := x
  rw [hs]
  exact callWith_builtin1 (wpAny_mono (h1 A E s₁ hh k₁) (fun a s₂ y => h A E s₂ a hh y.2 y.1) fun _ _ e => e)
theorem Ev.call2 {x : Str} {np pos : Pos} {e e' : Expr} {id : String} {V₁ V₂ : Value → Prop} (hf : Ev prog w env s₀ (.Name x np) (· = .builtin id)) (h1 : Ev prog w env s₀ e V₁) (h2 : Ev prog w env s₀ e' V₂)
    (h : ∀ (A : Around) (E : Value → Shared → Prop) (s : Shared) a b, A.handled = none → Keeps s₀ s → V₁ a → V₂ b → wpAny (model prog w) A (call (.builtin id) [a, b]) (fun v s' => V v ∧ Keeps s₀ s') E s)
    (hs : backTo pos (starEach [e, e'] env) = [(false, eval e env), (false, eval e' env)] := by rfl) : Ev prog w env s₀ (.Call (.Name x np) [e, e'] [] pos) V := fun A E s hh k => by
  refine wpAny_Call_NameR (wpAny_mono (hf A E s hh k) (fun f s₁ x => ?_) fun _ _ e => e)
  obtain ⟨rfl, k₁⟩ := x
  rw [hs]
  refine Calls.callWith_builtin rfl (Calls.evalArgs_plain (Calls.spliced_cons (wpAny_mono (h1 A E s₁ hh k₁) (fun a s₂ y => ?_) fun _ _ e => e)))
  exact Calls.spliced_cons (wpAny_mono (h2 A E s₂ hh y.2) (fun b s₃ z => Calls.spliced_nil (h A E s₃ a b hh z.2 y.1 z.1)) fun _ _ e => e)
theorem Ev.max2 {x : Str} {np pos : Pos} {e e' : Expr} {a b : Int} (hf : Ev prog w env s₀ (.Name x np) (· = .builtin "max")) (h1 : Ev prog w env s₀ e (IntV a)) (h2 : Ev prog w env s₀ e' (IntV b))
    (hs : backTo pos (starEach [e, e'] env) = [(false, eval e env), (false, eval e' env)] := by rfl) : Ev prog w env s₀ (.Call (.Name x np) [e, e'] [] pos) (IntV (max a b)) :=
  Ev.call2 hf h1 h2 (fun A E s v v' hh k ⟨_, e1⟩ ⟨_, e2⟩ => by
    subst e1 e2
    refine max_two_ints hh fun h' tk hk => ⟨?_, Keeps.trans' k (Keeps.grow hk)⟩
    split
    · exact ⟨_, by rw [Int.max_eq_right (by omega)]⟩
    · exact ⟨_, by rw [Int.max_eq_left (by omega)]⟩) hs
theorem Ev.lenS {x : Str} {np pos : Pos} {e : Expr} {a : Str} (hf : Ev prog w env s₀ (.Name x np) (· = .builtin "len")) (h1 : Ev prog w env s₀ e (StrV a)) (hsz : a.length ≤ sizeLine)
    (hs : backTo pos (starEach [e] env) = [(false, eval e env)] := by rfl) : Ev prog w env s₀ (.Call (.Name x np) [e] [] pos) (IntV (a.length : Int)) :=
  Ev.call1 hf h1 (fun A E s v hh k ⟨_, e1⟩ => by
    subst e1
    refine PyProof.Rows.len_str ?_ ⟨⟨_, rfl⟩, Keeps.trans' k (Keeps.toks' _)⟩
    have : sizeLine = 16777216 := rfl
    omega) hs

/-- a store of an expression's value -/
theorem assign_ev {A : Around} {E : Value → Shared → Prop} {x : Str} {xp pos : Pos} {e : Expr} {rest : List Stmt} {Q : Flow → Shared → Prop} (hh : A.handled = none) (h : Ev prog w env s₀ e V) (hx : env.kindOf x = some .local) (hn : s₀.heap.Ns env.locals m)
    (hQ : ∀ v s₁, V v → s₁.heap.Ns env.locals (fun y => if y = x then some v else m y) → (∀ b o, b ≠ env.locals → s₀.heap.get? b = some o → s₁.heap.get? b = some o) → s₁.gens = s₀.gens → s₁.drawn = s₀.drawn → s₁.os = s₀.os → wpAny (model prog w) A (execs rest env) Q E s₁)
    (hs : swapsWith e (some (.Name x xp)) pos.line env = pure false := by rfl) (hp : (env.scope.kind == .class || (env.scope.kind == .module && env.locals != env.globals)) = false := by rfl) :
    wpAny (model prog w) A (execs (.Assign [.Name x xp] e pos :: rest) env) Q E s₀ := by
  refine wpAny_execs_cons (wpAny_Assign_Name (wpAny_mono (h A E s₀ hh (Keeps.rfl' s₀)) (fun v s₁ y => ?_) fun _ _ e => e) hs)
  obtain ⟨hV, h₁, tk, rfl, hk⟩ := y
  refine wpAny_storeName_local hx (hn.keeps hk) (fun h₂ hn₂ hs₂ => ?_) hp
  exact hQ v _ hV hn₂ (fun b o hb e => hs₂.extBut b o hb (hk b o e)) rfl rfl rfl
end
end Mine

end
section
namespace Mine
open Sem (wp)

theorem mulOk_sp {n : Int} (h1 : -1000000 ≤ n) (h2 : n ≤ 1000000) : MulOk (Str.ofString " ") n := by
  have hl : (Str.ofString " ").length = 1 := rfl
  refine ⟨?_, fun h3 _ => ?_, fun h3 _ => ?_⟩
  · simp; omega
  · rw [hl]
    have : (1 : Int) ≤ (2 ^ 63 - 1) / n := by
      rw [Int.le_ediv_iff_mul_le (by omega)]; omega
    omega
  · rw [hl]
    unfold Builtin.Str.tooLong
    have : sizeLine = 16777216 := rfl
    simp; omega

theorem noCells {l : List (Str × NameKind)} (h : (l.all fun x => x.2 != .cell) = true) : ∀ x ∈ l, x.2 ≠ .cell := fun x hx e => by
  have := List.all_eq_true.mp h x hx
  rw [e] at this
  cases this

/-- the turn's numbers -/
theorem turn_nums {line t : Str} {edge gap wd sp : Int} (he : edge = (line.length : Int) + gap) (hg0 : 0 ≤ gap) (hg1 : gap ≤ 100) (hl : line.length ≤ 10000) (ht : t.length ≤ 100) (hw0 : -10 ≤ wd) (hw1 : wd ≤ 100) :
    let breadth := max wd (t.length : Int)
    let spot := edge + (breadth - (t.length : Int) + breadth.fmod 2).fdiv 2
    let line1 := line ++ Txt.mul sp1 (spot - (line.length : Int)) ++ t
    (0 ≤ spot - (line.length : Int) ∧ spot - (line.length : Int) ≤ 300) ∧ line1.length ≤ 10400 ∧ (Txt.mul sp1 (spot - (line.length : Int))).length ≤ 300 ∧ (line ++ Txt.mul sp1 (spot - (line.length : Int))).length ≤ 10300 ∧ (0 ≤ edge + breadth - (line1.length : Int) ∧ edge + breadth - (line1.length : Int) ≤ 300) ∧ (Txt.mul sp1 (edge + breadth - (line1.length : Int))).length ≤ 300 := by
  obtain ⟨h0, h1, _, _⟩ := lft_facts wd t
  intro breadth spot line1
  have e1 : spot = edge + lft wd t := rfl
  have e2 : breadth = max wd (t.length : Int) := rfl
  have e3 : (line1.length : Int) = (line.length : Int) + (spot - (line.length : Int)) + (t.length : Int) := by
    show ((line ++ Txt.mul sp1 (spot - (line.length : Int)) ++ t).length : Int) = _
    rw [Str.length_append, Str.length_append, mul_len]
    omega
  have e4 : ((line ++ Txt.mul sp1 (spot - (line.length : Int))).length : Int) = (line.length : Int) + (spot - (line.length : Int)) := by
    rw [Str.length_append, mul_len]
    omega
  have e5 := mul_len (spot - (line.length : Int))
  have e6 := mul_len (edge + breadth - (line1.length : Int))
  refine ⟨⟨?_, ?_⟩, ?_, ?_, ?_, ⟨?_, ?_⟩, ?_⟩ <;> omega

/-- what holds between two turns -/
def LineJ (s : Shared) (ts : List Str) (wd sp : Int) (t1 t2 : Tok) (i : Nat) (m : Str → Option Value) (s' : Shared) : Prop :=
  ∃ line edge tl te, m (Str.ofString "line") = some (.str line tl) ∧ m (Str.ofString "edge") = some (.int edge te) ∧ m (Str.ofString "width") = some (.int wd t1) ∧ m (Str.ofString "spacing") = some (.int sp t2) ∧
    (line, edge) = (ts.take i).foldl (stepT wd sp) (Str.empty, 0) ∧ (∃ gap : Int, edge = (line.length : Int) + gap ∧ 0 ≤ gap ∧ gap ≤ 100) ∧ line.length ≤ i * 300 ∧
    (∀ b o, s.heap.get? b = some o → s'.heap.get? b = some o) ∧ s'.gens = s.gens ∧ s'.os = s.os

theorem GRel.none_eq {a b : Array GenState} (x : GRel (fun _ => False) a b) : b = a := by
  apply Array.ext_getElem?
  intro k
  exact x.2.1 k id

set_option maxHeartbeats 2000000 in
set_option pp.maxSteps 20000 in
theorem line_call {w : World} {A : Around} {s : Shared} {h₀ : Heap} {mg mb : Str → Option Value} {p : Program} {loose : List Str} {mean : ExcName → Option Value} {l : Addr} {lt : List (Str × Tok)} {wd sp : Int} {t1 t2 : Tok} {R : Result → Shared → Prop}
    (hh : A.handled = none) (hd : A.depth ≤ 320)
    (X : (K w).In h₀) (T : Top p loose mean mg mb h₀) (hk : ∀ b o, h₀.get? b = some o → s.heap.get? b = some o) (hmax : mg "max" = none) (hlen : mg "len" = none)
    (hl : s.heap.IsList l (strValues lt).toArray) (hn : lt.length ≤ 10) (hts : ∀ x ∈ lt, x.1.length ≤ 100) (hw0 : -10 ≤ wd) (hw1 : wd ≤ 100) (hs0 : -10 ≤ sp) (hs1 : sp ≤ 100)
    (hR : ∀ s' t', (∀ b o, s.heap.get? b = some o → s'.heap.get? b = some o) → s'.gens = s.gens → s'.os = s.os → R (.ok (.ret (.str (lawLine (lt.map (·.1)) wd sp) t'))) s') :
    codeAny (model prg w) A (.call (.ref 29) ⟨[.ref l, .int wd t1, .int sp t2], []⟩) R s := by
  have ho := hk _ _ (X 29 _ rfl)
  have hlimS := T.nolimit.keeps hk
  refine codeAny_call_def (fd := fdAt (K w) 29) (binds := [(Str.ofString "texts", .ref l), (Str.ofString "width", .int wd t1), (Str.ofString "spacing", .int sp t2)]) (Nat.lt_of_le_of_lt hd (by decide)) ho rfl hlimS (codeRec_of (X.keeps hk) (by rfl)) rfl (BindsTo.of_eq rfl) ?_ ?_ ?_
  · exact noCells rfl
  · exact locs rfl
  intro h₁ hns hk₁
  have hhD : (A.deeper (callEnv (fdAt (K w) 29) s.heap.objs.size 29)).handled = none := hh
  have hks : ∀ b o, s.heap.get? b = some o → b ≠ s.heap.objs.size := fun b o e => Nat.ne_of_lt (Heap.lt_size e)
  refine assign_ev (x := Str.ofString "line") hhD (Ev.str (x := Str.ofString "")) rfl hns ?_
  rintro _ s₂ ⟨tl, rfl⟩ hns₂ hk₂ hg₂ _ ho₂
  refine assign_ev (x := Str.ofString "edge") hhD (Ev.int (i := 0)) rfl hns₂ ?_
  rintro _ s₃ ⟨te, rfl⟩ hns₃ hk₃ hg₃ _ ho₃
  have old₃ : ∀ b o, s.heap.get? b = some o → s₃.heap.get? b = some o := fun b o e => hk₃ b o (hks b o e) (hk₂ b o (hks b o e) (hk₁ b o e))
  refine wpAny_execs_cons (wpAny_For (wpAny_Name (wpAny_loadName_local (v := .ref l) rfl rfl hns₃ rfl ?_) rfl))
  refine iter_list (items := (strValues lt).toArray) (hl.at fun o e => old₃ _ o e) fun I s₄ hI hsz₄ hk₄ hg₄ ho₄ W hst => ?_
  have hLI : s.heap.objs.size < I := hI ▸ hns₃.lt
  have hIL : I ≠ s.heap.objs.size := Nat.ne_of_gt hLI
  have hlI : l ≠ s.heap.objs.size := by obtain ⟨o, e, _⟩ := hl; exact hks l o e
  have hnew : ∀ b o, s.heap.get? b = some o → b ≠ I := fun b o e => Nat.ne_of_lt (Nat.lt_trans (Heap.lt_size e) hLI)
  refine for_loop (m₀ := _) (W _ hhD) (LineJ s (lt.map (·.1)) wd sp t1 t2) rfl rfl ?_ hst (hns₃.keeps hk₄) ?_ ?_ ?_ ?_
  · intro h
    rcases List.mem_cons.mp h with h | h
    · exact hIL h.symm
    · exact hlI (List.mem_singleton.mp h).symm
  · exact ⟨Str.ofString "", 0, tl, te, rfl, rfl, rfl, rfl, rfl, ⟨0, rfl, by decide, by decide⟩, by decide, fun b o e => hk₄ b o (old₃ b o e), hg₄.trans (hg₃.trans hg₂), ho₄.trans (ho₃.trans ho₂)⟩
  · rintro i m s₅ s₆ ⟨line, edge, tl, te, a1, a2, a3, a4, a5, a6, a7, a8, a9, a10⟩ hm
    exact ⟨line, edge, tl, te, a1, a2, a3, a4, a5, a6, a7, fun b o e => hm.heap b o (fun q => hnew b o e (List.mem_singleton.mp q)) (a8 b o e), (hm.gens.none_eq).trans a9, hm.os.trans a10⟩
  · rintro i v m s₅ h₆ hi ⟨line, edge, tl, te, a1, a2, a3, a4, a5, ⟨gap, a6, g0, g1⟩, a7, a8, a9, a10⟩ hv hst₆ hns₆ hsb₆
    have hi' : i < lt.length := by simpa [strValues] using hi
    have hv' : v = .str lt[i].1 lt[i].2 := by
      have : (strValues lt).toArray[i]? = some (.str lt[i].1 lt[i].2) := by simp [strValues, List.getElem?_eq_getElem hi']
      rw [this] at hv
      exact (Option.some.inj hv).symm
    subst hv'
    have htl : lt[i].1.length ≤ 100 := hts _ (List.getElem_mem hi')
    generalize ht : lt[i].1 = t at htl hns₆ ⊢
    generalize lt[i].2 = ut at hns₆ ⊢
    have hll : line.length ≤ 10000 := by omega
    obtain ⟨⟨n1, n2⟩, n3, n4, n5, ⟨n6, n7⟩, n8⟩ := turn_nums (sp := sp) a6 g0 g1 hll htl hw0 hw1
    have hsl : sizeLine = 16777216 := rfl
    have old₆ : ∀ b o, s.heap.get? b = some o → h₆.get? b = some o := fun b o e => hsb₆.extBut b o (hks b o e) (a8 b o e)
    have gl : ∀ {sx : Shared}, (∀ b o, s.heap.get? b = some o → sx.heap.get? b = some o) → ∀ np, Ev prg w (callEnv (fdAt (K w) 29) s.heap.objs.size 29) sx (.Name (Str.ofString "len") np) (· = .builtin "len") := fun hx np =>
      Ev.builtin rfl rfl ((T.g.keeps hk).keeps hx) hlen ((T.b.keeps hk).keeps hx) ((T.builtins _ (by decide)).trans rfl) rfl
    have gm : ∀ {sx : Shared}, (∀ b o, s.heap.get? b = some o → sx.heap.get? b = some o) → ∀ np, Ev prg w (callEnv (fdAt (K w) 29) s.heap.objs.size 29) sx (.Name (Str.ofString "max") np) (· = .builtin "max") := fun hx np =>
      Ev.builtin rfl rfl ((T.g.keeps hk).keeps hx) hmax ((T.b.keeps hk).keeps hx) ((T.builtins _ (by decide)).trans rfl) rfl
    refine assign_ev (x := Str.ofString "breadth") hhD (Ev.max2 (gm old₆ _) (Ev.local' (V := IntV wd) rfl rfl hns₆ a3 ⟨_, rfl⟩) (Ev.lenS (gl old₆ _) (Ev.local' (V := StrV t) rfl rfl hns₆ rfl ⟨_, rfl⟩) (by omega))) rfl hns₆ ?_
    rintro _ s₇ ⟨tb, rfl⟩ hns₇ hk₇ hg₇ hd₇ ho₇
    have old₇ : ∀ b o, s.heap.get? b = some o → s₇.heap.get? b = some o := fun b o e => hk₇ b o (hks b o e) (old₆ b o e)
    refine assign_ev (x := Str.ofString "spot") hhD (Ev.add (Ev.local' (V := IntV edge) rfl rfl hns₇ a2 ⟨_, rfl⟩) (Ev.fdiv (Ev.add (Ev.sub (Ev.local' (V := IntV (max wd (t.length : Int))) rfl rfl hns₇ rfl ⟨_, rfl⟩) (Ev.lenS (gl old₇ _) (Ev.local' (V := StrV t) rfl rfl hns₇ rfl ⟨_, rfl⟩) (by omega)))
      (Ev.mod (Ev.local' (V := IntV (max wd (t.length : Int))) rfl rfl hns₇ rfl ⟨_, rfl⟩) Ev.int (by decide))) Ev.int (by decide) (PyProof.noPylong_small (by decide)))) rfl hns₇ ?_
    rintro _ s₈ ⟨tsp, rfl⟩ hns₈ hk₈ hg₈ hd₈ ho₈
    have old₈ : ∀ b o, s.heap.get? b = some o → s₈.heap.get? b = some o := fun b o e => hk₈ b o (hks b o e) (old₇ b o e)
    refine assign_ev (x := Str.ofString "line") hhD (Ev.addS (Ev.addS (Ev.local' (V := StrV line) rfl rfl hns₈ a1 ⟨_, rfl⟩) (Ev.mulS (Ev.str (x := Str.ofString " ")) (Ev.sub (Ev.local' rfl rfl hns₈ rfl ⟨_, rfl⟩) (Ev.lenS (gl old₈ _) (Ev.local' (V := StrV line) rfl rfl hns₈ a1 ⟨_, rfl⟩) (by omega))) (mulOk_sp (by omega) (by omega))) (Nat.le_trans (Nat.add_le_add hll n4) (by decide)))
      (Ev.local' (V := StrV t) rfl rfl hns₈ rfl ⟨_, rfl⟩) (Nat.le_trans (Nat.add_le_add n5 htl) (by decide))) rfl hns₈ ?_
    rintro _ s₉ ⟨tl1, rfl⟩ hns₉ hk₉ hg₉ hd₉ ho₉
    have old₉ : ∀ b o, s.heap.get? b = some o → s₉.heap.get? b = some o := fun b o e => hk₉ b o (hks b o e) (old₈ b o e)
    have n3' := Nat.le_trans n3 (show 10400 ≤ sizeLine by decide)
    refine assign_ev (x := Str.ofString "line") hhD (Ev.addS (Ev.local' rfl rfl hns₉ rfl ⟨_, rfl⟩) (Ev.mulS (Ev.str (x := Str.ofString " ")) (Ev.sub (Ev.add (Ev.local' (V := IntV edge) rfl rfl hns₉ a2 ⟨_, rfl⟩) (Ev.local' (V := IntV (max wd (t.length : Int))) rfl rfl hns₉ rfl ⟨_, rfl⟩)) (Ev.lenS (gl old₉ _) (Ev.local' rfl rfl hns₉ rfl ⟨_, rfl⟩) n3'))
      (mulOk_sp (Int.le_trans (by decide) n6) (Int.le_trans n7 (by decide)))) (Nat.le_trans (Nat.add_le_add n3 n8) (by decide))) rfl hns₉ ?_
    rintro _ s₁₀ ⟨tl2, rfl⟩ hns₁₀ hk₁₀ hg₁₀ hd₁₀ ho₁₀
    have old₁₀ : ∀ b o, s.heap.get? b = some o → s₁₀.heap.get? b = some o := fun b o e => hk₁₀ b o (hks b o e) (old₉ b o e)
    refine assign_ev (x := Str.ofString "edge") hhD (Ev.add (Ev.add (Ev.local' (V := IntV edge) rfl rfl hns₁₀ a2 ⟨_, rfl⟩) (Ev.local' (V := IntV (max wd (t.length : Int))) rfl rfl hns₁₀ rfl ⟨_, rfl⟩)) (Ev.max2 (gm old₁₀ _) (Ev.local' (V := IntV sp) rfl rfl hns₁₀ a4 ⟨_, rfl⟩) Ev.int)) rfl hns₁₀ ?_
    rintro _ s₁₁ ⟨te2, rfl⟩ hns₁₁ hk₁₁ hg₁₁ hd₁₁ ho₁₁
    have old₁₁ : ∀ b o, s.heap.get? b = some o → s₁₁.heap.get? b = some o := fun b o e => hk₁₁ b o (hks b o e) (old₁₀ b o e)
    have hIk : ∀ b o, b ≠ s.heap.objs.size → h₆.get? b = some o → s₁₁.heap.get? b = some o := fun b o hb e => hk₁₁ b o hb (hk₁₀ b o hb (hk₉ b o hb (hk₈ b o hb (hk₇ b o hb e))))
    refine wpAny_execs_nil ⟨_, hns₁₁, ⟨_, _, tl2, te2, rfl, rfl, a3, a4, ?_, ?_, ?_, old₁₁, (hg₁₁.trans (hg₁₀.trans (hg₉.trans (hg₈.trans hg₇)))).trans a9, (ho₁₁.trans (ho₁₀.trans (ho₉.trans (ho₈.trans ho₇)))).trans a10⟩, ?_⟩
    · rw [List.take_add_one, List.foldl_append, ← a5, List.getElem?_map, List.getElem?_eq_getElem hi']
      show _ = List.foldl (stepT wd sp) (line, edge) [lt[i].1]
      rw [ht]
      rfl
    · have hc := congrArg Prod.snd (step_core wd sp line edge gap t g0 a6)
      have hc1 := congrArg Prod.fst (step_core wd sp line edge gap t g0 a6)
      have e1 : (stepT wd sp (line, edge) t).1 = line ++ Txt.mul sp1 (edge + (max wd (t.length : Int) - (t.length : Int) + (max wd (t.length : Int)).fmod 2).fdiv 2 - (line.length : Int)) ++ t ++ Txt.mul sp1 (edge + max wd (t.length : Int) - ((line ++ Txt.mul sp1 (edge + (max wd (t.length : Int) - (t.length : Int) + (max wd (t.length : Int)).fmod 2).fdiv 2 - (line.length : Int)) ++ t).length : Int)) := rfl
      have e2 : (stepT wd sp (line, edge) t).2 = edge + max wd (t.length : Int) + max sp 0 := rfl
      refine ⟨max sp 0, ?_, by omega, by omega⟩
      rw [← e2, hc]
      show ((line ++ Txt.mul sp1 gap ++ Txt.center t wd).length : Int) + max sp 0 = _
      have hc1' : (stepT wd sp (line, edge) t).1 = line ++ Txt.mul sp1 gap ++ Txt.center t wd := hc1
      rw [← hc1']
      rfl
    · have hc1 : (stepT wd sp (line, edge) t).1 = line ++ Txt.mul sp1 gap ++ Txt.center t wd := congrArg Prod.fst (step_core wd sp line edge gap t g0 a6)
      have hlen : (stepT wd sp (line, edge) t).1.length ≤ (i + 1) * 300 := by
        rw [hc1]
        have h1 := center_len wd t
        have h2 := mul_len gap
        rw [Str.length_append, Str.length_append]
        omega
      exact hlen
    · obtain ⟨⟨o1, q1, r1⟩, o2, q2, r2⟩ := hst₆
      exact ⟨⟨o1, hIk _ _ hIL q1, r1⟩, o2, hIk _ _ hlI q2, r2⟩
  · rintro m s₅ hns₅ ⟨line, edge, tl, te, a1, a2, a3, a4, a5, a6, a7, a8, a9, a10⟩
    refine wpAny_execs_cons (wpAny_Return_some (wpAny_Name (wpAny_loadName_local (v := .str line tl) rfl rfl hns₅ a1 ?_) rfl))
    have e : lawLine (lt.map (·.1)) wd sp = line := by
      unfold lawLine
      have h1 : (lt.map (·.1)).take (strValues lt).toArray.size = lt.map (·.1) := List.take_of_length_le (by simp [strValues])
      rw [h1] at a5
      rw [← a5]
    have := hR s₅ tl a8 a9 a10
    rw [e] at this
    exact this
end Mine

end
section
namespace Mine
open Sem (wp)

theorem join_sum {sep : Str} (hs : sep.length ≤ 200) : ∀ (l : List Str) (a : Nat), (∀ x ∈ l, x.length ≤ 200) → l.foldl (fun a x => a + x.length + sep.length) a ≤ a + l.length * 400
  | [], a, _ => by simp
  | x :: r, a, h => by
    have h1 := join_sum hs r (a + x.length + sep.length) fun y hy => h y (List.mem_cons_of_mem _ hy)
    have h2 := h x (List.mem_cons_self ..)
    rw [List.foldl_cons, List.length_cons]
    omega
theorem joinOk {sep : Str} {l : List Str} (hs : sep.length ≤ 200) (hl : ∀ x ∈ l, x.length ≤ 200) (hn : l.length ≤ 20) : JoinOk sep l = true := by
  unfold JoinOk Builtin.Str.tooLong
  have h := join_sum hs l 0 hl
  have e : sizeLine = 16777216 := rfl
  simp only [List.foldl_toArray', List.size_toArray, Bool.not_eq_true', decide_eq_false_iff_not]
  have : l.foldl (fun a x => a + x.length + sep.length) 0 ≤ 8000 := by omega
  rw [e]
  omega

/-- what the law's walk knows of its ground -/
structure Facts (w : World) (h₀ : Heap) (mg mb : Str → Option Value) : Prop where
  X : (K w).In h₀
  T : ∃ p loose mean, Top p loose mean mg mb h₀
  n17 : h₀.get? 17 = none
  n31 : h₀.get? 31 = none
  max : mg (Str.ofString "max") = none
  len : mg (Str.ofString "len") = none
  range : mg (Str.ofString "range") = none
  str : mg (Str.ofString "str") = none
  fmt : mg (Str.ofString "formatstring") = some (.ref 22)
  line : mg (Str.ofString "_law_line") = some (.ref 29)

/-- what holds of every state of the walk -/
structure Sd (h₀ : Heap) (s : Shared) : Prop where
  old : ∀ b o, h₀.get? b = some o → s.heap.get? b = some o
  t17 : TabOk 17 s.heap
  t31 : TabOk 31 s.heap
  bare : AllBare s.gens

/-- all stands but the two tables -/
structure Pr (s s' : Shared) : Prop where
  heap : ∀ b o, b ≠ 17 → b ≠ 31 → s.heap.get? b = some o → s'.heap.get? b = some o
  os : s'.os = s.os
theorem Pr.refl (s : Shared) : Pr s s := ⟨fun _ _ _ _ e => e, rfl⟩
theorem Pr.trans {a b c : Shared} (x : Pr a b) (y : Pr b c) : Pr a c := ⟨fun b o h1 h2 e => y.heap b o h1 h2 (x.heap b o h1 h2 e), y.os.trans x.os⟩
theorem Pr.of_keeps {a b : Shared} (x : Keeps a b) : Pr a b := ⟨fun c o _ _ e => Keeps.heap' x c o e, Keeps.os' x⟩
theorem Sd.keeps {h₀ : Heap} {a b : Shared} (S : Sd h₀ a) (x : Keeps a b) : Sd h₀ b :=
  ⟨fun c o e => Keeps.heap' x c o (S.old c o e), let ⟨ps, e, r⟩ := S.t17; ⟨ps, Keeps.heap' x _ _ e, r⟩, let ⟨ps, e, r⟩ := S.t31; ⟨ps, Keeps.heap' x _ _ e, r⟩, (Keeps.gens' x) ▸ S.bare⟩

theorem Src.imp {prog : Program} {w : World} {A : Around} {I : Addr} {fp wr : List Addr} {gi : Nat → Prop} {n : Nat} {P P' : Nat → Value → Prop} {St : Nat → Shared → Prop}
    (W : Src prog w A I fp wr gi n P St) (h : ∀ i v, i < n → P i v → P' i v) : Src prog w A I fp wr gi n P' St where
  sub := W.sub
  frame := W.frame
  item := fun i s Q E hi st hQ => W.item i s Q E hi st fun v s' hP => hQ v s' (h i v hi hP)
  done := W.done
  self := W.self

theorem tab_ne {h : Heap} {P l : Addr} {items : Array Value} (ht : TabOk P h) (hl : h.IsList l items) : l ≠ P := by
  rintro rfl
  obtain ⟨ps, e, _⟩ := ht
  obtain ⟨o, e', hc, _⟩ := hl
  rw [e] at e'
  cases e'
  cases hc

theorem strs_at {lt : List (Str × Tok)} {i : Nat} {v : Value} (h : (strValues lt).toArray[i]? = some v) : ∃ u, v = .str ((lt.map (·.1)).getD i Str.empty) u := by
  have : (strValues lt)[i]? = some v := by simpa using h
  unfold strValues at this
  rw [List.getElem?_map] at this
  cases q : lt[i]? with
  | none => rw [q] at this; cases this
  | some p =>
    rw [q] at this
    cases this
    refine ⟨p.2, ?_⟩
    rw [List.getD_eq_getElem?_getD, List.getElem?_map, q]
    rfl

theorem cols_list {w : World} {s : Shared} {l : Addr} {lt : List (Str × Tok)} (hl : s.heap.IsList l (strValues lt).toArray) (h17 : TabOk 17 s.heap) : Cols prg w (.ref l) (lt.map (·.1)) [] s := by
  intro s₁ A' E' Q' hh hd hu hk _ hg hQ
  have hlt : l < s₁.heap.objs.size := by obtain ⟨_, e, _⟩ := hl; exact Heap.lt_size (hk _ _ e)
  have h17' : 17 < s₁.heap.objs.size := by obtain ⟨_, e, _⟩ := h17; exact Heap.lt_size (hk _ _ e)
  refine iter_list (hl.at fun o e => hk _ o e) fun I s₂ hI hsz hk₂ hg₂ ho₂ W st => ?_
  have hn : (lt.map (·.1)).length = (strValues lt).toArray.size := by simp [strValues]
  refine hQ I s₂ [I, l] [I] (fun _ => False) _ (hn ▸ (W (Aw 360 200) rfl).imp fun i v _ h => strs_at h) st ?_ ?_ ?_ (fun _ q => q.elim) ?_ hk₂ (by rw [hsz]; exact Nat.le_succ _) hg₂ ho₂
  · intro b hb
    rw [hsz]
    rcases List.mem_cons.mp hb with rfl | hb
    · rw [hI]; exact Nat.lt_succ_self _
    · rw [List.mem_singleton.mp hb]; exact Nat.lt_succ_of_lt hlt
  · intro hm
    rcases List.mem_cons.mp hm with q | q
    · rw [← hI.symm.trans q.symm] at h17'; exact Nat.lt_irrefl _ h17'
    · exact tab_ne h17 hl (List.mem_singleton.mp q).symm
  · intro hm
    have q := List.mem_singleton.mp hm
    rw [hI] at q
    have : cStatics < s₁.heap.objs.size := Nat.lt_of_le_of_lt (by decide) h17'
    rw [q] at this
    exact Nat.lt_irrefl _ this
  · intro b hb
    rw [List.mem_singleton.mp hb, hI]
    exact .inr (Nat.le_refl _)
end Mine

end
section
namespace Mine
open Sem (wp)

theorem fmtText_is (ts : List Str) (cw sp : Int) : fmtText ts cw sp = lawLine ts cw sp := by
  unfold fmtText
  rw [map_range ts fun t => Txt.center t cw]
  exact (line_is ts cw sp).symm

theorem padOk {i : Int} (h0 : -10 ≤ i) (h1 : i ≤ 100) : PadOk i = true := by
  unfold PadOk Builtin.Str.tooLong
  have e : sizeLine = 16777216 := rfl
  have h2 : i.toNat ≤ 100 := by omega
  have h3 : fitsSsize i = true := by
    unfold fitsSsize
    simp
    omega
  rw [h3, e]
  simp
  omega

/-- formatstring over any texts, its answer the law's own line -/
theorem fmt_any {w : World} {A : Around} {s : Shared} {h₀ : Heap} {mg mb : Str → Option Value} {args : Args} {v : Value} {ts : List Str} {wr₀ : List Addr} {cw sp : Int} {t1 t2 : Tok} {R : Result → Shared → Prop}
    (F : Facts w h₀ mg mb) (S : Sd h₀ s) (hh : A.handled = none) (hd : A.depth ≤ 320) (hu : A.units ≤ 60)
    (hb : BindsTo s (fdAt (K w) 22) args [(Str.ofString "cols", v), (Str.ofString "colwidth", .int cw t1), (Str.ofString "spacing", .int sp t2)])
    (hv : Cols prg w v ts wr₀ s) (hwr : ∀ b ∈ wr₀, b < s.heap.objs.size) (hw31 : 31 ∉ wr₀) (hwo : ∀ b ∈ wr₀, h₀.get? b = none) (hn : ts.length ≤ 10) (hts : ∀ x ∈ ts, x.length ≤ 100) (hw0 : -10 ≤ cw) (hw1 : cw ≤ 100) (hs0 : -10 ≤ sp) (hs1 : sp ≤ 100)
    (hR : ∀ s' t', (∀ b o, b ≠ 17 → b ∉ wr₀ → s.heap.get? b = some o → s'.heap.get? b = some o) → Sd h₀ s' → s'.os = s.os → R (.ok (.ret (.str (lawLine ts cw sp) t'))) s') :
    codeAny (model prg w) A (.call (.ref 22) args) R s := by
  obtain ⟨p, loose, mean, T⟩ := F.T
  have hm : (Txt.mul (Str.ofString " ") sp).length ≤ 200 := by
    have := mul_len sp
    have e : (Txt.mul (Str.ofString " ") sp).length = (Txt.mul sp1 sp).length := rfl
    omega
  refine fmt_call hh hd hu F.X T S.old F.n17 S.t17 hb hv hwr (padOk hw0 hw1) (mulOk_sp (by omega) (by omega)) (by have e : sizeLine = 16777216 := rfl; omega) (joinOk hm ?_ (by simp; omega)) fun s' t' hk ht ho hbare => ?_
  · intro x hx
    obtain ⟨i, hi, rfl⟩ := List.mem_map.mp hx
    have hi' : i < ts.length := List.mem_range.mp hi
    have h1 := center_len cw (ts.getD i Str.empty)
    have h2 : (ts.getD i Str.empty).length ≤ 100 := by
      rw [List.getD_eq_getElem?_getD, List.getElem?_eq_getElem hi']
      exact hts _ (List.getElem_mem hi')
    omega
  · rw [fmtText_is]
    refine hR s' t' hk ⟨fun b o e => ?_, ht, ?_, hbare S.bare⟩ ho
    · refine hk b o (fun q => ?_) (fun q => ?_) (S.old b o e)
      · rw [q, F.n17] at e; cases e
      · rw [hwo b q] at e; cases e
    · obtain ⟨ps, e, r⟩ := S.t31
      exact ⟨ps, hk _ _ (by decide) hw31 e, r⟩

theorem fmt_list {w : World} {A : Around} {s : Shared} {h₀ : Heap} {mg mb : Str → Option Value} {args : Args} {l : Addr} {lt : List (Str × Tok)} {cw sp : Int} {t1 t2 : Tok} {R : Result → Shared → Prop}
    (F : Facts w h₀ mg mb) (S : Sd h₀ s) (hh : A.handled = none) (hd : A.depth ≤ 320) (hu : A.units ≤ 60)
    (hb : BindsTo s (fdAt (K w) 22) args [(Str.ofString "cols", .ref l), (Str.ofString "colwidth", .int cw t1), (Str.ofString "spacing", .int sp t2)])
    (hl : s.heap.IsList l (strValues lt).toArray) (hn : lt.length ≤ 10) (hts : ∀ x ∈ lt, x.1.length ≤ 100) (hw0 : -10 ≤ cw) (hw1 : cw ≤ 100) (hs0 : -10 ≤ sp) (hs1 : sp ≤ 100)
    (hR : ∀ s' t', Pr s s' → Sd h₀ s' → R (.ok (.ret (.str (lawLine (lt.map (·.1)) cw sp) t'))) s') :
    codeAny (model prg w) A (.call (.ref 22) args) R s :=
  fmt_any F S hh hd hu hb (cols_list hl S.t17) (fun _ h => nomatch h) (fun h => nomatch h) (fun _ h => nomatch h) (by simpa using hn) (fun x hx => by obtain ⟨p, hp, rfl⟩ := List.mem_map.mp hx; exact hts p hp) hw0 hw1 hs0 hs1
    fun s' t' hk S' ho => hR s' t' ⟨fun b o h1 _ e => hk b o h1 (fun h => nomatch h) e, ho⟩ S'

theorem line_list {w : World} {A : Around} {s : Shared} {h₀ : Heap} {mg mb : Str → Option Value} {l : Addr} {lt : List (Str × Tok)} {cw sp : Int} {t1 t2 : Tok} {R : Result → Shared → Prop}
    (F : Facts w h₀ mg mb) (S : Sd h₀ s) (hh : A.handled = none) (hd : A.depth ≤ 320)
    (hl : s.heap.IsList l (strValues lt).toArray) (hn : lt.length ≤ 10) (hts : ∀ x ∈ lt, x.1.length ≤ 100) (hw0 : -10 ≤ cw) (hw1 : cw ≤ 100) (hs0 : -10 ≤ sp) (hs1 : sp ≤ 100)
    (hR : ∀ s' t', Pr s s' → Sd h₀ s' → R (.ok (.ret (.str (lawLine (lt.map (·.1)) cw sp) t'))) s') :
    codeAny (model prg w) A (.call (.ref 29) ⟨[.ref l, .int cw t1, .int sp t2], []⟩) R s := by
  obtain ⟨p, loose, mean, T⟩ := F.T
  refine line_call hh hd F.X T S.old F.max F.len hl hn hts hw0 hw1 hs0 hs1 fun s' t' hk hg ho => hR s' t' ⟨fun b o _ _ e => hk b o e, ho⟩ ⟨fun b o e => hk b o (S.old b o e), ?_, ?_, hg ▸ S.bare⟩
  · obtain ⟨ps, e, r⟩ := S.t17; exact ⟨ps, hk _ _ e, r⟩
  · obtain ⟨ps, e, r⟩ := S.t31; exact ⟨ps, hk _ _ e, r⟩

section
variable {prog : Program} {w : World} {A : Around} {E : Value → Shared → Prop} {s₀ : Shared} {env : Env}

/-- a call of a def by its name, three plain arguments -/
theorem call_def3 {x : Str} {np pos : Pos} {e1 e2 e3 : Expr} {a : Addr} {o : Obj} {fd : FuncData} {V1 V2 V3 : Value → Prop} {Q : Value → Shared → Prop} (hh : A.handled = none)
    (hf : Ev prog w env s₀ (.Name x np) (· = .ref a)) (h1 : Ev prog w env s₀ e1 V1) (h2 : Ev prog w env s₀ e2 V2) (h3 : Ev prog w env s₀ e3 V3) (ho : s₀.heap.get? a = some o) (hfd : o.data = .func fd)
    (h : ∀ v1 v2 v3 s, V1 v1 → V2 v2 → V3 v3 → Keeps s₀ s → codeAny (model prog w) A (.call (.ref a) ⟨[v1, v2, v3], []⟩) (fun r s' => match r with | .ok (.ret v) => Q v s' | .ok _ => False | .error e => E e s') s)
    (hs : backTo pos (starEach [e1, e2, e3] env) = [(false, eval e1 env), (false, eval e2 env), (false, eval e3 env)] := by rfl) :
    wpAny (model prog w) A (eval (.Call (.Name x np) [e1, e2, e3] [] pos) env) Q E s₀ := by
  refine wpAny_Call_NameR (wpAny_mono (hf A E s₀ hh (Keeps.rfl' _)) (fun f s₁ y => ?_) fun _ _ e => e)
  obtain ⟨rfl, k₁⟩ := y
  rw [hs]
  refine Calls.callWith_function (o := o) (fd := fd) (Calls.evalArgs_plain (Calls.spliced_cons (wpAny_mono (h1 A E s₁ hh k₁) (fun v1 s₂ y => ?_) fun _ _ e => e)))
  refine Calls.spliced_cons (wpAny_mono (h2 A E s₂ hh y.2) (fun v2 s₃ z => ?_) fun _ _ e => e)
  refine Calls.spliced_cons (wpAny_mono (h3 A E s₃ hh z.2) (fun v3 s₄ q => Calls.spliced_nil ⟨⟨Keeps.heap' q.2 _ _ ho, hfd⟩, ?_⟩) fun _ _ e => e)
  exact wpAny_call (h v1 v2 v3 s₄ y.1 z.1 q.1 q.2)

theorem call_def1 {x : Str} {np pos : Pos} {e1 : Expr} {a : Addr} {o : Obj} {fd : FuncData} {V1 : Value → Prop} {Q : Value → Shared → Prop} (hh : A.handled = none)
    (hf : Ev prog w env s₀ (.Name x np) (· = .ref a)) (h1 : Ev prog w env s₀ e1 V1) (ho : s₀.heap.get? a = some o) (hfd : o.data = .func fd)
    (h : ∀ v1 s, V1 v1 → Keeps s₀ s → codeAny (model prog w) A (.call (.ref a) ⟨[v1], []⟩) (fun r s' => match r with | .ok (.ret v) => Q v s' | .ok _ => False | .error e => E e s') s)
    (hs : backTo pos (starEach [e1] env) = [(false, eval e1 env)] := by rfl) :
    wpAny (model prog w) A (eval (.Call (.Name x np) [e1] [] pos) env) Q E s₀ := by
  refine wpAny_Call_NameR (wpAny_mono (hf A E s₀ hh (Keeps.rfl' _)) (fun f s₁ y => ?_) fun _ _ e => e)
  obtain ⟨rfl, k₁⟩ := y
  rw [hs]
  refine Calls.callWith_function (o := o) (fd := fd) (Calls.evalArgs_plain (Calls.spliced_cons (wpAny_mono (h1 A E s₁ hh k₁) (fun v1 s₂ y => ?_) fun _ _ e => e)))
  exact Calls.spliced_nil ⟨⟨Keeps.heap' y.2 _ _ ho, hfd⟩, wpAny_call (h v1 s₂ y.1 y.2)⟩

theorem Ev.global {mg : Str → Option Value} {V : Value → Prop} {x : Str} {pos : Pos} {v : Value} (hk : env.scope.kind = .function) (hx : env.kindOf x = some .globalImplicit) (hg : s₀.heap.Ns env.globals mg) (hv : mg x = some v) (hV : V v)
    (hd : (x == ("__debug__" : Str)) = false := by rfl) : Ev prog w env s₀ (.Name x pos) V :=
  fun A E s hh k => Calls.Name_function_global hk hx (Calls.loadGlobal_global (hg.keeps (Keeps.heap' k)) hv ⟨hV, k⟩) hd
end
end Mine

end
section
namespace Mine
open Sem (wp)

/-- all stands but the frame's names and the two tables -/
structure PrL (L : Addr) (s s' : Shared) : Prop where
  heap : ∀ b o, b ≠ L → b ≠ 17 → b ≠ 31 → s.heap.get? b = some o → s'.heap.get? b = some o
  os : s'.os = s.os
theorem PrL.refl (L : Addr) (s : Shared) : PrL L s s := ⟨fun _ _ _ _ _ e => e, rfl⟩
theorem PrL.trans {L : Addr} {a b c : Shared} (x : PrL L a b) (y : PrL L b c) : PrL L a c := ⟨fun b o h0 h1 h2 e => y.heap b o h0 h1 h2 (x.heap b o h0 h1 h2 e), y.os.trans x.os⟩
theorem Pr.toL {L : Addr} {a b : Shared} (x : Pr a b) : PrL L a b := ⟨fun b o _ h1 h2 e => x.heap b o h1 h2 e, x.os⟩
theorem fresh_ne {h : Heap} {I b : Addr} {o : Obj} (hI : h.get? I = none) (e : h.get? b = some o) : b ≠ I := fun q => by rw [q, hI] at e; cases e
theorem Sd.mv {h₀ : Heap} {s s' s'' : Shared} {I : Addr} (S₀ : Sd h₀ s) (hI : s.heap.get? I = none) (S : Sd h₀ s') (m : Mv [I] (fun _ => False) s' s'') : Sd h₀ s'' := by
  have ne : ∀ b o, s.heap.get? b = some o → b ∉ [I] := fun b o e q => fresh_ne hI e (List.mem_singleton.mp q)
  refine ⟨fun b o e => m.heap b o (ne b o (S₀.old b o e)) (S.old b o e), ?_, ?_, m.gens.none_eq ▸ S.bare⟩
  · obtain ⟨ps₀, e₀, _⟩ := S₀.t17
    obtain ⟨ps, e, r⟩ := S.t17; exact ⟨ps, m.heap _ _ (ne _ _ e₀) e, r⟩
  · obtain ⟨ps₀, e₀, _⟩ := S₀.t31
    obtain ⟨ps, e, r⟩ := S.t31; exact ⟨ps, m.heap _ _ (ne _ _ e₀) e, r⟩
theorem PrL.mv {L I : Addr} {s s' s'' : Shared} (hI : s.heap.get? I = none) (p : PrL L s s') (m : Mv [I] (fun _ => False) s' s'') : PrL L s s'' :=
  ⟨fun b o h0 h1 h2 e => m.heap b o (fun q => fresh_ne hI e (List.mem_singleton.mp q)) (p.heap b o h0 h1 h2 e), m.os.trans p.os⟩
theorem Keeps.fresh {s s' : Shared} (k : Keeps s s') {I : Addr} (h : s'.heap.objs.size ≤ I) : s.heap.get? I = none := by
  cases q : s.heap.get? I with
  | none => rfl
  | some o => exact absurd (Heap.lt_size (Keeps.heap' k _ _ q)) (Nat.not_lt.mpr h)
theorem Sd.ne17 {h₀ : Heap} {s : Shared} {I : Addr} (S : Sd h₀ s) (hI : s.heap.get? I = none) : I ≠ 17 := by obtain ⟨_, e, _⟩ := S.t17; exact (fresh_ne hI e).symm
theorem Sd.ne31 {h₀ : Heap} {s : Shared} {I : Addr} (S : Sd h₀ s) (hI : s.heap.get? I = none) : I ≠ 31 := by obtain ⟨_, e, _⟩ := S.t31; exact (fresh_ne hI e).symm
theorem PrL.same {L : Addr} {s s' : Shared} {h : Heap} {tk : Nat} (p : PrL L s s') (hs : Heap.SameBut L s'.heap h) : PrL L s { s' with heap := h, toks := tk } :=
  ⟨fun b o h0 h1 h2 e => hs.extBut b o h0 (p.heap b o h0 h1 h2 e), p.os⟩
theorem Sd.same {h₀ : Heap} {L : Addr} {s' : Shared} {h : Heap} {tk : Nat} (hL : h₀.get? L = none) (hL1 : L ≠ 17) (hL2 : L ≠ 31) (S : Sd h₀ s') (hs : Heap.SameBut L s'.heap h) : Sd h₀ { s' with heap := h, toks := tk } := by
  refine ⟨fun b o e => hs.extBut b o (fun q => ?_) (S.old b o e), ?_, ?_, S.bare⟩
  · rw [q, hL] at e; cases e
  · obtain ⟨ps, e, r⟩ := S.t17; exact ⟨ps, hs.extBut _ _ hL1.symm e, r⟩
  · obtain ⟨ps, e, r⟩ := S.t31; exact ⟨ps, hs.extBut _ _ hL2.symm e, r⟩

section
variable {w : World} {A : Around} {E : Value → Shared → Prop} {s : Shared} {env : Env} {h₀ : Heap}

theorem if_differs {l r : Expr} {p pos : Pos} {body : List Stmt} {text : Str} {Q : Flow → Shared → Prop}
    (hl : wpAny (model prg w) A (eval l env) (fun v s₁ => ∃ t, v = .str text t ∧ Pr s s₁ ∧ Sd h₀ s₁) E s)
    (hr : ∀ s₁, Pr s s₁ → Sd h₀ s₁ → wpAny (model prg w) A (eval r env) (fun v s₂ => ∃ t, v = .str text t ∧ Pr s₁ s₂ ∧ Sd h₀ s₂) E s₁)
    (hQ : ∀ s₂, Pr s s₂ → Sd h₀ s₂ → Q .next s₂) (hm : behindInMarks .NotEq r = false := by with_unfolding_all rfl) :
    wpAny (model prg w) A (exec (.If (.Compare l [.NotEq] [r] p) body [] pos) env) Q E s := by
  refine wpAny_If (wpAny_isTrue_Compare1 (wpAny_mono hl (fun v s₁ h => ?_) fun _ _ e => e) hm)
  obtain ⟨t, rfl, p₁, S₁⟩ := h
  refine wpAny_mono (hr s₁ p₁ S₁) (fun v s₂ h => ?_) fun _ _ e => e
  obtain ⟨t', rfl, p₂, S₂⟩ := h
  refine PyProof.Rows.ne_str (wpAny_truthy_bool ?_)
  have e : (text != text) = false := by simp
  rw [e]
  exact wpAny_execs_nil (hQ s₂ (p₁.trans p₂) S₂)

/-- a for over a range of ints -/
theorem for_range {L : Addr} {x : Str} {px rp rpos pos : Pos} {e1 e2 : Expr} {body : List Stmt} {a b : Int} {n : Nat} {m₀ : Str → Option Value} {Q : Flow → Shared → Prop} (hh : A.handled = none) (hEL : env.locals = L)
    (S : Sd h₀ s) (hL0 : h₀.get? L = none) (hL1 : L ≠ 17) (hL2 : L ≠ 31) (Jm : (Str → Option Value) → Prop)
    (hf : Ev prg w env s (.Name (Str.ofString "range") rp) (· = .type "range")) (h1 : Ev prg w env s e1 (IntV a)) (h2 : Ev prg w env s e2 (IntV b)) (hsm : Builtin.Range.small a b 1 = true) (hn : Builtin.Range.rangeSize a b 1 = (n : Int))
    (hx : env.kindOf x = some .local) (hp : (env.scope.kind == .class || (env.scope.kind == .module && env.locals != env.globals)) = false) (hns : s.heap.Ns L m₀) (hJ : Jm m₀)
    (turn : ∀ (i : Nat) t m s₁, i < n → s₁.heap.Ns L (fun y => if y = x then some (.int (a + i * 1) t) else m y) → Jm m → Sd h₀ s₁ → PrL L s s₁ →
      wpAny (model prg w) A (execs body env) (fun f s₃ => f = .next ∧ ∃ m', s₃.heap.Ns L m' ∧ Jm m' ∧ PrL L s₁ s₃ ∧ Sd h₀ s₃) (fun _ _ => False) s₁)
    (done : ∀ m s', s'.heap.Ns L m → Jm m → PrL L s s' → Sd h₀ s' → Q .next s')
    (hs : backTo rpos (starEach [e1, e2] env) = [(false, eval e1 env), (false, eval e2 env)] := by rfl)
    (hfs : ∀ v, foldedSetIterable (.Call (.Name (Str.ofString "range") rp) [e1, e2] [] rpos) env v = pure v := by intro _; rfl) :
    wpAny (model prg w) A (exec (.For (.Name x px) (.Call (.Name (Str.ofString "range") rp) [e1, e2] [] rpos) body [] pos) env) Q E s := by
  subst hEL
  refine wpAny_For (wpAny_Call_NameR (wpAny_mono (hf A E s hh (Keeps.rfl' _)) (fun f s₁ y => ?_) fun _ _ e => e)) hfs
  obtain ⟨rfl, k₁⟩ := y
  rw [hs]
  refine PySem.callWith_type rfl (Calls.evalArgs_plain (Calls.spliced_cons (wpAny_mono (h1 A E s₁ hh k₁) (fun v1 s₂ y => ?_) fun _ _ e => e)))
  refine Calls.spliced_cons (wpAny_mono (h2 A E s₂ hh y.2) (fun v2 s₃ z => Calls.spliced_nil ?_) fun _ _ e => e)
  obtain ⟨⟨t1, rfl⟩, _⟩ := y
  obtain ⟨⟨t2, rfl⟩, k₃⟩ := z
  refine call_range_2 ?_
  refine wpAny_pyIter_range (IsRange.new ..) hsm ?_
  obtain ⟨h₃, tk₃, rfl, hk₃⟩ := k₃
  generalize hI : (h₃.push { cls := .type "range", data := .fields #[.int a t1, .int b t2, .int 1 tk₃] }).objs.size = I
  generalize hs₄ : ({ s with heap := (h₃.push { cls := .type "range", data := .fields #[.int a t1, .int b t2, .int 1 tk₃] }).push { cls := .type "range_iterator", data := .fields #[rawInt a, rawInt (Builtin.Range.rangeSize a b 1), rawInt 1] }, toks := tk₃ + 1 } : Shared) = s₄
  have k₄ : Keeps s s₄ := hs₄ ▸ ⟨_, _, rfl, fun b o e => Heap.get?_push_of_some _ (Heap.get?_push_of_some _ (hk₃ b o e))⟩
  have hI0 : s.heap.get? I = none := Keeps.fresh (s' := { s with heap := h₃.push { cls := .type "range", data := .fields #[.int a t1, .int b t2, .int 1 tk₃] }, toks := tk₃ }) ⟨_, _, rfl, fun b o e => Heap.get?_push_of_some _ (hk₃ b o e)⟩ (Nat.le_of_eq hI)
  have hIit : IsRangeIter s₄.heap I (a + ((0 : Nat) : Int) * 1) ((n : Int) - ((0 : Nat) : Int)) 1 := by
    subst hs₄
    subst hI
    have e : (a + ((0 : Nat) : Int) * 1) = a := by simp
    have e' : ((n : Int) - ((0 : Nat) : Int)) = n := by simp
    rw [e, e', ← hn]
    exact Heap.get?_push_size _ rfl
  have hLI : env.locals ≠ I := let ⟨o, _, _, e, _⟩ := hns; fresh_ne hI0 e
  show codeAny (model prg w) A (.forLoop (.Name x px) (.ref I) body [] env) _ s₄
  refine for_loop (m₀ := m₀) (Src.ofWalks (Walks.range hh I a 1 n)) (fun _ m s' => Jm m ∧ PrL env.locals s s' ∧ Sd h₀ s') hx hp (fun q => hLI (List.mem_singleton.mp q)) hIit (hns.keeps (Keeps.heap' k₄)) ⟨hJ, (Pr.of_keeps k₄).toL, S.keeps k₄⟩ ?_ ?_ ?_
  · rintro i m s₅ s₆ ⟨j1, j2, j3⟩ hm
    exact ⟨j1, j2.mv hI0 hm, S.mv hI0 j3 hm⟩
  · rintro i v m s₅ h₆ hi ⟨j1, j2, j3⟩ ⟨t, rfl⟩ hst hns₆ hsb
    refine wpAny_mono (turn i t m _ hi hns₆ j1 (j3.same hL0 hL1 hL2 hsb) (j2.same hsb)) (fun f s₇ h => ?_) fun _ _ e => e
    obtain ⟨rfl, m', n', j', p', S'⟩ := h
    exact ⟨m', n', ⟨j', (j2.same hsb).trans p', S'⟩, p'.heap _ _ hLI.symm (S.ne17 hI0) (S.ne31 hI0) hst⟩
  · rintro m s₅ hns₅ ⟨j1, j2, j3⟩
    exact done m s₅ hns₅ j1 j2 j3
end
end Mine

end
section
namespace Mine
open Sem (wp)

theorem Ev.neg {prog : Program} {w : World} {env : Env} {s₀ : Shared} {e : Expr} {pos : Pos} {a : Int} (h : Ev prog w env s₀ e (IntV a)) : Ev prog w env s₀ (.UnaryOp .USub e pos) (IntV (-a)) :=
  fun A E s hh k => wpAny_UnaryOp (wpAny_mono (h A E s hh k) (fun v s₁ y => by
    obtain ⟨⟨t, rfl⟩, k₁⟩ := y
    exact PyProof.Rows.neg_int ⟨⟨_, rfl⟩, Keeps.trans' k₁ (Keeps.toks' _)⟩) fun _ _ e => e)

noncomputable abbrev lenv (w : World) (L : Addr) : Env := callEnv (fdAt (K w) 36) L 36
noncomputable def lawBody (w : World) : List Stmt := match (fdAt (K w) 36).body with
  | .stmts b => b
  | _ => []
def forBody : Stmt → List Stmt
  | .For _ _ b _ _ => b
  | _ => []
noncomputable def textsBody (w : World) : List Stmt := forBody ((lawBody w).getD 2 (.Pass ⟨0, 0, 0, 0⟩))

theorem ns_ne_list {h : Heap} {L l : Addr} {m : Str → Option Value} {items : Array Value} (hn : h.Ns L m) (hl : h.IsList l items) : l ≠ L := by
  rintro rfl
  obtain ⟨o, es, ep, e, hd, _⟩ := hn
  obtain ⟨o', e', hc, n, hd'⟩ := hl
  rw [e] at e'
  cases e'
  rw [hd] at hd'
  cases hd'
theorem PrL.list {L l : Addr} {s s' : Shared} {items : Array Value} {h₀ : Heap} {m : Str → Option Value} (p : PrL L s s') (S : Sd h₀ s) (hn : s.heap.Ns L m) (hl : s.heap.IsList l items) : s'.heap.IsList l items :=
  hl.at fun o e => p.heap _ o (ns_ne_list hn hl) (tab_ne S.t17 hl) (tab_ne S.t31 hl) e
theorem Pr.ns {L : Addr} {s s' : Shared} {m : Str → Option Value} (p : Pr s s') (h1 : L ≠ 17) (h2 : L ≠ 31) (hn : s.heap.Ns L m) : s'.heap.Ns L m := hn.at' fun o e => p.heap _ o h1 h2 e

section
variable {w : World} {A : Around} {E : Value → Shared → Prop} {s : Shared} {h₀ : Heap} {mg mb : Str → Option Value} {L lx : Addr} {m : Str → Option Value} {lt : List (Str × Tok)}

theorem ev_global (F : Facts w h₀ mg mb) (S : Sd h₀ s) {x : Str} {v : Value} (hx : (lenv w L).kindOf x = some .globalImplicit) (hv : mg x = some v) (np : Pos) (hd : (x == ("__debug__" : Str)) = false) : Ev prg w (lenv w L) s (.Name x np) (· = v) := by
  obtain ⟨p, loose, mean, T⟩ := F.T
  exact Ev.global rfl hx (T.g.keeps S.old) hv rfl hd
theorem ev_built (F : Facts w h₀ mg mb) (S : Sd h₀ s) {x : Str} {v : Value} (hx : (lenv w L).kindOf x = some .globalImplicit) (hm : mg x = none) (hb : bootBuiltins x = some v) (hne : x ≠ Str.ofString "__name__") (np : Pos) (hd : (x == ("__debug__" : Str)) = false) : Ev prg w (lenv w L) s (.Name x np) (· = v) := by
  obtain ⟨p, loose, mean, T⟩ := F.T
  exact Ev.builtin rfl hx (T.g.keeps S.old) hm (T.b.keeps S.old) ((T.builtins _ hne).trans hb) rfl hd

/-- formatstring(texts, width, spacing) -/
theorem fmt3 {np pos : Pos} {e1 e2 e3 : Expr} {cw sp : Int} (F : Facts w h₀ mg mb) (S : Sd h₀ s) (hh : A.handled = none) (hd : A.depth ≤ 320) (hu : A.units ≤ 60)
    (h1 : Ev prg w (lenv w L) s e1 (· = .ref lx)) (h2 : Ev prg w (lenv w L) s e2 (IntV cw)) (h3 : Ev prg w (lenv w L) s e3 (IntV sp))
    (hl : s.heap.IsList lx (strValues lt).toArray) (hn : lt.length ≤ 10) (hts : ∀ x ∈ lt, x.1.length ≤ 100) (hw0 : -10 ≤ cw) (hw1 : cw ≤ 100) (hs0 : -10 ≤ sp) (hs1 : sp ≤ 100)
    (hs : backTo pos (starEach [e1, e2, e3] (lenv w L)) = [(false, eval e1 (lenv w L)), (false, eval e2 (lenv w L)), (false, eval e3 (lenv w L))] := by rfl) :
    wpAny (model prg w) A (eval (.Call (.Name (Str.ofString "formatstring") np) [e1, e2, e3] [] pos) (lenv w L)) (fun v s₁ => ∃ t, v = .str (lawLine (lt.map (·.1)) cw sp) t ∧ Pr s s₁ ∧ Sd h₀ s₁) E s := by
  refine call_def3 hh (ev_global F S rfl F.fmt _ rfl) h1 h2 h3 (S.old _ _ (F.X 22 _ rfl)) rfl ?_ hs
  rintro _ _ _ s₁ rfl ⟨t1, rfl⟩ ⟨t2, rfl⟩ k
  have S₁ := S.keeps k
  exact fmt_list (t1 := t1) (t2 := t2) F (S.keeps k) hh hd hu (BindsTo.of_defaults (hd := rfl) (ho := S₁.old _ _ (F.X 15 _ rfl)) (hs := rfl) rfl rfl) (hl.at fun o e => Keeps.heap' k _ o e) hn hts hw0 hw1 hs0 hs1 fun s' t' p S' => ⟨t', rfl, (Pr.of_keeps k).trans p, S'⟩
/-- _law_line(texts, width, spacing) -/
theorem line3 {np pos : Pos} {e1 e2 e3 : Expr} {cw sp : Int} (F : Facts w h₀ mg mb) (S : Sd h₀ s) (hh : A.handled = none) (hd : A.depth ≤ 320)
    (h1 : Ev prg w (lenv w L) s e1 (· = .ref lx)) (h2 : Ev prg w (lenv w L) s e2 (IntV cw)) (h3 : Ev prg w (lenv w L) s e3 (IntV sp))
    (hl : s.heap.IsList lx (strValues lt).toArray) (hn : lt.length ≤ 10) (hts : ∀ x ∈ lt, x.1.length ≤ 100) (hw0 : -10 ≤ cw) (hw1 : cw ≤ 100) (hs0 : -10 ≤ sp) (hs1 : sp ≤ 100)
    (hs : backTo pos (starEach [e1, e2, e3] (lenv w L)) = [(false, eval e1 (lenv w L)), (false, eval e2 (lenv w L)), (false, eval e3 (lenv w L))] := by rfl) :
    wpAny (model prg w) A (eval (.Call (.Name (Str.ofString "_law_line") np) [e1, e2, e3] [] pos) (lenv w L)) (fun v s₁ => ∃ t, v = .str (lawLine (lt.map (·.1)) cw sp) t ∧ Pr s s₁ ∧ Sd h₀ s₁) E s := by
  refine call_def3 hh (ev_global F S rfl F.line _ rfl) h1 h2 h3 (S.old _ _ (F.X 29 _ rfl)) rfl ?_ hs
  rintro _ _ _ s₁ rfl ⟨t1, rfl⟩ ⟨t2, rfl⟩ k
  exact line_list F (S.keeps k) hh hd (hl.at fun o e => Keeps.heap' k _ o e) hn hts hw0 hw1 hs0 hs1 fun s' t' p S' => ⟨t', rfl, (Pr.of_keeps k).trans p, S'⟩

/-- formatstring(texts): the defaults -/
theorem fmt1 {np pos : Pos} {e1 : Expr} (F : Facts w h₀ mg mb) (S : Sd h₀ s) (hh : A.handled = none) (hd : A.depth ≤ 320) (hu : A.units ≤ 60)
    (h1 : Ev prg w (lenv w L) s e1 (· = .ref lx)) 
    (hl : s.heap.IsList lx (strValues lt).toArray) (hn : lt.length ≤ 10) (hts : ∀ x ∈ lt, x.1.length ≤ 100)
    (hs : backTo pos (starEach [e1] (lenv w L)) = [(false, eval e1 (lenv w L))] := by rfl) :
    wpAny (model prg w) A (eval (.Call (.Name (Str.ofString "formatstring") np) [e1] [] pos) (lenv w L)) (fun v s₁ => ∃ t, v = .str (lawLine (lt.map (·.1)) 20 6) t ∧ Pr s s₁ ∧ Sd h₀ s₁) E s := by
  refine call_def1 hh (ev_global F S rfl F.fmt _ rfl) h1 (S.old _ _ (F.X 22 _ rfl)) rfl ?_ hs
  rintro _ s₁ rfl k
  have S₁ := S.keeps k
  refine fmt_list F S₁ hh hd hu (BindsTo.of_defaults (hd := rfl) (ho := S₁.old _ _ (F.X 15 _ rfl)) (hs := rfl) rfl rfl) (hl.at fun o e => Keeps.heap' k _ o e) hn hts (by decide) (by decide) (by decide) (by decide) fun s' t' p S' => ⟨t', rfl, (Pr.of_keeps k).trans p, S'⟩
end
end Mine

end
section
namespace Mine
open Sem (wp)
section
variable {w : World} {A : Around} {E : Value → Shared → Prop} {s : Shared} {h₀ : Heap} {mg mb : Str → Option Value} {L lx : Addr} {m : Str → Option Value} {lt : List (Str × Tok)}

/-- a generator over the texts, ready to be walked -/
theorem cols_gen {a C I : Addr} {g : Nat} {ts : List Str} {fp : List Addr} {F : Nat → Value → Prop} (hF : ∀ i v, F i v → ∃ u, v = .str (ts.getD i Str.empty) u)
    (W : Src prg w (Aw 360 200) a (a :: C :: fp) [C, I] (fun k => k = g ∨ False) ts.length F (GAt prg w (Aw 360 200) a g C fp [I] (fun _ => False) ts.length F))
    (hat : GAt prg w (Aw 360 200) a g C fp [I] (fun _ => False) ts.length F 0 s) (hfp : ∀ b ∈ a :: C :: fp, b < s.heap.objs.size ∧ b ≠ 17) (hcs : cStatics ∉ [C, I]) (hg : g < s.gens.size) : Cols prg w (.ref a) ts [C, I] s := by
  intro s₁ A' E' Q' hh hd hu hk hsz hgens hQ
  have st := W.frame 0 s s₁ hat (fun b _ o e => hk b o e) fun k _ => by rw [hgens]
  refine (W.weaken hh (Nat.le_trans hd (by decide)) (Nat.le_trans hu (by decide))).self 0 s₁ _ _ st ?_
  refine hQ a s₁ _ _ _ _ (W.imp fun i v _ h => hF i v h) st (fun b hb => Nat.lt_of_lt_of_le (hfp b hb).1 hsz) (fun hm => (hfp _ hm).2 rfl) hcs (fun k hk' => ?_) (fun b hb => .inl hb) (fun _ _ e => e) (Nat.le_refl _) rfl rfl
  rcases hk' with rfl | q
  · rw [hgens]; exact hg
  · exact q.elim

/-- formatstring((text for text in texts), spacing=3, colwidth=9) -/
theorem fmt_kw {np p1 p2 p3 p4 p5 pg pos : Pos} {k1 k2 : Pos} (F : Facts w h₀ mg mb) (S : Sd h₀ s) (hh : A.handled = none) (hd : A.depth ≤ 320) (hu : A.units ≤ 60)
    (hns : s.heap.Ns L m) (hmt : m (Str.ofString "texts") = some (.ref lx)) (hl : s.heap.IsList lx (strValues lt).toArray) (hn : lt.length ≤ 10) (hts : ∀ x ∈ lt, x.1.length ≤ 100) :
    wpAny (model prg w) A (eval (.Call (.Name (Str.ofString "formatstring") np)
      [.GeneratorExp (.Name (Str.ofString "text") p1) [⟨.Name (Str.ofString "text") p2, .Name (Str.ofString "texts") p3, [], 0⟩] { kind := .function, names := [(Str.ofString ".0", .local), (Str.ofString "text", .local)], isGenerator := true, isCoroutine := false, more := [] } pg]
      [⟨some (Str.ofString "spacing"), .Constant (.int 3) 0 p4, k1⟩, ⟨some (Str.ofString "colwidth"), .Constant (.int 9) 0 p5, k2⟩] pos) (lenv w L))
      (fun v s₁ => ∃ t, v = .str (lawLine (lt.map (·.1)) 9 3) t ∧ Pr s s₁ ∧ Sd h₀ s₁) E s := by
  obtain ⟨p, loose, mean, T⟩ := F.T
  obtain ⟨bm, ob, b1, b2, b3, b4, b5, b6⟩ := T.bmain
  refine wpAny_Call_Name_kw (wpAny_mono (ev_global F S (L := L) rfl F.fmt np rfl A E s hh (Keeps.rfl' _)) (fun f s₁ y => ?_) fun _ _ e => e)
  obtain ⟨rfl, k₁⟩ := y
  have S₁ := S.keeps k₁
  have hch₀ : CodeHd h₀ 35 31 := codeHd_of_K F.X (by rfl)
  obtain ⟨o22, ho22, hd22⟩ : ∃ o, h₀.get? 22 = some o ∧ o.data = .func (fdAt (K w) 22) := ⟨_, F.X 22 _ rfl, rfl⟩
  have hs : ∀ e, backTo pos (starEach [.GeneratorExp e [⟨.Name (Str.ofString "text") p2, .Name (Str.ofString "texts") p3, [], 0⟩] { kind := .function, names := [(Str.ofString ".0", .local), (Str.ofString "text", .local)], isGenerator := true, isCoroutine := false, more := [] } pg] (lenv w L)) =
    [(false, eval (.GeneratorExp e [⟨.Name (Str.ofString "text") p2, .Name (Str.ofString "texts") p3, [], 0⟩] { kind := .function, names := [(Str.ofString ".0", .local), (Str.ofString "text", .local)], isGenerator := true, isCoroutine := false, more := [] } pg) (lenv w L))] := fun _ => rfl
  have hkw : backToKw pos (keywordEach [⟨some (Str.ofString "spacing"), .Constant (.int 3) 0 p4, k1⟩, ⟨some (Str.ofString "colwidth"), .Constant (.int 9) 0 p5, k2⟩] (lenv w L)) = [(some (Str.ofString "spacing"), do let v ← eval (.Constant (.int 3) 0 p4) (lenv w L); standAt pos; pure v), (some (Str.ofString "colwidth"), do let v ← eval (.Constant (.int 9) 0 p5) (lenv w L); standAt pos; pure v)] := rfl
  rw [hs, hkw]
  refine callWith_function_kw (o := o22) (fd := fdAt (K w) 22) (evalArgs_kw rfl (Calls.spliced_cons ?_))
  refine gen_make (c := 35) (Pt := 31) (mg := mg) (bm := bm) (ob := ob) 360 200 (by decide) rfl rfl rfl (by decide) rfl rfl rfl (Nat.lt_of_le_of_lt hd (by decide)) ?_ (fun _ => rfl)
  refine wpAny_Name (wpAny_loadName_local (v := .ref lx) rfl rfl (hns.keeps (Keeps.heap' k₁)) hmt ?_) rfl
  have hl₁ : s₁.heap.IsList lx (strValues lt).toArray := hl.at fun o e => Keeps.heap' k₁ _ o e
  have hts' : ∀ x ∈ lt.map (·.1), x.length ≤ 100 := fun x hx => by obtain ⟨q, hq, rfl⟩ := List.mem_map.mp hx; exact hts q hq
  refine iter_list hl₁ fun I s₂ hI hsz₂ hk₂ hg₂ ho₂ W hst => ?_
  have hk02 : ∀ b o, h₀.get? b = some o → s₂.heap.get? b = some o := fun b o e => hk₂ b o (S₁.old b o e)
  have hnlen : (lt.map (·.1)).length = (strValues lt).toArray.size := by simp [strValues]
  have h31lt : 31 < s₁.heap.objs.size := by obtain ⟨_, e, _⟩ := S₁.t31; exact Heap.lt_size e
  have h17lt : 17 < s₁.heap.objs.size := Nat.lt_trans (by decide) h31lt
  have hcslt : cStatics < s₁.heap.objs.size := Nat.lt_trans (by decide) h31lt
  have hxlt : lx < s₁.heap.objs.size := by obtain ⟨_, e, _⟩ := hl₁; exact Heap.lt_size e
  have h12 : s₁.heap.objs.size < s₂.heap.objs.size := by rw [hsz₂]; exact Nat.lt_succ_self _
  have hIlt : I < s₂.heap.objs.size := by rw [hI]; exact h12
  refine ⟨T.nolimit.keeps hk02, hch₀.keeps hk02, ?_, ⟨T.g.keeps hk02, b1, b2, hk02 _ _ b3, b4, b5, b6⟩, by decide, (show mainGlobals ≠ (31 : Addr) by decide), ?_, I, [I, lx], [I], [], fun _ => False, (lt.map (·.1)).length, (fun i v => ∃ u, v = .str ((lt.map (·.1)).getD i Str.empty) u), _, (fun i v => ∃ u, v = .str ((lt.map (·.1)).getD i Str.empty) u), rfl, hnlen ▸ (W (Aw 361 204) rfl).imp fun i v _ h => strs_at h, hst, ?_, ?_, ?_, (fun _ q => q.elim), (fun _ q => nomatch q), ?_, ?_⟩
  · obtain ⟨ps, e, r⟩ := S₁.t31; exact ⟨ps, hk₂ _ _ e, r⟩
  · intro e
    rw [e, F.n31] at b3; cases b3
  · intro b hb
    rcases List.mem_cons.mp hb with rfl | hb
    · exact hIlt
    · rw [List.mem_singleton.mp hb]; exact Nat.lt_trans hxlt h12
  · intro hm
    rcases List.mem_cons.mp hm with q | q
    · rw [q, hI] at h31lt; exact Nat.lt_irrefl _ h31lt
    · exact tab_ne S₁.t31 hl₁ (List.mem_singleton.mp q).symm
  · intro hm
    rw [List.mem_singleton.mp hm, hI] at hcslt; exact Nat.lt_irrefl _ hcslt
  · intro C code href hCs hrk A' E' i y s₃ m₃ hA hP hns₃ hm₃ hkp
    exact wpAny_Name (wpAny_loadName_local rfl rfl hns₃ hm₃ ⟨hP, Keeps.rfl' _⟩) rfl
  · intro a C s₅ hkeep₅ htab₅ hgs hos₅ hCs hCa ha W₅ hat
    refine Calls.spliced_nil ?_
    obtain ⟨gs, hgb, hgs⟩ := hgs
    have h25 : s₂.heap.objs.size < s₅.heap.objs.size := Nat.lt_of_le_of_lt hCs (Nat.lt_trans hCa ha)
    have hI31 : I ≠ 31 := fun q => by rw [← q, hI] at h31lt; exact Nat.lt_irrefl _ h31lt
    have hI17 : I ≠ 17 := fun q => by rw [← q, hI] at h17lt; exact Nat.lt_irrefl _ h17lt
    have hCgt : s₁.heap.objs.size < C := Nat.lt_of_lt_of_le h12 hCs
    have hC31 : C ≠ 31 := fun q => by rw [q] at hCgt; exact Nat.lt_irrefl _ (Nat.lt_trans h31lt hCgt)
    have hC17 : C ≠ 17 := fun q => by rw [q] at hCgt; exact Nat.lt_irrefl _ (Nat.lt_trans h17lt hCgt)
    have hagt : s₁.heap.objs.size < a := Nat.lt_trans hCgt hCa
    have ha17 : a ≠ 17 := fun q => by rw [q] at hagt; exact Nat.lt_irrefl _ (Nat.lt_trans h17lt hagt)
    have hCI : ∀ b o, s₁.heap.get? b = some o → b ∉ [C, I] := fun b o e hm => by
      have h1 := Heap.lt_size e
      rcases List.mem_cons.mp hm with q | q
      · rw [q] at h1; exact Nat.lt_irrefl _ (Nat.lt_trans h1 hCgt)
      · rw [List.mem_singleton.mp q, hI] at h1; exact Nat.lt_irrefl _ h1
    have S₅ : Sd h₀ s₅ := by
      refine ⟨fun b o e => hkeep₅ b o (fun q => ?_) (hk02 b o e), ?_, htab₅, hgs ▸ (hg₂ ▸ S₁.bare).push hgb⟩
      · rw [q, F.n31] at e; cases e
      · obtain ⟨ps, e, r⟩ := S₁.t17; exact ⟨ps, hkeep₅ _ _ (by decide) (hk₂ _ _ e), r⟩
    show wpAny (model prg w) A (evalAll [do let v ← eval (.Constant (.int 3) 0 p4) (lenv w L); standAt pos; pure v, do let v ← eval (.Constant (.int 9) 0 p5) (lenv w L); standAt pos; pure v]) _ E s₅
    refine wpAny_evalAll_cons (wpAny_bind (wpAny_Constant_int (wpAny_bind (wpAny_standAt (wpAny_pure ?_)))))
    refine wpAny_evalAll_cons (wpAny_bind (wpAny_Constant_int (wpAny_bind (wpAny_standAt (wpAny_pure ?_)))))
    refine wpAny_evalAll_nil ⟨⟨S₅.old _ _ ho22, hd22⟩, wpAny_call ?_⟩
    have k₆ : Keeps s₅ { s₅ with toks := s₅.toks + 1 + 1 } := Keeps.toks' _
    have S₆ := S₅.keeps k₆
    have hcols : Cols prg w (.ref a) (lt.map (·.1)) [C, I] { s₅ with toks := s₅.toks + 1 + 1 } := by
      refine cols_gen (g := s₂.gens.size) (fp := cStatics :: ([] ++ [I, lx])) (fun _ _ h => h) W₅ (W₅.frame 0 s₅ _ hat (fun _ _ _ e => e) fun _ _ => rfl) ?_ ?_ ?_
      · intro b hb
        rcases List.mem_cons.mp hb with rfl | hb
        · exact ⟨ha, ha17⟩
        rcases List.mem_cons.mp hb with rfl | hb
        · exact ⟨Nat.lt_trans hCa ha, hC17⟩
        rcases List.mem_cons.mp hb with rfl | hb
        · exact ⟨Nat.lt_trans hcslt (Nat.lt_trans h12 h25), by decide⟩
        rcases List.mem_cons.mp hb with rfl | hb
        · exact ⟨Nat.lt_trans hIlt h25, hI17⟩
        · rw [List.mem_singleton.mp hb]
          exact ⟨Nat.lt_trans hxlt (Nat.lt_trans h12 h25), tab_ne S₁.t17 hl₁⟩
      · intro hm
        rcases List.mem_cons.mp hm with q | q
        · rw [← q] at hCgt; exact Nat.lt_irrefl _ (Nat.lt_trans hcslt hCgt)
        · rw [List.mem_singleton.mp q, hI] at hcslt; exact Nat.lt_irrefl _ hcslt
      · show s₂.gens.size < s₅.gens.size
        rw [hgs, Array.size_push]
        exact Nat.lt_succ_self _
    refine fmt_any (cw := 9) (sp := 3) (t1 := s₅.toks + 1) (t2 := s₅.toks) F S₆ hh hd hu (BindsTo.of_defaults (hd := rfl) (ho := S₆.old _ _ (F.X 15 _ rfl)) (hs := rfl) rfl rfl) hcols ?_ ?_ ?_ (by simpa using hn) hts' (by decide) (by decide) (by decide) (by decide) fun s' t' hk' S' ho' => ⟨t', rfl, (Pr.of_keeps k₁).trans ⟨fun b o h1 h2 e => hk' b o h1 (hCI b o e) (hkeep₅ b o h2 (hk₂ b o e)), ?_⟩, S'⟩
    · intro b hb
      rcases List.mem_cons.mp hb with rfl | hb
      · exact Nat.lt_trans hCa ha
      · rw [List.mem_singleton.mp hb]; exact Nat.lt_trans hIlt h25
    · intro hm
      rcases List.mem_cons.mp hm with q | q
      · exact hC31 q.symm
      · exact hI31 (List.mem_singleton.mp q).symm
    · intro b hb
      cases q : h₀.get? b with
      | none => rfl
      | some o => exact absurd hb (hCI b o (S₁.old b o q))
    · exact ho'.trans (hos₅.trans ho₂)
end
end Mine

end
section
namespace Mine
open Sem (wp)
section
variable {w : World} {A : Around} {s : Shared} {h₀ : Heap} {mg mb : Str → Option Value} {L lx : Addr} {m : Str → Option Value} {lt : List (Str × Tok)}

theorem ev_range (F : Facts w h₀ mg mb) (S : Sd h₀ s) (np : Pos) : Ev prg w (lenv w L) s (.Name (Str.ofString "range") np) (· = .type "range") :=
  ev_built F S rfl F.range rfl (by decide) np rfl

set_option maxHeartbeats 2000000 in
theorem texts_turn (F : Facts w h₀ mg mb) (S : Sd h₀ s) (hh : A.handled = none) (hd : A.depth ≤ 320) (hu : A.units ≤ 60) (hL0 : h₀.get? L = none) (hL1 : L ≠ 17) (hL2 : L ≠ 31)
    (hns : s.heap.Ns L m) (hmt : m (Str.ofString "texts") = some (.ref lx)) (hl : s.heap.IsList lx (strValues lt).toArray) (hn : lt.length ≤ 10) (hts : ∀ x ∈ lt, x.1.length ≤ 100) :
    wpAny (model prg w) A (execs (textsBody w) (lenv w L)) (fun f s₃ => f = .next ∧ ∃ m', s₃.heap.Ns L m' ∧ PrL L s s₃ ∧ Sd h₀ s₃) (fun _ _ => False) s := by
  refine wpAny_execs_cons (for_range (L := L) (a := -1) (b := 26) (n := 27) hh rfl S hL0 hL1 hL2 (fun m => m (Str.ofString "texts") = some (.ref lx)) (ev_range F S _) (Ev.neg Ev.int) Ev.int (by decide) (by decide) rfl rfl hns hmt ?_ ?_)
  · intro i t m₁ s₁ hi hns₁ hm₁ S₁ p₁
    have hl₁ := p₁.list S hns hl
    have hw : ∀ q : Int, q = -1 + (i : Int) * 1 → -10 ≤ q ∧ q ≤ 100 := fun q e => by omega
    refine wpAny_execs_cons (for_range (L := L) (a := -1) (b := 5) (n := 6) hh rfl S₁ hL0 hL1 hL2 (fun m => m (Str.ofString "texts") = some (.ref lx) ∧ m (Str.ofString "width") = some (.int (-1 + (i : Int) * 1) t)) (ev_range F S₁ _) (Ev.neg Ev.int) Ev.int (by decide) (by decide) rfl rfl hns₁ ⟨hm₁, rfl⟩ ?_ ?_)
    · intro j t' m₂ s₂ hj hns₂ hm₂ S₂ p₂
      have hl₂ := p₂.list S₁ hns₁ hl₁
      have hsj : ∀ q : Int, q = -1 + (j : Int) * 1 → -10 ≤ q ∧ q ≤ 100 := fun q e => by omega
      refine wpAny_execs_cons (if_differs (fmt3 F S₂ hh hd hu (Ev.local' rfl rfl hns₂ hm₂.1 rfl) (Ev.local' rfl rfl hns₂ hm₂.2 ⟨_, rfl⟩) (Ev.local' rfl rfl hns₂ rfl ⟨_, rfl⟩) hl₂ hn hts (hw _ rfl).1 (hw _ rfl).2 (hsj _ rfl).1 (hsj _ rfl).2)
        (fun s₃ p₃ S₃ => line3 F S₃ hh hd (Ev.local' rfl rfl (p₃.ns hL1 hL2 hns₂) hm₂.1 rfl) (Ev.local' rfl rfl (p₃.ns hL1 hL2 hns₂) hm₂.2 ⟨_, rfl⟩) (Ev.local' rfl rfl (p₃.ns hL1 hL2 hns₂) rfl ⟨_, rfl⟩) ((p₃.toL).list S₂ hns₂ hl₂) hn hts (hw _ rfl).1 (hw _ rfl).2 (hsj _ rfl).1 (hsj _ rfl).2)
        fun s₄ p₄ S₄ => wpAny_execs_nil ⟨rfl, _, p₄.ns hL1 hL2 hns₂, hm₂, p₄.toL, S₄⟩)
    · intro m₂ s₂ hns₂ hm₂ p₂ S₂
      exact wpAny_execs_nil ⟨rfl, _, hns₂, hm₂.1, p₂, S₂⟩
  intro m₁ s₁ hns₁ hm₁ p₁ S₁
  have hl₁ := p₁.list S hns hl
  refine wpAny_execs_cons (if_differs (fmt1 F S₁ hh hd hu (Ev.local' rfl rfl hns₁ hm₁ rfl) hl₁ hn hts)
    (fun s₃ p₃ S₃ => line3 F S₃ hh hd (Ev.local' rfl rfl (p₃.ns hL1 hL2 hns₁) hm₁ rfl) Ev.int Ev.int ((p₃.toL).list S₁ hns₁ hl₁) hn hts (by decide) (by decide) (by decide) (by decide)) fun s₂ p₂ S₂ => ?_)
  have hns₂ := p₂.ns hL1 hL2 hns₁
  have hl₂ := (p₂.toL (L := L)).list S₁ hns₁ hl₁
  refine wpAny_execs_cons (wpAny_Assign_Name (wpAny_mono (fmt_kw F S₂ hh hd hu hns₂ hm₁ hl₂ hn hts) (fun v s₃ h => ?_) fun _ _ e => e))
  obtain ⟨t, rfl, p₃, S₃⟩ := h
  refine wpAny_storeName_local (m := m₁) rfl (p₃.ns hL1 hL2 hns₂) (fun h₄ hns₄ hsb₄ => ?_) rfl
  have S₄ : Sd h₀ { s₃ with heap := h₄, toks := s₃.toks + 1 } := S₃.same hL0 hL1 hL2 hsb₄
  have p₄ : PrL L s₂ { s₃ with heap := h₄, toks := s₃.toks + 1 } := (p₃.toL).same hsb₄
  have hl₄ := p₄.list S₂ hns₂ hl₂
  refine wpAny_execs_cons (if_differs (text := lawLine (lt.map (·.1)) 9 3) (wpAny_Name (wpAny_loadName_local rfl rfl hns₄ rfl ⟨t, rfl, Pr.refl _, S₄⟩) rfl)
    (fun s₅ p₅ S₅ => line3 (lx := lx) F S₅ hh hd (Ev.local' (x := Str.ofString "texts") (v := .ref lx) rfl rfl (p₅.ns hL1 hL2 hns₄) hm₁ rfl) Ev.int Ev.int ((p₅.toL).list S₄ hns₄ hl₄) hn hts (by decide) (by decide) (by decide) (by decide)) fun s₅ p₅ S₅ => ?_)
  exact wpAny_execs_nil ⟨rfl, _, p₅.ns hL1 hL2 hns₄, (p₁.trans p₂.toL).trans (p₄.trans p₅.toL), S₅⟩
end
end Mine

end
section
namespace Mine
open Sem (wp)

section
variable {prog : Program} {w : World} {env : Env} {s₀ : Shared}
theorem Ev.pow {l r : Expr} {pos : Pos} {a n : Int} (hl : Ev prog w env s₀ l (IntV a)) (hr : Ev prog w env s₀ r (IntV n)) (h0 : 0 ≤ n) (h1 : n ≤ 1000000) (ha : a.natAbs < 2 ^ 64) : Ev prog w env s₀ (.BinOp l .Pow r pos) (IntV (a ^ n.toNat)) :=
  hl.bin hr fun A E s x y hh k ⟨_, e1⟩ ⟨_, e2⟩ => by subst e1 e2; exact PyProof.Rows.pow_int_small h0 h1 ha ⟨⟨_, rfl⟩, Keeps.trans' k (Keeps.toks' _)⟩
theorem Ev.ifge {l r b o : Expr} {p pos : Pos} {a c : Int} {V : Value → Prop} (hl : Ev prog w env s₀ l (IntV a)) (hr : Ev prog w env s₀ r (IntV c)) (hb : c ≤ a → Ev prog w env s₀ b V) (ho : ¬ c ≤ a → Ev prog w env s₀ o V)
    (hm : behindInMarks .GtE r = false := by with_unfolding_all rfl) : Ev prog w env s₀ (.IfExp (.Compare l [.GtE] [r] p) b o pos) V := fun A E s hh k => by
  refine wpAny_IfExp (wpAny_isTrue_Compare1 (wpAny_mono (hl A E s hh k) (fun v s₁ y => wpAny_mono (hr A E s₁ hh y.2) (fun v' s₂ z => ?_) fun _ _ e => e) fun _ _ e => e) hm)
  obtain ⟨⟨t, rfl⟩, _⟩ := y
  obtain ⟨⟨t', rfl⟩, k₂⟩ := z
  refine PyProof.Rows.ge_int (wpAny_truthy_bool ?_)
  by_cases h : c ≤ a
  · rw [if_pos (by simpa using h)]; exact hb h A E s₂ hh k₂
  · rw [if_neg (by simpa using h)]; exact ho h A E s₂ hh k₂
theorem Ev.strOf {x : Str} {np pos : Pos} {e : Expr} {a : Int} (hf : Ev prog w env s₀ (.Name x np) (· = .type "str")) (h1 : Ev prog w env s₀ e (IntV a)) (ha : a.natAbs.log2 < 1920)
    (hs : backTo pos (starEach [e] env) = [(false, eval e env)] := by rfl) : Ev prog w env s₀ (.Call (.Name x np) [e] [] pos) (StrV (Str.ofString (toString a))) := fun A E s hh k => by
  refine wpAny_Call_NameR (wpAny_mono (hf A E s hh k) (fun f s₁ x => ?_) fun _ _ e => e)
  obtain ⟨rfl, k₁⟩ := x
  rw [hs]
  refine PySem.callWith_type rfl (Calls.evalArgs_plain (Calls.spliced_cons (wpAny_mono (h1 A E s₁ hh k₁) (fun a s₂ y => Calls.spliced_nil ?_) fun _ _ e => e)))
  obtain ⟨⟨t, rfl⟩, k₂⟩ := y
  exact P.str_of_int ha ⟨⟨_, rfl⟩, Keeps.trans' k₂ (Keeps.toks' _)⟩

/-- if a == b .. else .. -/
theorem if_eq {A : Around} {E : Value → Shared → Prop} {l r : Expr} {p pos : Pos} {body orelse : List Stmt} {a c : Int} {Q : Flow → Shared → Prop} (hh : A.handled = none) (hl : Ev prog w env s₀ l (IntV a)) (hr : Ev prog w env s₀ r (IntV c))
    (h1 : a = c → ∀ s, Keeps s₀ s → wpAny (model prog w) A (execs body env) Q E s) (h2 : a ≠ c → ∀ s, Keeps s₀ s → wpAny (model prog w) A (execs orelse env) Q E s)
    (hm : behindInMarks .Eq r = false := by with_unfolding_all rfl) : wpAny (model prog w) A (exec (.If (.Compare l [.Eq] [r] p) body orelse pos) env) Q E s₀ := by
  refine wpAny_If (wpAny_isTrue_Compare1 (wpAny_mono (hl A E s₀ hh (Keeps.rfl' _)) (fun v s₁ y => wpAny_mono (hr A E s₁ hh y.2) (fun v' s₂ z => ?_) fun _ _ e => e) fun _ _ e => e) hm)
  obtain ⟨⟨t, rfl⟩, _⟩ := y
  obtain ⟨⟨t', rfl⟩, k₂⟩ := z
  refine PyProof.Rows.eq_int (wpAny_truthy_bool ?_)
  by_cases h : a = c
  · rw [if_pos (by simpa using h)]; exact h1 h s₂ k₂
  · rw [if_neg (by simpa using h)]; exact h2 h s₂ k₂

/-- made.append(elt) -/
theorem append_stmt {A : Around} {E : Value → Shared → Prop} {x : Str} {xp ap cp ep : Pos} {elt : Expr} {lm : Addr} {its : Array Value} {V : Value → Prop} {Q : Flow → Shared → Prop} (hh : A.handled = none)
    (ho : Ev prog w env s₀ (.Name x xp) (· = .ref lm)) (he : Ev prog w env s₀ elt V) (hp : PlainL s₀.heap lm its) (hsz : its.size ≤ sizeLine)
    (hQ : ∀ v h' tk, V v → PlainL h' lm (its.push v) → (∀ b o, b ≠ lm → s₀.heap.get? b = some o → h'.get? b = some o) → Q .next { s₀ with heap := h', toks := tk })
    (hbase : attributeBase (.Name x xp) "append" env (eval (.Name x xp) env) = eval (.Name x xp) env := by rfl)
    (hfew : ((backTo cp (starEach [elt] env)).all (fun x => !x.1) && (backToKw cp (keywordEach [] env)).all (fun x => x.1.isSome)
      && decide (([elt] : List Expr).length + ([] : List Keyword).length + (if ([] : List Keyword).isEmpty then 0 else 1) < 30)) = true := by rfl)
    (hline : (ap.endLine == cp.line) = true := by rfl) (htrees : backTo cp (starEach [elt] env) = [(false, eval elt env)] := by rfl)
    (hi : interactive env = false := by rfl) (hs : swapsWith (.Call (.Attribute (.Name x xp) "append" ap) [elt] [] cp) none ep.line env = pure false := by rfl) :
    wpAny (model prog w) A (execs [.Expr (.Call (.Attribute (.Name x xp) "append" ap) [elt] [] cp) ep] env) Q E s₀ := by
  refine wpAny_execs_cons (wpAny_Expr (wpAny_Call_append hbase hfew hline htrees (wpAny_mono (ho A E s₀ hh (Keeps.rfl' _)) (fun v s₁ y => ?_) fun _ _ e => e)) hi hs)
  obtain ⟨rfl, k₁⟩ := y
  refine ⟨lm, its, rfl, hp.keeps (Keeps.heap' k₁), wpAny_mono (he A E s₁ hh k₁) (fun y s₂ z => ?_) fun _ _ e => e⟩
  obtain ⟨hV, h₂, tk₂, rfl, hk₂⟩ := z
  refine list_append_plainL (hp.keeps hk₂) (fun h' hp' hsb => wpAny_execs_nil ?_) hsz
  exact hQ y h' tk₂ hV hp' fun b o hb e => hsb.extBut b o hb (hk₂ b o e)
end

/-- the number whose figures the law takes -/
def cut (x : Int) : Int := if 0 ≤ x then x.fmod (10 ^ 24) else -((-x).fmod (10 ^ 24))
theorem cut_lt (x : Int) : (cut x).natAbs < 10 ^ 24 := by
  unfold cut
  have h : ∀ y : Int, 0 ≤ y.fmod (10 ^ 24) ∧ y.fmod (10 ^ 24) < 10 ^ 24 := fun y => ⟨Int.fmod_nonneg_of_pos _ (by decide), Int.fmod_lt_of_pos _ (by decide)⟩
  split
  · have := h x; omega
  · have := h (-x); omega
theorem cut_log (x : Int) : (cut x).natAbs.log2 < 1920 := by
  have h := cut_lt x
  by_cases h0 : (cut x).natAbs = 0
  · rw [h0]; decide
  · have : (cut x).natAbs.log2 < 80 := (Nat.log2_lt h0).mpr (Nat.lt_of_lt_of_le h (by decide))
    omega
theorem cut_len (x : Int) : (Str.ofString (toString (cut x))).length ≤ 100 := by
  have e := int_text_length_le10 (k := 24) (by decide) (cut_lt x)
  rw [PySem.ofString_length]; omega

theorem ints_mem {vs : List Value} {ns : List Int} (h : IntsAre vs ns) : ∀ v ∈ vs, ∃ x t, v = .int x t := by
  induction h with
  | nil => intro v hv; cases hv
  | cons n t _ ih =>
    intro v hv
    rcases List.mem_cons.mp hv with rfl | hv
    · exact ⟨n, t, rfl⟩
    · exact ih v hv
end Mine

end
section
namespace Mine
open Sem (wp)

theorem add_two {prog : Program} {w : World} {A : Around} {E : Value → Shared → Prop} {s : Shared} {L l b : Addr} {m : Str → Option Value} {vs ws : List Value} {Q : Value → Shared → Prop} (hns : s.heap.Ns L m) (hl : s.heap.IsList l vs.toArray) (hb : s.heap.IsList b ws.toArray)
    (h : ∀ s' a, a = s.heap.objs.size → s'.heap.Ns L m → (∀ c o, c ≠ L → s.heap.get? c = some o → s'.heap.get? c = some o) → s'.heap.IsList a (vs ++ ws).toArray → s'.gens = s.gens → s'.os = s.os → Q (.ref a) s') (hsz : vs.length + ws.length ≤ sizeLine) :
    wpAny (model prog w) A (binaryOp .Add (.ref l) (.ref b)) Q E s := by
  have h0 : ∀ c, ({ s.heap with objs := #[] } : Heap).get? c = none := fun c => Heap.get?_none_of_le (Nat.zero_le _)
  have Fr₀ : Fr { s.heap with objs := #[] } L s.heap m := ⟨hns, (fun c o e => by rw [h0] at e; cases e), Nat.zero_le _⟩
  have hmem : ∀ c o, c ≠ L → s.heap.get? c = some o → (c, o) ∈ (List.range s.heap.objs.size).filterMap fun c => if c = L then none else (s.heap.get? c).map fun o => (c, o) := fun c o hc e =>
    List.mem_filterMap.mpr ⟨c, List.mem_range.mpr (Heap.lt_size e), by rw [if_neg hc, e]; rfl⟩
  have N₀ : News { s.heap with objs := #[] } L s.heap ((List.range s.heap.objs.size).filterMap fun c => if c = L then none else (s.heap.get? c).map fun o => (c, o)) := fun q hq => by
    obtain ⟨c, _, e⟩ := List.mem_filterMap.mp hq
    by_cases hc : c = L
    · rw [if_pos hc] at e; cases e
    · rw [if_neg hc] at e
      obtain ⟨o, e1, rfl⟩ := Option.map_eq_some_iff.mp e
      exact ⟨e1, hc, h0 c⟩
  refine add_lists (hsz := hsz) Fr₀ N₀ hl hb fun h' F' N' => h _ _ rfl F'.ns (fun c o hc e => (N' _ (List.mem_cons_of_mem _ (hmem c o hc e))).1) ?_ rfl rfl
  exact ⟨_, (N' _ (List.mem_cons_self ..)).1, rfl, 0, rfl⟩

theorem list_new {M : Model} {A : Around} {E : Value → Shared → Prop} {s : Shared} {env : Env} {elts : List Expr} {pos : Pos} {Q : Value → Shared → Prop}
    (h : wpAny M A (spliced (backTo pos (starEach elts env))) (fun vs s₁ => vs.length ≤ sizeLine ∧ ∀ a s', a = s₁.heap.objs.size → PlainL s'.heap a vs.toArray → Keeps s₁ s' → Q (.ref a) s') E s) : wpAny M A (eval (.List elts pos) env) Q E s :=
  wpAny_List (wpAny_mono h (fun vs s₁ h₁ => ⟨h₁.1, h₁.2 _ _ rfl ⟨_, 0, Heap.get?_push_size _ rfl, rfl, rfl, rfl⟩ ⟨_, _, rfl, fun _ _ e => Heap.get?_push_of_some _ e⟩⟩) fun _ _ e => e)

theorem Pr.fresh {sB s : Shared} {h₀ : Heap} {I : Addr} (p : Pr sB s) (S : Sd h₀ s) (h : s.heap.objs.size ≤ I) : sB.heap.get? I = none := by
  have h17 : I ≠ 17 := fun q => by obtain ⟨_, e, _⟩ := S.t17; rw [q] at h; exact absurd (Heap.lt_size e) (Nat.not_lt.mpr h)
  have h31 : I ≠ 31 := fun q => by obtain ⟨_, e, _⟩ := S.t31; rw [q] at h; exact absurd (Heap.lt_size e) (Nat.not_lt.mpr h)
  cases q : sB.heap.get? I with
  | none => rfl
  | some o => exact absurd (Heap.lt_size (p.heap I o h17 h31 q)) (Nat.not_lt.mpr h)
theorem Pr.mv {I : Addr} {s s' s'' : Shared} (hI : s.heap.get? I = none) (p : Pr s s') (m : Mv [I] (fun _ => False) s' s'') : Pr s s'' :=
  ⟨fun b o h1 h2 e => m.heap b o (fun q => fresh_ne hI e (List.mem_singleton.mp q)) (p.heap b o h1 h2 e), m.os.trans p.os⟩
theorem Pr.transL {L : Addr} {a b c : Shared} (x : Pr a b) (hL : a.heap.get? L = none) (y : PrL L b c) : Pr a c :=
  ⟨fun b o h1 h2 e => y.heap b o (fresh_ne hL e) h1 h2 (x.heap b o h1 h2 e), y.os.trans x.os⟩
theorem list_lt {h : Heap} {l : Addr} {items : Array Value} (hl : h.IsList l items) : l < h.objs.size := by obtain ⟨_, e, _⟩ := hl; exact Heap.lt_size e

section
variable {w : World} {A : Around} {E : Value → Shared → Prop} {sB s : Shared} {h₀ : Heap} {mg mb : Str → Option Value} {L lm : Addr} {m : Str → Option Value} {lt : List (Str × Tok)} {Q : Flow → Shared → Prop}

set_option maxHeartbeats 4000000 in
theorem law_second (F : Facts w h₀ mg mb) (SB : Sd h₀ sB) (S : Sd h₀ s) (p : Pr sB s) (hh : A.handled = none) (hd : A.depth ≤ 320) (hu : A.units ≤ 60) (hLf : sB.heap.get? L = none)
    (hns : s.heap.Ns L m) (hmm : m (Str.ofString "made") = some (.ref lm)) (hl : s.heap.IsList lm (strValues lt).toArray) (hn : lt.length ≤ 3) (hts : ∀ x ∈ lt, x.1.length ≤ 100)
    (hQ : ∀ s', Pr sB s' → Sd h₀ s' → Q (.ret (.bool true)) s') : wpAny (model prg w) A (execs ((lawBody w).drop 2) (lenv w L)) Q E s := by
  have hL1 := SB.ne17 hLf
  have hL2 := SB.ne31 hLf
  have hL0 : h₀.get? L = none := by
    cases q : h₀.get? L with
    | none => rfl
    | some o => rw [SB.old _ _ q] at hLf; cases hLf
  have hlmL : lm ≠ L := ns_ne_list hns hl
  refine wpAny_execs_cons (wpAny_For (list_new (Calls.spliced_cons (wpAny_Name (wpAny_loadName_local (v := .ref lm) rfl rfl hns hmm ?_) rfl))))
  refine Calls.spliced_cons (wpAny_BinOp (list_new (Calls.spliced_cons (Calls.Constant_str (k := 0) (pos := ⟨25, 25, 25, 30⟩) (Calls.spliced_cons (Calls.Constant_str (k := 0) (pos := ⟨25, 32, 25, 36⟩) (Calls.spliced_nil ⟨(show 2 ≤ sizeLine by decide), ?_⟩)))))))
  intro l1 s₁ hl1 hp1 k1
  replace k1 : Keeps s s₁ := Keeps.trans' (Keeps.trans' (Keeps.toks' (s.toks + 1)) (Keeps.toks' (s.toks + 1 + 1))) k1
  replace hp1 : s₁.heap.IsList l1 (strValues [(Str.ofString " Ab", s.toks), (Str.ofString "c ", s.toks + 1)]).toArray := hp1.isList
  clear hl1
  have hns₁ := hns.keeps (Keeps.heap' k1)
  have hl₁ : s₁.heap.IsList lm (strValues lt).toArray := hl.at fun o e => Keeps.heap' k1 _ o e
  refine wpAny_Name (wpAny_loadName_local (v := .ref lm) rfl rfl hns₁ hmm ?_) rfl
  refine add_two (L := L) (m := m) (ws := strValues lt) hns₁ hp1 hl₁ ?_ (by simp [strValues]; have e : sizeLine = 16777216 := rfl; omega)
  intro s₂ l2 hl2 hns₂ hk₂ hp2 hg₂ ho₂
  have S₁ := S.keeps k1
  have S₂ : Sd h₀ s₂ := by
    refine ⟨fun b o e => hk₂ b o (fun q => ?_) (S₁.old b o e), ?_, ?_, hg₂ ▸ S₁.bare⟩
    · rw [q, hL0] at e; cases e
    · obtain ⟨ps, e, r⟩ := S₁.t17; exact ⟨ps, hk₂ _ _ hL1.symm e, r⟩
    · obtain ⟨ps, e, r⟩ := S₁.t31; exact ⟨ps, hk₂ _ _ hL2.symm e, r⟩
  have p₂ : Pr sB s₂ := ⟨fun b o h1 h2 e => hk₂ b o (fresh_ne hLf e) (Keeps.heap' k1 _ _ (p.heap b o h1 h2 e)), ho₂.trans ((Keeps.os' k1).trans p.os)⟩
  have hl₂ : s₂.heap.IsList lm (strValues lt).toArray := hl₁.at fun o e => hk₂ _ o hlmL e
  generalize hlt2 : strValues [(Str.ofString " Ab", s.toks), (Str.ofString "c ", s.toks + 1)] ++ strValues lt = its2 at hp2
  have hits2 : its2 = strValues ([(Str.ofString " Ab", s.toks), (Str.ofString "c ", s.toks + 1)] ++ lt) := by rw [← hlt2]; simp [strValues]
  subst hits2
  generalize hlt3 : [(Str.ofString " Ab", s.toks), (Str.ofString "c ", s.toks + 1)] ++ lt = lt2 at hp2
  have hn2 : lt2.length ≤ 10 := by rw [← hlt3]; simp; omega
  have hts2 : ∀ x ∈ lt2, x.1.length ≤ 100 := by
    rw [← hlt3]
    intro x hx
    rcases List.mem_append.mp hx with hx | hx
    · rcases List.mem_cons.mp hx with rfl | hx
      · exact (show (Str.ofString " Ab").length ≤ 100 by decide)
      · rw [List.mem_singleton.mp hx]; exact (show (Str.ofString "c ").length ≤ 100 by decide)
    · exact hts x hx
  clear hlt2 hlt3 hk₂ hl2 hg₂ ho₂ S₁ hp1 hl₁ hns₁ k1
  refine Calls.spliced_nil ⟨(show 2 ≤ sizeLine by decide), ?_⟩
  intro l3 s₃ hl3 hp3 k3
  have S₃ := S₂.keeps k3
  have p₃ := p₂.trans (Pr.of_keeps k3)
  have hns₃ := hns₂.keeps (Keeps.heap' k3)
  have hl₃ : s₃.heap.IsList lm (strValues lt).toArray := hl₂.at fun o e => Keeps.heap' k3 _ o e
  have hp2₃ : s₃.heap.IsList l2 (strValues lt2).toArray := hp2.at fun o e => Keeps.heap' k3 _ o e
  have hp3' := hp3.isList
  refine iter_list hp3' fun I s₄ hI hsz₄ hk₄ hg₄ ho₄ W hst => ?_
  have hIf : sB.heap.get? I = none := p₃.fresh S₃ (Nat.le_of_eq hI.symm)
  have hI1 := SB.ne17 hIf
  have hI2 := SB.ne31 hIf
  have hIL : I ≠ L := by rw [hI]; exact Nat.ne_of_gt hns₃.lt
  have hIlm : lm ≠ I := by rw [hI]; exact Nat.ne_of_lt (list_lt hl₃)
  have hIl2 : l2 ≠ I := by rw [hI]; exact Nat.ne_of_lt (list_lt hp2₃)
  have hl3L : l3 ≠ L := ns_ne_list hns₃ hp3'
  have hl31 : l3 ≠ 17 := tab_ne S₃.t17 hp3'
  have hl32 : l3 ≠ 31 := tab_ne S₃.t31 hp3'
  have k4 : Pr s₃ s₄ := ⟨fun b o _ _ e => hk₄ b o e, ho₄⟩
  have S₄ : Sd h₀ s₄ := ⟨fun b o e => hk₄ b o (S₃.old b o e), let ⟨ps, e, r⟩ := S₃.t17; ⟨ps, hk₄ _ _ e, r⟩, let ⟨ps, e, r⟩ := S₃.t31; ⟨ps, hk₄ _ _ e, r⟩, hg₄ ▸ S₃.bare⟩
  refine for_loop (m₀ := m) (W _ hh) (fun _ _ s' => Pr sB s' ∧ Sd h₀ s' ∧ s'.heap.IsList lm (strValues lt).toArray ∧ s'.heap.IsList l2 (strValues lt2).toArray) rfl rfl ?_ hst (hns₃.keeps hk₄) ⟨p₃.trans k4, S₄, hl₃.at fun o e => hk₄ _ o e, hp2₃.at fun o e => hk₄ _ o e⟩ ?_ ?_ ?_
  · intro q
    rcases List.mem_cons.mp q with q | q
    · exact hIL q.symm
    · exact hl3L (List.mem_singleton.mp q).symm
  · rintro i m₅ s₅ s₆ ⟨j1, j2, j3, j4⟩ hm
    exact ⟨j1.mv hIf hm, SB.mv hIf j2 hm, j3.at fun o e => hm.heap _ o (fun q => hIlm (List.mem_singleton.mp q)) e, j4.at fun o e => hm.heap _ o (fun q => hIl2 (List.mem_singleton.mp q)) e⟩
  · rintro i v m₅ s₅ h₆ hi ⟨j1, j2, j3, j4⟩ hv hst₆ hns₆ hsb
    have S₆ : Sd h₀ { s₅ with heap := h₆, toks := s₅.toks + 1 } := j2.same hL0 hL1 hL2 hsb
    have p₆ : Pr sB { s₅ with heap := h₆, toks := s₅.toks + 1 } := j1.transL hLf ((PrL.refl L s₅).same hsb)
    have hlm₆ : h₆.IsList lm (strValues lt).toArray := j3.at fun o e => hsb.extBut _ o hlmL e
    have hl2₆ : h₆.IsList l2 (strValues lt2).toArray := j4.at fun o e => hsb.extBut _ o (ns_ne_list hns₃ hp2₃) e
    have key : ∃ (lx : Addr) (ltx : List (Str × Tok)), v = .ref lx ∧ h₆.IsList lx (strValues ltx).toArray ∧ ltx.length ≤ 10 ∧ ∀ x ∈ ltx, x.1.length ≤ 100 := by
      have hi2 : i = 0 ∨ i = 1 := by
        have : i < 2 := hi
        omega
      rcases hi2 with rfl | rfl
      · exact ⟨lm, lt, (Option.some.inj hv).symm, hlm₆, by omega, hts⟩
      · exact ⟨l2, lt2, (Option.some.inj hv).symm, hl2₆, hn2, hts2⟩
    obtain ⟨lx, ltx, rfl, hlx, hnx, htx⟩ := key
    refine wpAny_mono (texts_turn F S₆ hh hd hu hL0 hL1 hL2 hns₆ rfl hlx hnx htx) (fun f s₇ h => ?_) fun _ _ e => e
    obtain ⟨rfl, m', n', p₇, S₇⟩ := h
    refine ⟨m', n', ⟨p₆.transL hLf p₇, S₇, p₇.list S₆ hns₆ hlm₆, p₇.list S₆ hns₆ hl2₆⟩, ?_⟩
    obtain ⟨⟨o1, q1, r1⟩, o2, q2, r2⟩ := hst₆
    exact ⟨⟨o1, p₇.heap _ _ hIL hI1 hI2 q1, r1⟩, o2, p₇.heap _ _ hl3L hl31 hl32 q2, r2⟩
  · rintro m₅ s₅ hns₅ ⟨j1, j2, _⟩
    exact wpAny_execs_cons (wpAny_Return_some (wpAny_Constant_bool (hQ s₅ j1 j2)))
end
end Mine

end
section
namespace Mine
open Sem (wp)

/-- x[:3] of a list of ints -/
theorem slice3 {prog : Program} {w : World} {A : Around} {E : Value → Shared → Prop} {s : Shared} {env : Env} {e e3 : Expr} {p pos : Pos} {l : Addr} {vs : List Value} {ns : List Int} {Q : Value → Shared → Prop} (hh : A.handled = none) (he : Ev prog w env s e (· = .ref l)) (h3 : Ev prog w env s e3 (IntV 3))
    (hl : s.heap.IsList l vs.toArray) (hI : IntsAre vs ns) (hlen : ns.length ≤ 63) (h : ∀ (ls : Addr) (items : Array Value) (s' : Shared), s.heap.get? ls = none → s'.heap.IsList ls items → (∀ v ∈ items, ∃ x t, v = .int x t) → items.size ≤ 3 → Keeps s s' → Q (.ref ls) s')
    (ht : ∀ o r, letTemporaryGo e o r = pure () := by intro _ _; rfl) : wpAny (model prog w) A (eval (.Subscript e (.Slice none (some e3) none p) pos) env) Q E s := by
  have hvl : vs.length ≤ 63 := by rw [hI.length]; exact hlen
  refine wpAny_Subscript_list_slice (wpAny_mono (he A E s hh (Keeps.rfl' _)) (fun v s₁ y => ?_) fun _ _ e => e) ht
  obtain ⟨rfl, k₁⟩ := y
  refine evalPart_none_step (evalPart_some_step (wpAny_mono (h3 A E s₁ hh k₁) (fun v s₂ y => ?_) fun _ _ e => e))
  obtain ⟨⟨t, rfl⟩, k₂⟩ := y
  refine ⟨l, vs.toArray, none, some 3, rfl, hl.at fun o e => Keeps.heap' k₂ _ o e, (by rw [List.size_toArray]; have e : sizeLine = 16777216 := rfl; omega), .none, .int 3 _, ?_⟩
  have hs := slice_ints_uptoW hI (y := 3) (by decide)
  have hsl := hs.length
  refine h _ (slicePick vs.toArray none (some 3) none) _ ?_ ⟨_, (by have := Heap.get?_push_size (s₂.heap.push { cls := .type "slice", data := .fields #[.none, .int 3 t, .none] }) (o := { cls := .type "list", data := .seq (slicePick vs.toArray none (some 3) none) }) rfl; rw [Heap.size_push] at this; exact this), rfl, 0, rfl⟩ (fun v hv => ints_mem hs v (by simpa using hv)) (by rw [Array.length_toList] at hsl; rw [hsl, List.length_take]; exact Nat.min_le_left _ _) (Keeps.trans' k₂ ⟨_, _, rfl, fun _ _ e => Heap.get?_push_of_some _ (Heap.get?_push_of_some _ e)⟩)
  exact Keeps.fresh k₂ (Nat.le_succ _)

section
variable {w : World} {A : Around} {E : Value → Shared → Prop} {sB s : Shared} {h₀ : Heap} {mg mb : Str → Option Value} {L lm l : Addr} {m : Str → Option Value} {Q : Flow → Shared → Prop}

/-- what holds between two turns of the first loop -/
def MadeJ (sB : Shared) (h₀ : Heap) (lm : Addr) (i : Nat) (m : Str → Option Value) (s' : Shared) : Prop :=
  m (Str.ofString "made") = some (.ref lm) ∧ (∃ lt : List (Str × Tok), PlainL s'.heap lm (strValues lt).toArray ∧ lt.length = i ∧ ∀ x ∈ lt, x.1.length ≤ 100) ∧ Pr sB s' ∧ Sd h₀ s'

theorem push_strs {lt : List (Str × Tok)} {x : Str} {t : Tok} : (strValues lt).toArray.push (.str x t) = (strValues (lt ++ [(x, t)])).toArray := by simp [strValues]

set_option maxHeartbeats 4000000 in
theorem law_first {vs : List Value} {ns : List Int} (F : Facts w h₀ mg mb) (SB : Sd h₀ sB) (S : Sd h₀ s) (p : Pr sB s) (hh : A.handled = none) (hd : A.depth ≤ 320) (hu : A.units ≤ 60) (hLf : sB.heap.get? L = none) (hmf : sB.heap.get? lm = none)
    (hns : s.heap.Ns L m) (hms : m (Str.ofString "script") = some (.ref l)) (hmm : m (Str.ofString "made") = some (.ref lm)) (hp : PlainL s.heap lm #[]) (hl : s.heap.IsList l vs.toArray) (hI : IntsAre vs ns) (hlen : ns.length ≤ 63)
    (hQ : ∀ s', Pr sB s' → Sd h₀ s' → Q (.ret (.bool true)) s') : wpAny (model prg w) A (execs ((lawBody w).drop 1) (lenv w L)) Q E s := by
  have hL1 := SB.ne17 hLf
  have hL2 := SB.ne31 hLf
  have hm1 := SB.ne17 hmf
  have hm2 := SB.ne31 hmf
  have hL0 : h₀.get? L = none := by
    cases q : h₀.get? L with
    | none => rfl
    | some o => rw [SB.old _ _ q] at hLf; cases hLf
  have hm0 : h₀.get? lm = none := by
    cases q : h₀.get? lm with
    | none => rfl
    | some o => rw [SB.old _ _ q] at hmf; cases hmf
  have hlmL : lm ≠ L := ns_ne_list hns hp.isList
  have hvl : vs.length ≤ 63 := by rw [hI.length]; exact hlen
  refine wpAny_execs_cons (wpAny_For (slice3 hh (Ev.local' rfl rfl hns hms rfl) Ev.int hl hI hlen ?_))
  intro ls items s₁ hlsf hls hitems hsz k1
  have S₁ := S.keeps k1
  have p₁ := p.trans (Pr.of_keeps k1)
  have hns₁ := hns.keeps (Keeps.heap' k1)
  have hp₁ := hp.keeps (Keeps.heap' k1)
  have hlslm : ls ≠ lm := by obtain ⟨o, _, e, _⟩ := hp; exact (fresh_ne hlsf e).symm
  refine iter_list hls fun I s₄ hI hsz₄ hk₄ hg₄ ho₄ W hst => ?_
  have hIf : sB.heap.get? I = none := p₁.fresh S₁ (Nat.le_of_eq hI.symm)
  have hIL : I ≠ L := by rw [hI]; exact Nat.ne_of_gt hns₁.lt
  have hIlm : lm ≠ I := by rw [hI]; exact Nat.ne_of_lt hp₁.lt
  have hlsL : ls ≠ L := ns_ne_list hns₁ hls
  have S₄ : Sd h₀ s₄ := ⟨fun b o e => hk₄ b o (S₁.old b o e), let ⟨ps, e, r⟩ := S₁.t17; ⟨ps, hk₄ _ _ e, r⟩, let ⟨ps, e, r⟩ := S₁.t31; ⟨ps, hk₄ _ _ e, r⟩, hg₄ ▸ S₁.bare⟩
  refine for_loop (m₀ := m) (W _ hh) (MadeJ sB h₀ lm) rfl rfl ?_ hst (hns₁.keeps hk₄) ⟨hmm, ⟨[], hp₁.keeps hk₄, rfl, fun _ q => nomatch q⟩, p₁.trans ⟨fun b o _ _ e => hk₄ b o e, ho₄⟩, S₄⟩ ?_ ?_ ?_
  · intro q
    rcases List.mem_cons.mp q with q | q
    · exact hIL q.symm
    · exact hlsL (List.mem_singleton.mp q).symm
  · rintro i m₅ s₅ s₆ ⟨j1, ⟨lt, ⟨o, n, e, r⟩, j3, j4⟩, j5, j6⟩ hm
    exact ⟨j1, ⟨lt, ⟨o, n, hm.heap _ o (fun q => hIlm (List.mem_singleton.mp q)) e, r⟩, j3, j4⟩, j5.mv hIf hm, SB.mv hIf j6 hm⟩
  · rintro i v m₅ s₅ h₆ hi ⟨j1, ⟨lt, j2, j3, j4⟩, j5, j6⟩ hv hst₆ hns₆ hsb
    obtain ⟨x, t, rfl⟩ := hitems v (Array.mem_of_getElem? hv)
    have S₆ : Sd h₀ { s₅ with heap := h₆, toks := s₅.toks + 1 } := j6.same hL0 hL1 hL2 hsb
    have p₆ : Pr sB { s₅ with heap := h₆, toks := s₅.toks + 1 } := j5.transL hLf ((PrL.refl L s₅).same hsb)
    have hp₆ : PlainL h₆ lm (strValues lt).toArray := j2.extBut hsb.extBut hlmL
    have hszl : (strValues lt).toArray.size ≤ sizeLine := by
      have e : sizeLine = 16777216 := rfl
      simp [strValues]
      omega
    have fin : ∀ (s₇ : Shared), Keeps { s₅ with heap := h₆, toks := s₅.toks + 1 } s₇ → ∀ (y : Str) (v : Value) (h' : Heap) (tk : Nat), y.length ≤ 100 → StrV y v → PlainL h' lm ((strValues lt).toArray.push v) → (∀ b o, b ≠ lm → s₇.heap.get? b = some o → h'.get? b = some o) →
        ∃ m', h'.Ns L m' ∧ MadeJ sB h₀ lm (i + 1) m' { s₇ with heap := h', toks := tk } ∧ (h'.IsListIter I ls (i + 1) ∧ h'.IsList ls items) := by
      rintro s₇ k₇ y v h' tk hy ⟨u, rfl⟩ hp' hk'
      have S₇ := S₆.keeps k₇
      have p₇ := p₆.trans (Pr.of_keeps k₇)
      refine ⟨_, (hns₆.keeps (Keeps.heap' k₇)).at' fun o e => hk' _ o hlmL.symm e, ⟨j1, ⟨lt ++ [(y, u)], by rw [← push_strs]; exact hp', by simp [j3], fun z hz => ?_⟩, ⟨fun b o h1 h2 e => hk' b o (fresh_ne hmf e) (p₇.heap b o h1 h2 e), p₇.os⟩, ?_⟩, ?_⟩
      · rcases List.mem_append.mp hz with hz | hz
        · exact j4 z hz
        · rw [List.mem_singleton.mp hz]; exact hy
      · refine ⟨fun b o e => hk' b o (fun q => ?_) (S₇.old b o e), ?_, ?_, S₇.bare⟩
        · rw [q, hm0] at e; cases e
        · obtain ⟨ps, e, r⟩ := S₇.t17; exact ⟨ps, hk' _ _ hm1.symm e, r⟩
        · obtain ⟨ps, e, r⟩ := S₇.t31; exact ⟨ps, hk' _ _ hm2.symm e, r⟩
      · obtain ⟨⟨o1, q1, r1⟩, o2, q2, r2⟩ := hst₆
        exact ⟨⟨o1, hk' _ _ hIlm.symm (Keeps.heap' k₇ _ _ q1), r1⟩, o2, hk' _ _ hlslm (Keeps.heap' k₇ _ _ q2), r2⟩
    refine wpAny_execs_cons (if_eq hh (Ev.mod (Ev.local' (V := IntV x) rfl rfl hns₆ rfl ⟨_, rfl⟩) Ev.int (by decide)) Ev.int (fun _ s₇ k₇ => ?_) fun _ s₇ k₇ => ?_)
    · have hns₇ := hns₆.keeps (Keeps.heap' k₇)
      refine append_stmt (x := Str.ofString "made") (lm := lm) hh (Ev.local' (v := .ref lm) rfl rfl hns₇ j1 rfl) (Ev.str (x := Str.ofString "")) (hp₆.keeps (Keeps.heap' k₇)) hszl fun v h' tk hV hp' hk' => ?_
      exact wpAny_execs_nil (fin s₇ k₇ _ v h' tk (by decide) hV hp' hk')
    · have hns₇ := hns₆.keeps (Keeps.heap' k₇)
      have ex : ∀ np, Ev prg w (lenv w L) s₇ (.Name (Str.ofString "x") np) (IntV x) := fun np => Ev.local' rfl rfl hns₇ rfl ⟨_, rfl⟩
      have e10 : ∀ pa pb pc, Ev prg w (lenv w L) s₇ (.BinOp (.Constant (.int 10) 0 pa) .Pow (.Constant (.int 24) 0 pb) pc) (IntV (10 ^ 24)) := fun pa pb pc => Ev.pow (a := 10) (n := 24) Ev.int Ev.int (by decide) (by decide) (by decide)
      refine append_stmt (x := Str.ofString "made") (lm := lm) (V := StrV (Str.ofString (toString (cut x)))) hh (Ev.local' (v := .ref lm) rfl rfl hns₇ j1 rfl) (Ev.strOf (ev_built F (S₆.keeps k₇) rfl F.str rfl (by decide) _ rfl)
        (Ev.ifge (V := IntV (cut x)) (ex _) Ev.int (fun hx => (Ev.mod (ex _) (e10 _ _ _) (by decide)).imp fun v hv => ?_) fun hx => (Ev.neg (Ev.mod (Ev.neg (ex _)) (e10 _ _ _) (by decide))).imp fun v hv => ?_) (cut_log x)) (hp₆.keeps (Keeps.heap' k₇)) hszl fun v h' tk hV hp' hk' => ?_
      · unfold cut; rw [if_pos hx]; exact hv
      · unfold cut; rw [if_neg hx]; exact hv
      · exact wpAny_execs_nil (fin s₇ k₇ _ v h' tk (cut_len x) hV hp' hk')
  · rintro m₅ s₅ hns₅ ⟨j1, ⟨lt, j2, j3, j4⟩, j5, j6⟩
    exact law_second F SB j6 j5 hh hd hu hLf hns₅ j1 j2.isList (by rw [j3]; exact hsz) j4 hQ
end
end Mine

end
section
namespace Mine
open Sem (wp)

set_option maxHeartbeats 4000000 in
theorem law_call {w : World} {s : Shared} {h₀ : Heap} {mg mb : Str → Option Value} {l : Addr} {vs : List Value} {ns : List Int} {R : Result → Shared → Prop} (F : Facts w h₀ mg mb) (S : Sd h₀ s)
    (hl : s.heap.IsList l vs.toArray) (hI : IntsAre vs ns) (hlen : ns.length ≤ 63) (hR : ∀ s', Pr s s' → Sd h₀ s' → R (.ok (.ret (.bool true))) s') :
    codeAny (model prg w) callerA (.call (.ref 36) ⟨[.ref l], []⟩) R s := by
  obtain ⟨p, loose, mean, T⟩ := F.T
  have ho := S.old _ _ (F.X 36 _ rfl)
  have hlimS := T.nolimit.keeps S.old
  refine codeAny_call_def (fd := fdAt (K w) 36) (binds := [(Str.ofString "script", .ref l)]) (by decide) ho rfl hlimS (codeRec_of (F.X.keeps S.old) (by rfl)) rfl (BindsTo.of_eq rfl) (noCells rfl) (locs rfl) ?_
  intro h₁ hns hk₁
  have hh : (callerA.deeper (callEnv (fdAt (K w) 36) s.heap.objs.size 36)).handled = none := rfl
  have hd : (callerA.deeper (callEnv (fdAt (K w) 36) s.heap.objs.size 36)).depth ≤ 320 := by show 1 + claimMargin + 1 ≤ 320; decide
  have hu : (callerA.deeper (callEnv (fdAt (K w) 36) s.heap.objs.size 36)).units ≤ 60 := by show 4 + 3 ≤ 60; decide
  have hLf : s.heap.get? s.heap.objs.size = none := Heap.get?_none_of_le (Nat.le_refl _)
  generalize s.heap.objs.size = L at hns hh hd hu hLf ⊢
  generalize (callerA.deeper (callEnv (fdAt (K w) 36) L 36)) = A at hh hd hu ⊢
  have k₁ : Keeps s { s with heap := h₁, toks := s.toks + [(Str.ofString "script", Value.ref l)].length } := ⟨_, _, rfl, hk₁⟩
  have hns₁ : ({ s with heap := h₁, toks := s.toks + [(Str.ofString "script", Value.ref l)].length } : Shared).heap.Ns L (fun x => [(Str.ofString "script", Value.ref l)].reverse.lookup x) := hns
  generalize ({ s with heap := h₁, toks := s.toks + [(Str.ofString "script", Value.ref l)].length } : Shared) = s₁ at k₁ hns₁ ⊢
  clear hns hk₁
  refine wpAny_execs_cons (wpAny_Assign_Name (list_new (Calls.spliced_nil ⟨by decide, ?_⟩)))
  intro lm s₂ hlm hp k₂
  have k := Keeps.trans' k₁ k₂
  have hmf : s.heap.get? lm = none := Keeps.fresh k₁ (Nat.le_of_eq hlm.symm)
  have hmL : L ≠ lm := by rw [hlm]; exact Nat.ne_of_lt hns₁.lt
  refine wpAny_storeName_local rfl (hns₁.keeps (Keeps.heap' k₂)) (fun h₃ hns₃ hsb₃ => ?_) rfl
  have hL0 : h₀.get? L = none := by
    cases q : h₀.get? L with
    | none => rfl
    | some o => rw [S.old _ _ q] at hLf; cases hLf
  have hlL : l ≠ L := by obtain ⟨o, e, _⟩ := hl; exact fresh_ne hLf e
  have S₃ : Sd h₀ { s₂ with heap := h₃, toks := s₂.toks + 1 } := (S.keeps k).same hL0 (S.ne17 hLf) (S.ne31 hLf) hsb₃
  have p₃ : Pr s { s₂ with heap := h₃, toks := s₂.toks + 1 } := (Pr.of_keeps k).transL hLf ((PrL.refl L s₂).same hsb₃)
  exact law_first F S S₃ p₃ hh hd hu hLf hmf hns₃ rfl rfl (hp.extBut hsb₃.extBut hmL.symm) (hl.at fun o e => hsb₃.extBut _ o hlL (Keeps.heap' k _ o e)) hI hlen hR

/-- the ground without its two growing tables -/
abbrev tabs2 : List (Addr × Addr) := [(21, 17), (35, 31)]
theorem tabs2_at {w : World} {h₁ : Heap} (X : (K w).In h₁) (KT : ∀ P ∈ [17, 31], h₁.get? P = some (tabObj #[])) : TabsAt tabs2 h₁ :=
  List.forall_mem_cons.mpr ⟨⟨codeHd_of_K X (by rfl), KT 17 (by decide)⟩, List.forall_mem_cons.mpr ⟨⟨codeHd_of_K X (by rfl), KT 31 (by decide)⟩, fun _ h => nomatch h⟩⟩

theorem facts_of {w : World} {h₁ : Heap} {mg mb : Str → Option Value} {p : Program} {loose : List Str} {mean : ExcName → Option Value} (X : (K w).In h₁) (KT : ∀ P ∈ [17, 31], h₁.get? P = some (tabObj #[])) (T : Top p loose mean mg mb h₁) : Facts w (ghostOf h₁ tabs2) mg mb where
  X := ghost_K (tabs2_at X KT) X (by rfl)
  T := ⟨_, _, _, ghost_top (tabs2_at X KT) T⟩
  n17 := hideAll_none _ (by decide)
  n31 := hideAll_none _ (by decide)
  max := mg_none_of X T.g (by rfl)
  len := mg_none_of X T.g (by rfl)
  range := mg_none_of X T.g (by rfl)
  str := mg_none_of X T.g (by rfl)
  fmt := mg_of X T.g (by rfl)
  line := mg_of X T.g (by rfl)

theorem law_good {w : World} {s₁ : Shared} {mg mb : Str → Option Value} {p : Program} {loose : List Str} {mean : ExcName → Option Value} {fa l : Addr} {vs : List Value} {ns : List Int} {cw : ClaimW} {cl : Str → Option Addr} {mean' : ExcName → Option Value} {args : List WData}
    (X : (K w).In s₁.heap) (KT : ∀ P ∈ [17, 31], s₁.heap.get? P = some (tabObj #[])) (T : Top p loose mean mg mb s₁.heap) (hmg : mg (Str.ofString "law") = some (.ref fa)) (hg : s₁.gens = #[])
    (hl : s₁.heap.IsList l vs.toArray) (hI : IntsAre vs ns) (hlen : ns.length ≤ 63) (hr : ∀ c, cw.raises args c = false) (hpost : cw.post args (.bool true) args = true) :
    codeAny (model prg w) callerA (.call (.ref fa) ⟨[.ref l], []⟩) (GoodWG cw cl mean' args s₁) s₁ := by
  have hfa : fa = 36 := by
    have e : mg (Str.ofString "law") = some (.ref 36) := mg_of X T.g (by rfl)
    rw [hmg] at e
    cases e; rfl
  subst hfa
  have hT := tabs2_at X KT
  have hne : ∀ b o, (ghostOf s₁.heap tabs2).get? b = some o → s₁.heap.get? b = some o := fun b o e => of_hideAll _ e
  have S : Sd (ghostOf s₁.heap tabs2) s₁ := ⟨hne, ⟨#[], KT 17 (by decide), True.intro⟩, ⟨#[], KT 31 (by decide), True.intro⟩, .of_eq hg⟩
  refine law_call (facts_of X KT T) S hl hI hlen fun s' p' S' => ⟨.inl ⟨.bool true, .bool true, [], rfl, hr, .bool true, hpost, fun _ => ⟨List.nodup_nil, fun _ h => nomatch h⟩⟩, ⟨fun b o e => ?_, fun b o e => ?_⟩, p'.os, S'.bare⟩
  · by_cases h17 : b = 17
    · subst h17
      have e' := KT 17 (by decide)
      rw [e] at e'
      cases e'
      obtain ⟨ps, q, _⟩ := S'.t17
      exact .inr (.inl ⟨((hT (21, 17) (by simp)).1.tab (hT (21, 17) (by simp)).2).isCodeTable, rfl, #[], ps, rfl, by rw [Array.empty_append]; exact q⟩)
    by_cases h31 : b = 31
    · subst h31
      have e' := KT 31 (by decide)
      rw [e] at e'
      cases e'
      obtain ⟨ps, q, _⟩ := S'.t31
      exact .inr (.inl ⟨((hT (35, 31) (by simp)).1.tab (hT (35, 31) (by simp)).2).isCodeTable, rfl, #[], ps, rfl, by rw [Array.empty_append]; exact q⟩)
    exact .inl (p'.heap b o h17 h31 e)
  · by_cases h17 : b = 17
    · obtain ⟨ps, q, _⟩ := S'.t17; exact ⟨_, h17 ▸ q⟩
    by_cases h31 : b = 31
    · obtain ⟨ps, q, _⟩ := S'.t31; exact ⟨_, h31 ▸ q⟩
    exact ⟨o, p'.heap b o h17 h31 e⟩
end Mine

end
section
namespace Mine
theorem post_ok (args ds : List WData) : Challenge.rw_dw0001_01.row.claim.post args (.bool true) ds = true := by
  show (WShape.has ([] : WRecords) (.bool true) .bool && WTm.holds ([] : WRecords) (.eq .res (.lit (.bool true))) { args := args, res := some (.bool true), after := ds }) = true
  rw [Bool.and_eq_true]
  refine ⟨?_, ?_⟩
  · first | decide | (simp [WShape.has, WShape.arms]; done)
  · exact (holdsW_of_value (w_eq_bool (w_res rfl) w_lit)).trans rfl
end Mine

end
namespace Mine
abbrev as39 : List Addr := [2, 3, 6, 15, 16, 18, 19, 21, 22, 23, 25, 26, 28, 29, 30, 32, 33, 35, 36]
noncomputable abbrev hook : Hook := kmHook Mine.hd.heap_39 as39 (fun _ => by kernel_rfl) [17, 31]
end Mine

set_option maxHeartbeats 8000000 in
theorem PySem.Challenge.cw_dw0001_01_holds : PySem.Challenge.rw_dw0001_01.Holds := by
  w_on
  o_law
  o_head Mine.hook
  (case hw => w_witness2)
  intro w s₀ s₁ mg mb G Y fa o pm cd doc dV kV ho hd hcd hD hmg hg args vals as hpre hlay hrd hwl hlo
  have KX := km_in_of Y
  have KT := km_tabs_of Y
  refine Ground.open G ?_
  intro T B D TE TW
  clear hd hcd hD ho
  wrow_args hpre hlay hrd hwl hlo
  all_goals (
    first | refine callC_kw (enter_call ?_) | refine enter_call ?_
    w_top on
    refine Mine.law_good KX KT T hmg hg (by assumption) (by assumption) ?_ ?_ (Mine.post_ok _ _)
    · omega
    · intro c; rfl)
