import PyProof.Rows.All
import Wide.All
import OpenK.AllK
import Wide.FinOn
import PySem.Challenge.RW_ae6011_01
open PySem PySem.W PyProof.Rows PySem.Calls
set_option Elab.async false

namespace Mine
open Sem (wp)

structure OkA (k : Nat) (A : Around) : Prop where
  handled : A.handled = none
  depth : A.depth + 2 * k ≤ 900
  units : A.units + 100 * k ≤ 9000

theorem OkA.room {k : Nat} {A : Around} (h : OkA k A) : A.depth < recursionLimit := by
  have h1 := h.depth
  show A.depth < 1000
  omega
theorem OkA.line {k : Nat} {A : Around} (h : OkA k A) : A.units < cLine := by
  have h1 := h.units
  show A.units < 9900
  omega
theorem OkA.mono {k j : Nat} {A : Around} (h : OkA k A) (hj : j ≤ k) : OkA j A :=
  ⟨h.handled, by have := h.depth; omega, by have := h.units; omega⟩
theorem OkA.in1 {k : Nat} {A : Around} (h : OkA (k + 1) A) : OkA k A.in1 :=
  ⟨h.handled, by have := h.depth; simp only [Around.in1_depth]; omega, by have := h.units; simp only [Around.in1_units]; omega⟩
theorem OkA.deeper {k : Nat} {A : Around} (h : OkA (k + 1) A) (env : Env) : OkA k (A.deeper env) :=
  ⟨h.handled, by have := h.depth; show A.depth + 1 + 2 * k ≤ 900; omega, by have := h.units; show A.units + 3 + 100 * k ≤ 9000; omega⟩

/-- a stretch of a generator's run, up to its next yield or its end -/
def SegP (M : Model) (A : Around) (c : Code) (t : Sem Fin) (fs : List Frame) (s : Shared) (Φ : End → Shared → Prop) : Prop :=
  ∀ Γ p, Γ.code = c → Γ.Woken A → ∃ e s', Runs M Γ p t fs s e s' ∧ Φ e s'

section
variable {M : Model} {A : Around} {c : Code} {fs : List Frame} {s : Shared} {Φ : End → Shared → Prop}

theorem segp_wrap {α : Type} {m : Sem α} {K : α → Sem Fin} {H : Value → Sem Fin} {gd lv}
    (h : wpAny M (A.over c fs) m (fun a s' => SegP M A c (K a) fs s' Φ) (fun x s' => SegP M A c (H x) fs s' Φ) s) :
    SegP M A c (m.wrap K H gd lv) fs s Φ := by
  rintro Γ p rfl hΓ
  exact runs_wrap_of_wp K H gd lv m (h (Γ.over fs) p (hΓ.over fs)) (fun a p' s' h' => h' Γ p' rfl hΓ) (fun x p' s' h' => h' Γ p' rfl hΓ)
theorem segp_bind {α : Type} {m : Sem α} {K : α → Sem Fin}
    (h : wpAny M (A.over c fs) m (fun a s' => SegP M A c (K a) fs s' Φ) (fun x s' => SegP M A c (.raise x) fs s' Φ) s) :
    SegP M A c (m >>= K) fs s Φ := by
  rw [Sem.bind_eq_wrap']; exact segp_wrap h
theorem segp_bind_wrap {α β : Type} {m : Sem α} {K : α → Sem β} {K' : β → Sem Fin} {H' : Value → Sem Fin} {gd lv}
    (h : wpAny M (A.over c fs) m (fun a s' => SegP M A c ((K a).wrap K' H' gd lv) fs s' Φ) (fun x s' => SegP M A c (H' x) fs s' Φ) s) : SegP M A c ((m >>= K).wrap K' H' gd lv) fs s Φ := by
  rw [Sem.bind_eq_wrap', Sem.wrap_wrap]; exact segp_wrap h
theorem segp_at {p' : Pos} {k : Unit → Sem Fin} (h : SegP M A c (k ()) fs s Φ) : SegP M A c (.at p' k) fs s Φ :=
  segp_wrap (m := standAt p') (K := k) (H := .raise) (gd := id) (lv := id) (wpAny_standAt h)
theorem segp_point {l : List Value} {k : Unit → Sem Fin} (h : SegP M A c (k ()) fs s Φ) : SegP M A c (.point l k) fs s Φ :=
  segp_wrap (m := point) (K := k) (H := .raise) (gd := id) (lv := fun _ => l) (wpAny_point h)
theorem segp_call {c' : Code} {h g l} {k : Result → Sem Fin} (hc : ∀ p, SegP M A c' (M.den c') (.ret k h g l c p [] :: fs) s Φ) :
    SegP M A c (.call c' h g l k) fs s Φ := by
  rintro Γ p rfl hΓ
  obtain ⟨e, s', hr, he⟩ := hc p (Γ.goto c') p rfl (hΓ.goto c')
  exact ⟨e, s', runs_call_seg hr, he⟩
theorem segp_leaf {k h g l c₁ p₁ kp} (r : Result) (hk : SegP M A c₁ (k r) fs s Φ) : SegP M A c (leafOf r) (.ret k h g l c₁ p₁ kp :: fs) s Φ := by
  rintro Γ p rfl hΓ
  obtain ⟨e, s', hr, he⟩ := hk (Γ.goto c₁) p₁ rfl (hΓ.goto c₁)
  exact ⟨e, s', Runs.pop r hr, he⟩
theorem segp_again {c' : Code} (hq : c'.quiet = true) (hc : SegP M A c' (M.den c') fs s Φ) : SegP M A c (.pure (.again c')) fs s Φ := by
  rintro Γ p rfl hΓ
  obtain ⟨e, s', hr, he⟩ := hc (Γ.goto c') p rfl (hΓ.goto c')
  exact ⟨e, s', Runs.head (c₁ := c') (fun _ _ x => .again hq x) hr, he⟩
theorem segp_end (r : Result) (h : Φ (.ret r) s) : SegP M A c (leafOf r) [] s Φ := by
  rintro Γ p rfl _
  exact ⟨.ret r, s, Runs.leaf r, h⟩
theorem segp_yield {v g l} {k : Resume → Sem Fin} (hfs : splitAtGen fs = none) (h : ∀ p, Φ (.susp v g l k c p fs) s) : SegP M A c (.yield v g l k) fs s Φ := by
  rintro Γ p rfl _
  exact ⟨_, s, Runs.yield' fs hfs, h p⟩

theorem wpAny_resumeP {E : Value → Shared → Prop} {g : Nat} {gs : GenState} {r : Resume} {l : List Value} {α : Type} {k : GenResult → Sem α} {Q : α → Shared → Prop} (hg : s.gens[g]? = some gs)
    (hgo : match gs with
      | .fresh c => r = .send .none ∧ SegP M A c (M.den c) [] (s.setGen g .running) Φ
      | .suspended k₀ _ c₀ _ fs₀ _ => SegP M A c₀ (k₀ r) fs₀ (s.setGen g .running) Φ
      | _ => False)
    (hend : ∀ e s₁, Φ e s₁ → e.quiet = true ∧ wpAny M A (k e.result) Q E (s₁.setGen g e.genState)) :
    wpAny M A (.resume g r l k) Q E s := by
  intro Γ p hΓ
  rw [Sem.wp_resume]
  have hB : ∀ c, (Γ.wake c p).Woken A := fun c => hΓ.wake c p
  cases gs with
  | fresh c =>
    obtain ⟨rfl, hs⟩ := hgo
    obtain ⟨e₁, s₁, hr, he⟩ := hs (Γ.wake c p) p rfl (hB c)
    obtain ⟨hq, hk⟩ := hend e₁ s₁ he
    exact ⟨_, _, by unfold Wakes; rw [hg]; exact ⟨e₁, s₁, hr, hq, rfl, rfl⟩, hk Γ p hΓ⟩
  | suspended k₀ l₀ c₀ p₀ fs₀ cl =>
    obtain ⟨e₁, s₁, hr, he⟩ := hgo (Γ.wake c₀ p) p₀ rfl (hB c₀)
    obtain ⟨hq, hk⟩ := hend e₁ s₁ he
    exact ⟨_, _, by unfold Wakes; rw [hg]; exact ⟨e₁, s₁, hr, hq, rfl, rfl⟩, hk Γ p hΓ⟩
  | running => exact hgo.elim
  | finished => exact hgo.elim
end

section
variable {M : Model} {A : Around} {c : Code} {fs : List Frame} {s : Shared} {Φ : End → Shared → Prop} {env : Env} {K : Flow → Sem Fin} {H : Value → Sem Fin} {gd : Bool → Bool} {lv : List Value → List Value}
theorem segp_execs_nil (h : SegP M A c (K .next) fs s Φ) : SegP M A c ((execs [] env).wrap K H gd lv) fs s Φ := h
theorem segp_execs_cons {st : Stmt} {rest : List Stmt}
    (h : SegP M A c ((exec st env).wrap (fun f => match f with | .next => (execs rest env).wrap K H gd lv | f => K f) H gd lv) fs s Φ) :
    SegP M A c ((execs (st :: rest) env).wrap K H gd lv) fs s Φ := by rw [execs_cons_wrap]; exact h
theorem segp_stmt {st : Stmt} {rest : List Stmt}
    (h : wpAny M (A.over c fs) (exec st env) (fun f s' => f = .next ∧ SegP M A c ((execs rest env).wrap K H gd lv) fs s' Φ) (fun x s' => SegP M A c (H x) fs s' Φ) s) :
    SegP M A c ((execs (st :: rest) env).wrap K H gd lv) fs s Φ := by
  refine segp_execs_cons (segp_wrap (wpAny_mono h (fun f s' hf => ?_) fun _ _ x => x))
  obtain ⟨rfl, hf⟩ := hf
  exact hf
theorem segp_If {test : Expr} {body orelse : List Stmt} {pos : Pos}
    (h : wpAny M (A.over c fs) (isTrue test env (eval test env)) (fun b s' => if b = true then SegP M A c ((execs body env).wrap K H gd lv) fs s' Φ else SegP M A c ((execs orelse env).wrap K H gd lv) fs s' Φ)
      (fun x s' => SegP M A c (H x) fs s' Φ) s) :
    SegP M A c ((exec (.If test body orelse pos) env).wrap K H gd lv) fs s Φ := by
  rw [exec_If]
  refine segp_bind_wrap (wpAny_standAt (segp_bind_wrap (wpAny_mono h (fun b s' hb => ?_) fun _ _ x => x)))
  cases b with
  | true => simpa using hb
  | false => simpa using hb
theorem segp_Yield {e : Expr} {ypos pos : Pos} (hfs : splitAtGen fs = none) (hgd : gd false = false)
    (h : wpAny M (A.over c fs) (eval e env) (fun v s' => ∀ (l : List Value) (k : Resume → Sem Fin) (p : Pos),
        (∀ (A' : Around) Φ' s'', SegP M A' c (K .next) fs s'' Φ' → SegP M A' c (k (.send .none)) fs s'' Φ') → Φ (.susp v false l k c p fs) s')
      (fun _ _ => False) s) (hco : env.scope.isCoroutine = false := by rfl) (hi : interactive env = false := by rfl) :
    SegP M A c ((exec (.Expr (.Yield (some e) ypos) pos) env).wrap K H gd lv) fs s Φ := by
  rw [exec_Expr env _ pos hi rfl]
  show SegP M A c (.at pos fun _ => ((eval e env >>= fun v => (standAt ypos >>= fun _ => yieldOut env v)) >>= fun x =>
    dropValue (.Yield (some e) ypos) pos x).wrap K H gd lv) fs s Φ
  have hy : ∀ v, yieldOut env v = yieldValue v := fun v => by simp only [yieldOut, hco, Bool.false_eq_true, if_false]
  simp only [hy]
  refine segp_at ?_
  rw [Sem.bind_eq_wrap', Sem.bind_eq_wrap', Sem.wrap_wrap, Sem.wrap_wrap]
  refine segp_wrap (wpAny_mono h (fun v s' h' => ?_) fun _ _ x => x.elim)
  refine segp_at (segp_yield hfs fun p => ?_)
  show Φ (.susp v (gd false) _ _ c p fs) s'
  rw [hgd]
  exact h' _ _ p fun A' Φ' s'' hk => hk

theorem segp_For {target iter : Expr} {body : List Stmt} {pos : Pos}
    (h : wpAny M (A.over c fs) (eval iter env) (fun x s₁ => wpAny M (A.over c fs) (pyIter x) (fun it s₂ => ∀ p,
        SegP M A (.forLoop target it body [] env) (M.den (.forLoop target it body [] env))
          (.ret (fun r => ((match r with | .ok f => (.pure f : Sem Flow) | .error e => .raise e).onRaise fun (x : Value) => do
            if (← field x 1) == Value.none then unsupported "frame.own-activation:exception-without-traceback"
            setFlight x env.frame).wrap K H gd lv) none (gd false) (lv []) c p [] :: fs) s₂ Φ) (fun _ _ => False) s₁) (fun _ _ => False) s)
    (hs : ∀ x, foldedSetIterable iter env x = pure x := by intro _; rfl) :
    SegP M A c ((exec (.For target iter body [] pos) env).wrap K H gd lv) fs s Φ := by
  rw [arm_exec_For]
  refine segp_bind_wrap (wpAny_standAt (segp_bind_wrap (wpAny_mono h (fun x s₁ h₁ => ?_) fun _ _ x => x.elim)))
  refine segp_bind_wrap (wpAny_of_eq (hs x) (segp_bind_wrap (wpAny_standAt (segp_bind_wrap (wpAny_holding (wpAny_mono h₁ (fun it s₂ h₂ => ?_) fun _ _ x => x.elim))))))
  exact segp_call h₂
theorem segp_ended {k h g l c₁ p₁ kp} (hk : SegP M A c₁ (k (.ok .next)) fs s Φ) : SegP M A c (.pure (.done .next)) (.ret k h g l c₁ p₁ kp :: fs) s Φ := segp_leaf (.ok .next) hk
end

section
variable {prog : Program} {w : World} {A : Around} {fs : List Frame} {s : Shared} {Φ : End → Shared → Prop} {env : Env}
theorem segp_forLoop {target : Expr} {it : Value} {body : List Stmt}
    (h : wpAny (model prog w) (A.over (.forLoop target it body [] env) fs) (pyNext it) (fun r s' => match r with
      | none => SegP (model prog w) A (.block [] env) (.pure (.done .next)) fs s' Φ
      | some v => wpAny (model prog w) (A.over (.forLoop target it body [] env) fs) (assign target env v) (fun _ s'' =>
          ∀ H, SegP (model prog w) A (.forLoop target it body [] env) ((execs body env).wrap (fun f => match f with
            | .next | .cont => .pure (.again (.forLoop target it body [] env))
            | .brk => .pure (.done .next)
            | .ret v => .pure (.done (.ret v))) H id id) fs s'' Φ) (fun _ _ => False) s') (fun _ _ => False) s)
    (ht : ∀ v, letOwnedTupleGo target it v = pure () := by intro _; rfl) :
    SegP (model prog w) A (.forLoop target it body [] env) ((model prog w).den (.forLoop target it body [] env)) fs s Φ := by
  show SegP _ A _ ((forTurn target it body [] env).onRaise (fun x => do noteFrame x env; theTreesLotGoes x)) fs s Φ
  unfold forTurn
  rw [Sem.onRaise_eq_wrap]
  refine segp_bind_wrap (wpAny_standAt ?_)
  refine segp_bind_wrap (wpAny_onRaise (wpAny_mono h (fun r s' h' => ?_) fun _ _ x => x.elim))
  cases r with
  | none =>
    refine segp_again rfl ?_
    show SegP _ A _ (((execs [] env).onRaise (fun x => do noteFrame x env; theTreesLotGoes x)) >>= _) fs s' Φ
    exact h'
  | some v =>
    refine segp_bind_wrap (wpAny_of_eq (ht v) (segp_bind_wrap (wpAny_mono h' (fun _ s'' h'' => ?_) fun _ _ x => x.elim)))
    rw [Sem.bind_eq_wrap', Sem.wrap_wrap]
    rw [Sem.wrap_congr (execs body env) _ _ (K' := fun f => match f with
            | .next | .cont => .pure (.again (.forLoop target it body [] env))
            | .brk => .pure (.done .next)
            | .ret v => .pure (.done (.ret v))) (fun f => by cases f <;> rfl) (fun e => rfl)]
    exact h'' _
theorem segp_func {body : List Stmt}
    (h : ∀ H, SegP (model prog w) A (.func body env) ((execs body env).wrap (fun f => .pure (.done (.ret (match f with | .ret v => v | _ => .none)))) H id id) fs s Φ) :
    SegP (model prog w) A (.func body env) ((model prog w).den (.func body env)) fs s Φ := by
  show SegP _ A (.func body env) (.point [] fun _ => ((execs body env).onRaise (leaving env)) >>= _) fs s Φ
  refine segp_point ?_
  rw [Sem.onRaise_eq_wrap, Sem.bind_eq_wrap', Sem.wrap_wrap]
  rw [Sem.wrap_congr (execs body env) _ _ (K' := fun f => .pure (.done (.ret (match f with | .ret v => v | _ => .none)))) (fun f => by cases f <;> rfl) (fun e => rfl)]
  exact h _
end
end Mine

namespace Mine
open Sem (wp)

/-- a tuple of ints on the heap -/
def RowIs (h : Heap) (v : Value) (r : List Int) : Prop :=
  ∃ a vs, v = .ref a ∧ IsTup h a (List.toArray vs) ∧ IntsAre vs r

/-- what one run, whose own objects are F and own generators G, does to the state -/
structure Mvd (F : Addr → Prop) (G : Nat → Prop) (s s' : Shared) : Prop where
  heap : ∀ b o, ¬ F b → s.heap.get? b = some o → s'.heap.get? b = some o
  gens : ∀ i x, ¬ G i → s.gens[i]? = some x → s'.gens[i]? = some x
  gsize : s.gens.size ≤ s'.gens.size
  bare : AllBare s.gens → AllBare s'.gens
  os : s'.os = s.os

/-- the others leave the own things alone -/
structure Agr (H : Heap) (F : Addr → Prop) (G : Nat → Prop) (s s' : Shared) : Prop where
  base : ∀ b o, H.get? b = some o → s'.heap.get? b = some o
  heap : ∀ b, F b → ∀ o, s.heap.get? b = some o → s'.heap.get? b = some o
  gens : ∀ i, G i → s'.gens[i]? = s.gens[i]?

theorem Mvd.refl {F : Addr → Prop} {G : Nat → Prop} {s : Shared} : Mvd F G s s :=
  ⟨fun _ _ _ e => e, fun _ _ _ e => e, Nat.le_refl _, fun e => e, rfl⟩
theorem Mvd.trans {F : Addr → Prop} {G : Nat → Prop} {s s' s'' : Shared} (x : Mvd F G s s') (y : Mvd F G s' s'') : Mvd F G s s'' :=
  ⟨fun b o hb e => y.heap b o hb (x.heap b o hb e), fun i x' hi e => y.gens i x' hi (x.gens i x' hi e),
    Nat.le_trans x.gsize y.gsize, fun e => y.bare (x.bare e), y.os.trans x.os⟩
/-- a move of F' G', where these are among F G or new since s₀ -/
theorem Mvd.then {F F' : Addr → Prop} {G G' : Nat → Prop} {s₀ s s' : Shared} (x : Mvd F G s₀ s) (y : Mvd F' G' s s')
    (hF : ∀ b, F' b → F b ∨ s₀.heap.get? b = none) (hG : ∀ i, G' i → G i ∨ s₀.gens.size ≤ i) : Mvd F G s₀ s' where
  heap := fun b o hb e => y.heap b o (fun hb' => (hF b hb').elim hb fun e' => by rw [e'] at e; cases e) (x.heap b o hb e)
  gens := fun i z hi e => y.gens i z (fun hi' => (hG i hi').elim hi fun e' => by
    rw [Array.getElem?_eq_none e'] at e; cases e) (x.gens i z hi e)
  gsize := Nat.le_trans x.gsize y.gsize
  bare := fun e => y.bare (x.bare e)
  os := y.os.trans x.os
theorem Mvd.of_keeps {F : Addr → Prop} {G : Nat → Prop} {s s' : Shared} (x : Keeps s s') : Mvd F G s s' := by
  obtain ⟨h', tk, rfl, hk⟩ := x
  exact ⟨fun b o _ e => hk b o e, fun _ _ _ e => e, Nat.le_refl _, fun e => e, rfl⟩
theorem Mvd.mono {F F' : Addr → Prop} {G G' : Nat → Prop} {s s' : Shared} (x : Mvd F G s s') (hF : ∀ b, F b → F' b) (hG : ∀ i, G i → G' i) : Mvd F' G' s s' :=
  ⟨fun b o hb e => x.heap b o (fun h => hb (hF b h)) e, fun i z hi e => x.gens i z (fun h => hi (hG i h)) e, x.gsize, x.bare, x.os⟩

/-- how a stretch of the generator that has still `rows` to tell ends -/
def Ends (prog : Program) (w : World) (H : Heap) (k : Nat) : List (List Int) → (Addr → Prop) → (Nat → Prop) → Shared → End → Shared → Prop
  | [], F, G, s₀, e, s' => e = .ret (.ok (.ret .none)) ∧ Mvd F G s₀ s'
  | x :: xs, F, G, s₀, e, s' => ∃ a l kk c p fs F' G', e = .susp (.ref a) false l kk c p fs ∧ fs.any Frame.guarded = false ∧ RowIs s'.heap (.ref a) x ∧ Mvd F G s₀ s' ∧
      (∀ b, F' b → (F b ∨ s₀.heap.get? b = none) ∧ b ≠ a ∧ ∃ o, s'.heap.get? b = some o) ∧ (∀ i, G' i → (G i ∨ s₀.gens.size ≤ i) ∧ i < s'.gens.size) ∧
      ∀ A s'', OkA k A → Agr H F' G' s' s'' → SegP (model prog w) A c (kk (.send .none)) fs s'' (Ends prog w H k xs F' G' s'')

/-- a generator at I that will tell `rows` -/
def GenAt (prog : Program) (w : World) (H : Heap) (k : Nat) (rows : List (List Int)) (I : Addr) (g : Nat) (F : Addr → Prop) (G : Nat → Prop) (s : Shared) : Prop :=
  s.heap.IsGen I g ∧ ¬ F I ∧ ¬ G g ∧ (∀ b, F b → ∃ o, s.heap.get? b = some o) ∧ (∀ i, G i → i < s.gens.size) ∧ ∃ gs, s.gens[g]? = some gs ∧ match gs with
    | .fresh c => ∀ A s'', OkA k A → Agr H F G s s'' → SegP (model prog w) A c ((model prog w).den c) [] s'' (Ends prog w H k rows F G s'')
    | .suspended kk _ c _ fs _ => ∀ A s'', OkA k A → Agr H F G s s'' → SegP (model prog w) A c (kk (.send .none)) fs s'' (Ends prog w H k rows F G s'')
    | _ => False

section
variable {prog : Program} {w : World} {H : Heap} {k : Nat}

theorem Agr.after {F : Addr → Prop} {G : Nat → Prop} {s s' s'' : Shared} (x : Agr H F G s s') (y : Agr H F G s' s'') : Agr H F G s s'' :=
  ⟨y.base, fun b hb o e => y.heap b hb o (x.heap b hb o e), fun i hi => (y.gens i hi).trans (x.gens i hi)⟩

theorem GenAt.keep {rows : List (List Int)} {I : Addr} {g : Nat} {F : Addr → Prop} {G : Nat → Prop} {s s' : Shared} (X : GenAt prog w H k rows I g F G s)
    (hA : Agr H F G s s') (hI : ∀ o, s.heap.get? I = some o → s'.heap.get? I = some o) (hg : s'.gens[g]? = s.gens[g]?) : GenAt prog w H k rows I g F G s' := by
  obtain ⟨⟨o, nm, qn, ho, r⟩, h2, h3, hF, hG, gs, hgs, hgo⟩ := X
  refine ⟨⟨o, nm, qn, hI o ho, r⟩, h2, h3, fun b hb => let ⟨o', e⟩ := hF b hb; ⟨o', hA.heap b hb o' e⟩, fun i hi => ?_, gs, hg.trans hgs, ?_⟩
  · have h1 := hG i hi
    have e := hA.gens i hi
    rw [Array.getElem?_eq_getElem h1] at e
    exact (Array.getElem?_eq_some_iff.mp e).1
  · cases gs with
    | fresh c => exact fun A s'' hk ha => hgo A s'' hk (hA.after ha)
    | suspended kk l c p fs cl => exact fun A s'' hk ha => hgo A s'' hk (hA.after ha)
    | running => exact hgo
    | finished => exact hgo

theorem setGen_get {s : Shared} {g : Nat} {gs x : GenState} (h : s.gens[g]? = some gs) : (s.setGen g x).gens[g]? = some x := by
  have hlt : g < s.gens.size := (Array.getElem?_eq_some_iff.mp h).1
  simp [Shared.setGen, hlt]
theorem setGen_other {s : Shared} {g i : Nat} {x : GenState} (h : i ≠ g) : (s.setGen g x).gens[i]? = s.gens[i]? := by
  simp [Shared.setGen, Ne.symm h]
theorem setGen_size {s : Shared} {g : Nat} {x : GenState} : (s.setGen g x).gens.size = s.gens.size := by simp [Shared.setGen]
theorem setGen_bare {s : Shared} {g : Nat} {x : GenState} (hx : x.bare = true) (h : AllBare s.gens) : AllBare (s.setGen g x).gens := by
  intro y hy
  obtain ⟨i, hi, rfl⟩ := Array.mem_iff_getElem.mp hy
  by_cases e : i = g
  · subst e
    have hi' : i < s.gens.size := by rw [setGen_size] at hi; exact hi
    have e1 : (s.setGen i x).gens[i]? = some x := setGen_get (Array.getElem?_eq_getElem hi')
    rw [Array.getElem?_eq_getElem hi] at e1
    rw [Option.some.inj e1]; exact hx
  · have e1 := setGen_other (s := s) (x := x) e
    rw [Array.getElem?_eq_getElem hi] at e1
    obtain ⟨hi', e2⟩ := Array.getElem?_eq_some_iff.mp e1.symm
    rw [← e2]; exact h _ (Array.getElem_mem hi')
theorem Mvd.around {F : Addr → Prop} {G : Nat → Prop} {s s₁ : Shared} {g : Nat} {x : GenState} (hx : x.bare = true) (y : Mvd F G (s.setGen g .running) s₁) :
    Mvd F (fun i => G i ∨ i = g) s (s₁.setGen g x) where
  heap := fun b o hb e => y.heap b o hb e
  gens := fun i z hi e => by
    have h1 : i ≠ g := fun h => hi (.inr h)
    rw [setGen_other h1]
    exact y.gens i z (fun h => hi (.inl h)) (by rw [setGen_other h1]; exact e)
  gsize := by rw [setGen_size]; have := y.gsize; rwa [setGen_size] at this
  bare := fun h => setGen_bare hx (y.bare (setGen_bare rfl h))
  os := y.os
end

section
variable {prog : Program} {w : World} {H : Heap} {k : Nat} {A : Around} {E : Value → Shared → Prop} {s : Shared} {Q : Option Value → Shared → Prop}

theorem wpAny_pyNext_P {a : Addr} {g : Nat} {gs : GenState} {Φ : End → Shared → Prop} (hh : A.handled = none) (hl : s.heap.NoLimit) (hroom : A.depth < recursionLimit)
    (hg : s.heap.IsGen a g) (hgs : s.gens[g]? = some gs)
    (hgo : match gs with
      | .fresh c => SegP (model prog w) A.in1 c ((model prog w).den c) [] (s.setGen g .running) Φ
      | .suspended k₀ _ c₀ _ fs₀ _ => SegP (model prog w) A.in1 c₀ (k₀ (.send .none)) fs₀ (s.setGen g .running) Φ
      | _ => False)
    (hend : ∀ e s₁, Φ e s₁ → e.quiet = true ∧ match e with
      | .ret r => r = .ok (.ret .none) ∧ ∀ h', (∀ b o, s₁.heap.get? b = some o → h'.get? b = some o) → Q none { s₁.setGen g .finished with heap := h' }
      | .susp v _ _ _ _ _ _ => Q (some v) (s₁.setGen g e.genState)) :
    wpAny (model prog w) A (pyNext (.ref a)) Q E s := by
  unfold pyNext
  refine wpAny_bind (wpAny_attempt (wpAny_callSpecial?_slot (name := Str.ofString "__next__") hg.typeIs slot_gen_next
    (wpAny_call_entry slot_gen_next hg.typeIs entry_gen_next ?_ (args_gen_next _))))
  show wpAny _ A.in1 (Builtin.Generator.genWake (.ref a) (.send .none)) _ _ s
  unfold Builtin.Generator.genWake
  refine wpAny_bind (wpAny_holding (wpAny_genNumber hg (wpAny_bind (wpAny_genState hgs ?_))))
  cases gs with
  | running => exact hgo.elim
  | finished => exact hgo.elim
  | _ =>
    refine wpAny_bind (wpAny_roomToWake hl hroom ?_)
    show wpAny _ A.in1 (.resume g (.send .none) [] _) _ _ s
    refine wpAny_resumeP (A := A.in1) (Φ := Φ) hgs (by first | exact ⟨rfl, hgo⟩ | exact hgo) (fun e s₁ he => ?_)
    obtain ⟨hq, hr⟩ := hend e s₁ he
    refine ⟨hq, ?_⟩
    cases e with
    | ret r =>
      obtain ⟨rfl, hp⟩ := hr
      show wpAny _ A.in1 (newExc (.type "StopIteration") [] >>= _) _ _ _
      refine wpAny_bind ?_
      simp only [newExc, newTuple]
      refine wpAny_bind (wpAny_newObj_type ?_ (by size_fits))
      refine wpAny_bind (m := firstArgMember _ _) (wpAny_of_eq (a := Value.none) (by first | rfl | (simp only [firstArgMember]; rfl)) ?_)
      refine wpAny_newObj_type ?_ (by size_fits)
      simp only [raiseNew]
      refine wpAny_bind (wpAny_bind (wpAny_handled ?_))
      rw [show A.in1.handled = none from hh]
      refine wpAny_throw ?_
      refine wpAny_bind (wpAny_isInstance (T := "StopIteration") (b := true) ⟨_, Heap.get?_push_size _ rfl, rfl⟩ isSubtype_stop ?_)
      exact wpAny_pure (hp _ fun b o hb => Heap.get?_push_of_some _ (Heap.get?_push_of_some _ hb))
    | susp v gd l kk c p fs => exact wpAny_pure ⟨v, rfl, wpAny_pure hr⟩

theorem GenAt.next {x : List Int} {xs : List (List Int)} {I : Addr} {g : Nat} {F : Addr → Prop} {G : Nat → Prop} (X : GenAt prog w H k (x :: xs) I g F G s)
    (hA : OkA (k + 1) A) (hl : s.heap.NoLimit) (hb : ∀ b o, H.get? b = some o → s.heap.get? b = some o)
    (hQ : ∀ a s' F' G', RowIs s'.heap (.ref a) x → Mvd F (fun i => G i ∨ i = g) s s' → GenAt prog w H k xs I g F' G' s' → (∀ b, F' b → (F b ∨ s.heap.get? b = none) ∧ b ≠ a) → (∀ i, G' i → G i ∨ s.gens.size ≤ i) → Q (some (.ref a)) s') :
    wpAny (model prog w) A (pyNext (.ref I)) Q E s := by
  obtain ⟨hI, hFI, hGg, hFl, hGl, gs, hgs, hgo⟩ := X
  have hag : Agr H F G s (s.setGen g .running) := ⟨hb, fun _ _ _ e => e, fun i hi => setGen_other fun e => hGg (e ▸ hi)⟩
  have hglt := (Array.getElem?_eq_some_iff.mp hgs).1
  refine wpAny_pyNext_P (Φ := Ends prog w H k (x :: xs) F G (s.setGen g .running)) hA.handled hl hA.room hI hgs ?_ ?_
  · cases gs with
    | fresh c => exact hgo _ _ hA.in1 hag
    | suspended kk l c p fs cl => exact hgo _ _ hA.in1 hag
    | running => exact hgo
    | finished => exact hgo
  · rintro e s₁ ⟨a, l, kk, c, p, fs, F', G', rfl, hgd, hrow, hm, hF', hG', hkap⟩
    refine ⟨by simp [End.quiet, hgd], ?_⟩
    have hm' : Mvd F (fun i => G i ∨ i = g) s (s₁.setGen g (End.susp (.ref a) false l kk c p fs).genState) := Mvd.around (by simp [End.genState, GenState.bare, hgd]) hm
    have hgrun : s₁.gens[g]? = some .running := hm.gens g .running hGg (setGen_get hgs)
    have hsz : (s.setGen g .running).gens.size = s.gens.size := setGen_size
    rw [hsz] at hG'
    have hgG' : ¬ G' g := by
      intro h
      rcases (hG' g h).1 with h1 | h1
      · exact hGg h1
      · omega
    refine hQ a _ F' G' hrow hm' ⟨?_, ?_, hgG', fun b hb' => (hF' b hb').2.2, fun i hi => ?_, _, setGen_get hgrun, ?_⟩ (fun b hb' => ⟨(hF' b hb').1, (hF' b hb').2.1⟩) (fun i hi => (hG' i hi).1)
    · obtain ⟨o, nm, qn, ho, r⟩ := hI
      exact ⟨o, nm, qn, hm.heap _ o hFI ho, r⟩
    · intro h
      rcases (hF' I h).1 with h1 | h1
      · exact hFI h1
      · obtain ⟨o, nm, qn, ho, r⟩ := hI
        rw [show s.heap.get? I = none from h1] at ho; cases ho
    · rw [setGen_size]; exact (hG' i hi).2
    · intro A' s'' hA' hag'
      refine hkap A' s'' hA' ⟨hag'.base, hag'.heap, fun i hi => ?_⟩
      rw [hag'.gens i hi]
      exact setGen_other fun e => hgG' (e ▸ hi)

theorem GenAt.done {I : Addr} {g : Nat} {F : Addr → Prop} {G : Nat → Prop} (X : GenAt prog w H k [] I g F G s)
    (hA : OkA (k + 1) A) (hl : s.heap.NoLimit) (hb : ∀ b o, H.get? b = some o → s.heap.get? b = some o)
    (hQ : ∀ s', Mvd F (fun i => G i ∨ i = g) s s' → Q none s') :
    wpAny (model prog w) A (pyNext (.ref I)) Q E s := by
  obtain ⟨hI, hFI, hGg, hFl, hGl, gs, hgs, hgo⟩ := X
  have hag : Agr H F G s (s.setGen g .running) := ⟨hb, fun _ _ _ e => e, fun i hi => setGen_other fun e => hGg (e ▸ hi)⟩
  refine wpAny_pyNext_P (Φ := Ends prog w H k [] F G (s.setGen g .running)) hA.handled hl hA.room hI hgs ?_ ?_
  · cases gs with
    | fresh c => exact hgo _ _ hA.in1 hag
    | suspended kk l c p fs cl => exact hgo _ _ hA.in1 hag
    | running => exact hgo
    | finished => exact hgo
  · rintro e s₁ ⟨rfl, hm⟩
    refine ⟨rfl, rfl, fun h' hk => hQ _ ?_⟩
    have hm' : Mvd F (fun i => G i ∨ i = g) s (s₁.setGen g .finished) := Mvd.around rfl hm
    exact ⟨fun b o hb e => hk b o (hm'.heap b o hb e), hm'.gens, hm'.gsize, hm'.bare, hm'.os⟩
end
end Mine

namespace Mine
set_option maxRecDepth 100000
open Sem (wp)

/-- the heap has grown, nothing else turned -/
structure Kp (s s' : Shared) : Prop where
  get : ∀ {b : Addr} {o : Obj}, s.heap.get? b = some o → s'.heap.get? b = some o
  gens : s'.gens = s.gens
  os : s'.os = s.os
theorem Kp.refl {s : Shared} : Kp s s := ⟨fun e => e, rfl, rfl⟩
theorem Kp.trans {s s' s'' : Shared} (x : Kp s s') (y : Kp s' s'') : Kp s s'' := ⟨fun e => y.get (x.get e), y.gens.trans x.gens, y.os.trans x.os⟩
theorem Kp.mk' {s : Shared} {h' : Heap} {tk : Nat} (k : ∀ b o, s.heap.get? b = some o → h'.get? b = some o) : Kp s { s with heap := h', toks := tk } := ⟨fun e => k _ _ e, rfl, rfl⟩
theorem Kp.tok {s : Shared} {tk : Nat} : Kp s { s with toks := tk } := ⟨fun e => e, rfl, rfl⟩
theorem Kp.push {s : Shared} {o : Obj} {tk : Nat} : Kp s { s with heap := s.heap.push o, toks := tk } := ⟨fun e => Heap.get?_push_of_some _ e, rfl, rfl⟩
theorem Kp.push' {s : Shared} {o : Obj} : Kp s { s with heap := s.heap.push o } := ⟨fun e => Heap.get?_push_of_some _ e, rfl, rfl⟩
theorem Kp.heap {s : Shared} {h' : Heap} (k : ∀ b o, s.heap.get? b = some o → h'.get? b = some o) : Kp s { s with heap := h' } := ⟨fun e => k _ _ e, rfl, rfl⟩
theorem Kp.of {s s' : Shared} (x : Keeps s s') : Kp s s' := by
  obtain ⟨h', t, rfl, k⟩ := x
  exact Kp.mk' k
theorem Kp.ns {s s' : Shared} (x : Kp s s') {L : Addr} {m : Str → Option Value} (h : s.heap.Ns L m) : s'.heap.Ns L m := h.keeps fun _ _ e => x.get e
theorem Kp.tup {s s' : Shared} (x : Kp s s') {a : Addr} {its : Array Value} (h : IsTup s.heap a its) : IsTup s'.heap a its := h.keeps fun _ _ e => x.get e
theorem Kp.list {s s' : Shared} (x : Kp s s') {a : Addr} {its : Array Value} (h : s.heap.IsList a its) : s'.heap.IsList a its := let ⟨o, e, r⟩ := h; ⟨o, x.get e, r⟩
theorem Kp.dead {s s' : Shared} (x : Kp s s') {a : Addr} (h : s'.heap.get? a = none) : s.heap.get? a = none := by
  cases e : s.heap.get? a with
  | none => rfl
  | some o => rw [x.get e] at h; cases h
theorem Mvd.of_kp {F : Addr → Prop} {G : Nat → Prop} {s s' : Shared} (x : Kp s s') : Mvd F G s s' :=
  ⟨fun _ _ _ e => x.get e, fun _ _ _ e => by rw [x.gens]; exact e, by rw [x.gens]; exact Nat.le_refl _, fun e => by rw [x.gens]; exact e, x.os⟩

theorem size_line {n : Nat} (h : n ≤ 1000000) : n ≤ sizeLine := by rw [sizeLine_eq]; omega

section
variable {prog : Program} {w : World} {A : Around} {E : Value → Shared → Prop} {s : Shared} {Q : Value → Shared → Prop}

theorem op_len_list {l : Addr} {items : Array Value} (hl : s.heap.IsList l items) (hz : items.size ≤ 1000000) (h : ∀ t s', Kp s s' → Q (.int items.size t) s') :
    wpAny (model prog w) A (call (.builtin "len") [.ref l]) Q E s :=
  call_len_list hl (by omega) (h _ _ Kp.tok)
theorem op_len_tup {l : Addr} {items : Array Value} (hl : IsTup s.heap l items) (hz : items.size ≤ 1000000) (h : ∀ t s', Kp s s' → Q (.int items.size t) s') :
    wpAny (model prog w) A (call (.builtin "len") [.ref l]) Q E s :=
  len_tuple hl (by omega) (h _ _ Kp.tok)
theorem op_max2 {a b : Int} {t u : Tok} (hh : A.handled = none) (h : ∀ t' s', Kp s s' → Q (.int (max a b) t') s') :
    wpAny (model prog w) A (call (.builtin "max") [.int a t, .int b u]) Q E s :=
  max_two_ints hh fun h' tk hk => by
    by_cases c : b > a
    · rw [if_pos c]; have := h u _ (Kp.mk' (tk := tk) hk); rwa [show max a b = b by omega] at this
    · rw [if_neg c]; have := h t _ (Kp.mk' (tk := tk) hk); rwa [show max a b = a by omega] at this
theorem op_min2 {a b : Int} {t u : Tok} (hh : A.handled = none) (h : ∀ t' s', Kp s s' → Q (.int (min a b) t') s') :
    wpAny (model prog w) A (call (.builtin "min") [.int a t, .int b u]) Q E s :=
  min_two_ints hh fun h' tk hk => by
    by_cases c : b < a
    · rw [if_pos c]; have := h u _ (Kp.mk' (tk := tk) hk); rwa [show min a b = b by omega] at this
    · rw [if_neg c]; have := h t _ (Kp.mk' (tk := tk) hk); rwa [show min a b = a by omega] at this
theorem op_sum_tup {t : Addr} {vs : List Value} {ns : List Int} (hh : A.handled = none) (ht : IsTup s.heap t vs.toArray) (hi : IntsAre vs ns) (h : ∀ t' s', Kp s s' → Q (.int ns.sum t') s') :
    wpAny (model prog w) A (call (.builtin "sum") [.ref t]) Q E s := by
  obtain ⟨xs, hx⟩ := hi.allInts.items
  have hn : numsOf vs.toArray.toList = ns := by rw [show vs.toArray.toList = vs from rfl, hi.numsOf]
  rw [hx] at ht hn
  rw [nums_intItems] at hn
  refine ktm_sumG hh ht fun h' tk t' hk => ?_
  have := h t' _ (Kp.mk' (tk := tk) hk)
  rw [preSum_eq, List.take_of_length_le (by simp), hn]
  exact this
theorem op_sum_list {t : Addr} {vs : List Value} {ns : List Int} (hh : A.handled = none) (ht : s.heap.IsList t vs.toArray) (hi : IntsAre vs ns) (h : ∀ t' s', Kp s s' → Q (.int ns.sum t') s') :
    wpAny (model prog w) A (call (.builtin "sum") [.ref t]) Q E s := by
  obtain ⟨xs, hx⟩ := hi.allInts.items
  have hn : numsOf vs.toArray.toList = ns := by rw [show vs.toArray.toList = vs from rfl, hi.numsOf]
  rw [hx] at ht hn
  rw [nums_intItems] at hn
  obtain ⟨o, ho, hc, n, hd⟩ := id ht
  have hne : t ≠ s.heap.objs.size := Nat.ne_of_lt (Heap.lt_size ho)
  have hsz : (intItems xs).size = xs.size := by simp [intItems]
  have W := (Walks.list (prog := prog) (w := w) (A := A.in1) hh s.heap.objs.size t hne (intItems xs)).toS
  rw [hsz] at W
  refine call_sum_walkAnyS (wpAny_pyIter_list ht ?_)
  refine ⟨s.heap.objs.size, _, _, _, _, _, _, numAt xs, rfl, W, ⟨⟨_, Heap.get?_push_size _ rfl, rfl, rfl⟩, ht.at fun o e => Heap.get?_push_of_some _ e⟩, fun b hb => ?_, fun i v hP => intItems_at hP, fun s' t' hm => ?_⟩
  · rcases List.mem_cons.mp hb with rfl | hb
    · exact Heap.lt_size (Heap.get?_push_size _ rfl)
    · obtain rfl := List.mem_singleton.mp hb
      exact Heap.lt_size (Heap.get?_push_of_some _ ho)
  · obtain ⟨h', g', d', tk', os'⟩ := s'
    have e1 : g' = s.gens := hm.gens
    have e2 : d' = s.drawn := hm.drawn
    have e3 : os' = s.os := hm.os
    subst e1 e2 e3
    rw [preSum_eq, List.take_of_length_le (by simp), hn]
    exact h t' _ (Kp.mk' (tk := tk') fun b o e => hm.heap b o (fun hb => absurd (Heap.lt_size e) ((List.mem_singleton.mp hb) ▸ Nat.lt_irrefl _)) (Heap.get?_push_of_some _ e))
theorem op_range1 {n : Int} {t : Tok} (h : ∀ r t' u' s', IsRange s'.heap r 0 n 1 t' t u' → s.heap.get? r = none → Kp s s' → Q (.ref r) s') :
    wpAny (model prog w) A (call (.type "range") [.int n t]) Q E s :=
  call_range_1 (h _ _ _ _ (IsRange.new ..) (Heap.get?_none_of_le (Nat.le_refl _)) Kp.push)
theorem op_range2 {a n : Int} {t u : Tok} (h : ∀ r u' s', IsRange s'.heap r a n 1 t u u' → s.heap.get? r = none → Kp s s' → Q (.ref r) s') :
    wpAny (model prog w) A (call (.type "range") [.int a t, .int n u]) Q E s :=
  call_range_2 (h _ _ _ (IsRange.new ..) (Heap.get?_none_of_le (Nat.le_refl _)) Kp.push)
theorem op_tuple_list {l : Addr} {items : Array Value} (hl : s.heap.IsList l items) (hz : items.size ≤ 1000000) (h : ∀ a s', IsTup s'.heap a items → s.heap.get? a = none → Kp s s' → Q (.ref a) s') :
    wpAny (model prog w) A (call (.type "tuple") [.ref l]) Q E s :=
  call_tuple_list hl (fun h' hk => h _ _ (IsTup.new ..) (by
    cases e : s.heap.get? h'.objs.size with
    | none => rfl
    | some o => exact absurd (Heap.lt_size (hk _ _ e)) (Nat.lt_irrefl _)) (Kp.heap fun b o e => Heap.get?_push_of_some _ (hk b o e))) (size_line hz)

theorem typeCall_tuple_0 : checkTypeCall "tuple" ⟨[], []⟩ = pure () := by kernel_rfl
theorem newCall_tuple_0 : checkBuiltinCall "tuple.__new__" ⟨[.type "tuple"], []⟩ = pure () := by kernel_rfl
theorem meets_tuple_new_0 : Meets (Builtin.«tuple.__new__» ⟨[.type "tuple"], []⟩)
      (fun _ R s => R (.ok (.ret (.ref s.heap.objs.size))) { s with heap := s.heap.push { cls := .type "tuple", data := .seq #[] } }) :=
  .of_wp fun prog w A R s h => by
    obtain ⟨hp, g, d, tk, os⟩ := s
    have hsub := sub_tuple_self
    have hinit := init_tuple_lookup
    have hmh := madeHere_tuple
    wp_walk
    all_goals exact ⟨_, rfl, h⟩
theorem op_tuple0 (h : ∀ a s', IsTup s'.heap a #[] → s.heap.get? a = none → Kp s s' → Q (.ref a) s') :
    wpAny (model prog w) A (call (.type "tuple") []) Q E s :=
  callType_new F.called_tuple (by decide) typeCall_tuple_0 newCall_tuple_0 (fun obj => F.args_object_init_1 obj) F.entry_tuple_new
    meets_tuple_new_0 ⟨⟨_, Heap.get?_push_size _ rfl, rfl⟩, h _ _ (IsTup.new ..) (Heap.get?_none_of_le (Nat.le_refl _)) Kp.push'⟩

theorem op_add_tup {t b : Addr} {vs ws : List Value} (ht : IsTup s.heap t vs.toArray) (hb : IsTup s.heap b ws.toArray) (hz : vs.length + ws.length ≤ 1000000)
    (h : ∀ a s', IsTup s'.heap a (vs ++ ws).toArray → (s.heap.get? a = none ∨ (a = b ∧ vs = []) ∨ (a = t ∧ vs ≠ [])) → Kp s s' → Q (.ref a) s') :
    wpAny (model prog w) A (binaryOp .Add (.ref t) (.ref b)) Q E s := by
  obtain ⟨⟨cls, dd, data, sl⟩, ho, hc, n, hd⟩ := id ht
  obtain ⟨⟨cls2, dd2, data2, sl2⟩, ho2, hc2, n2, hd2⟩ := id hb
  simp only at hc hd hc2 hd2
  subst hc hd hc2 hd2
  have e : vs.toArray ++ ws.toArray = (vs ++ ws).toArray := by simp
  by_cases hv : vs = []
  · refine concat_meets ⟨_, ho, rfl⟩ ⟨_, ho2, rfl⟩ noFill_tuple_add seq_tuple_add PySem.F.slot_tuple_add PySem.F.entry_tuple_add (PySem.F.args_tuple_add_2 _ _)
      (tuple_addW0 t b vs.toArray ws.toArray n n2 dd dd2 sl sl2 (by simp [hv])) ⟨ho, ho2, h b s ?_ (.inr (.inl ⟨rfl, hv⟩)) Kp.refl⟩
    subst hv; exact hb
  · by_cases hw : ws = []
    · refine concat_meets ⟨_, ho, rfl⟩ ⟨_, ho2, rfl⟩ noFill_tuple_add seq_tuple_add PySem.F.slot_tuple_add PySem.F.entry_tuple_add (PySem.F.args_tuple_add_2 _ _)
        (tuple_addW1 t b vs.toArray ws.toArray n n2 dd dd2 sl sl2 (by simpa using hv) (by simp [hw])) ⟨ho, ho2, h t s ?_ (.inr (.inr ⟨rfl, hv⟩)) Kp.refl⟩
      subst hw; simpa using ht
    · refine concat_meets ⟨_, ho, rfl⟩ ⟨_, ho2, rfl⟩ noFill_tuple_add seq_tuple_add PySem.F.slot_tuple_add PySem.F.entry_tuple_add (PySem.F.args_tuple_add_2 _ _)
        (tuple_addW2 t b vs.toArray ws.toArray n n2 dd dd2 sl sl2 (by simpa using hv) (by simpa using hw) (by rw [List.size_toArray, List.size_toArray]; exact size_line hz)) ⟨ho, ho2, ?_⟩
      rw [e]
      exact h _ _ (IsTup.new ..) (.inl (Heap.get?_none_of_le (Nat.le_refl _))) Kp.push'
theorem op_add_list {t b : Addr} {vs ws : List Value} (ht : s.heap.IsList t vs.toArray) (hb : s.heap.IsList b ws.toArray) (hz : vs.length + ws.length ≤ 1000000)
    (h : ∀ a s', s'.heap.IsList a (vs ++ ws).toArray → s.heap.get? a = none → Kp s s' → Q (.ref a) s') :
    wpAny (model prog w) A (binaryOp .Add (.ref t) (.ref b)) Q E s := by
  obtain ⟨⟨cls, dd, data, sl⟩, ho, hc, n, hd⟩ := id ht
  obtain ⟨⟨cls2, dd2, data2, sl2⟩, ho2, hc2, n2, hd2⟩ := id hb
  simp only at hc hd hc2 hd2
  subst hc hd hc2 hd2
  have e : vs.toArray ++ ws.toArray = (vs ++ ws).toArray := by simp
  refine concat_meets ⟨_, ho, rfl⟩ ⟨_, ho2, rfl⟩ noFill_list_add seq_list_add PySem.F.slot_list_add PySem.F.entry_list_add (PySem.F.args_list_add_2 _ _)
      (list_addW t b vs.toArray ws.toArray n n2 dd dd2 sl sl2 (by rw [List.size_toArray, List.size_toArray]; exact size_line hz)) ⟨ho, ho2, ?_⟩
  rw [e]
  exact h _ _ ⟨_, Heap.get?_push_size _ rfl, rfl, _, rfl⟩ (Heap.get?_none_of_le (Nat.le_refl _)) Kp.push'

theorem op_sub_list {value slice : Expr} {l : Addr} {items : Array Value} {k : Int} {u : Tok} {x : Value} (hl : s.heap.IsList l items) (h0 : 0 ≤ k) (hx : items[k.toNat]? = some x) (hz : items.size ≤ 1000000) (h : Q x s)
    (hs : subscripted slice false (.ref l) (.int k u) = operate [.ref l, .int k u] (getItem (.ref l) (.int k u)) := by with_unfolding_all rfl) :
    wpAny (model prog w) A (subscriptTail value slice (.ref l) (.int k u)) Q E s := by
  have h1 := (Array.getElem?_eq_some_iff.mp hx).1
  exact tail_any hl.typeIs slot_list_getitem.lookup (wpAny_getItem_list hl h0 (by omega) hx h) hs
theorem op_sub_list_neg {value slice : Expr} {l : Addr} {items : Array Value} {k : Int} {u : Tok} {x : Value} (hl : s.heap.IsList l items) (h0 : k < 0) (h1 : -(items.size : Int) ≤ k) (hx : items[(k + items.size).toNat]? = some x) (hz : items.size ≤ 1000000) (h : Q x s)
    (hs : subscripted slice false (.ref l) (.int k u) = operate [.ref l, .int k u] (getItem (.ref l) (.int k u)) := by with_unfolding_all rfl) :
    wpAny (model prog w) A (subscriptTail value slice (.ref l) (.int k u)) Q E s :=
  tail_any hl.typeIs slot_list_getitem.lookup (wpAny_getItem_list_neg hl h0 h1 (by omega) hx h) hs
theorem op_sub_tup {value slice : Expr} {l : Addr} {items : Array Value} {k : Int} {u : Tok} {x : Value} (hl : IsTup s.heap l items) (h0 : 0 ≤ k) (hx : items[k.toNat]? = some x) (hz : items.size ≤ 1000000) (h : Q x s)
    (hs : subscripted slice false (.ref l) (.int k u) = operate [.ref l, .int k u] (getItem (.ref l) (.int k u)) := by with_unfolding_all rfl) :
    wpAny (model prog w) A (subscriptTail value slice (.ref l) (.int k u)) Q E s := by
  have h1 := (Array.getElem?_eq_some_iff.mp hx).1
  refine tail_any hl.typeIs slot_tuple_getitem.lookup (getItem_tuple hl (by omega) (by omega) (j := k.toNat) ?_ hx h) hs
  unfold seqIndex?
  have e : (if k < 0 then k + (items.size : Int) else k) = k := if_neg (by omega)
  simp only [e]
  rw [if_pos (by simp only [Bool.and_eq_true, decide_eq_true_eq]; omega)]
theorem op_tup_from {value lo : Expr} {env : Env} {p pos : Pos} {a : Nat}
    (h : wpAny (model prog w) A (eval value env) (fun o s₁ => wpAny (model prog w) A (eval lo env) (fun v s₂ => ∃ t u vs, o = .ref t ∧ v = .int (a : Int) u ∧ IsTup s₂.heap t (List.toArray vs) ∧ 1 ≤ a ∧ a ≤ vs.length ∧ vs.length ≤ 1000000 ∧
      ∀ r s', IsTup s'.heap r (vs.drop a).toArray → s₂.heap.get? r = none → Kp s₂ s' → Q (.ref r) s') E s₁) E s)
    (hs : ∀ t sl, subscripted (.Slice (some lo) none none p) false (.ref t) (.ref sl) = operate [.ref sl, .ref t] (getItem (.ref t) (.ref sl)) := by intro _ _; with_unfolding_all rfl)
    (hg : ∀ t r, letTemporaryGo value (.ref t) r = pure () := by intro _ _; with_unfolding_all rfl) :
    wpAny (model prog w) A (eval (.Subscript value (.Slice (some lo) none none p) pos) env) Q E s := by
  refine Subscript_ (wpAny_mono h (fun o s₁ h₁ => ?_) fun _ _ x => x)
  refine wpAny_Slice (wpAny_evalPart_some (wpAny_mono h₁ (fun v s₂ h₂ => ?_) fun _ _ x => x))
  refine wpAny_evalPart_none (wpAny_evalPart_none ?_)
  obtain ⟨t, u, vs, rfl, rfl, ht, h1, ha, hz, hQ⟩ := h₂
  have ht' : IsTup (s₂.heap.push { cls := .type "slice", data := .fields #[.int a u, .none, .none] }) t vs.toArray := ht.keeps fun _ _ e => Heap.get?_push_of_some _ e
  refine subscriptTail_ops (s := { s₂ with heap := s₂.heap.push { cls := .type "slice", data := .fields #[.int a u, .none, .none] } }) ht'.typeIs slot_tuple_getitem.lookup
    (getItem_tuple_from ht' (Heap.IsSliceOf.new ..) h1 (by simpa using ha) ?_ (by rw [List.size_toArray]; exact size_line hz)) (hs _ _) (hg _)
  refine hQ _ _ (IsTup.new ..) (Heap.get?_none_of_le (by show s₂.heap.objs.size ≤ (s₂.heap.push _).objs.size; rw [Heap.size_push]; exact Nat.le_succ _)) (Kp.heap fun b o e => Heap.get?_push_of_some _ (Heap.get?_push_of_some _ e))
theorem op_tuple1 {env : Env} {e : Expr} {k : Nat} {pos : Pos} (h : wpAny (model prog w) A (eval e env) (fun v s₁ => ∀ a s', IsTup s'.heap a #[v] → s₁.heap.get? a = none → Kp s₁ s' → Q (.ref a) s') E s)
    (he : starEach [e] env = (false, eval e env) :: starEach [] env := by with_unfolding_all rfl) :
    wpAny (model prog w) A (eval (.Tuple [e] k pos) env) Q E s := by
  refine wpAny_Tuple (wpAny_items_cons (wpAny_mono h (fun v s₁ h₁ => wpAny_items_nil ⟨size_line (by simp), ?_⟩) fun _ _ x => x) he)
  exact h₁ _ _ (IsTup.new ..) (Heap.get?_none_of_le (Nat.le_refl _)) Kp.push'
theorem op_call1 {env : Env} {x : Str} {np pos : Pos} {e : Expr} (h : wpAny (model prog w) A (eval (.Name x np) env) (fun f s₁ => wpAny (model prog w) A (callWith pos f [] (backTo pos (starEach [e] env)) []) Q E s₁) E s) :
    wpAny (model prog w) A (eval (.Call (.Name x np) [e] [] pos) env) Q E s := Call_ h
end
end Mine

namespace Mine
open Sem (wp)
open PySem.Challenge (pw_ae6011_01)

def defAt (i : Nat) : DefRec := match pw_ae6011_01.main.body[i]? with
  | some (.FunctionDef name a b _ _ _ sc _ _ pos) => ⟨name, a, b, sc, pos⟩
  | _ => ⟨Str.empty, ⟨[], [], none, [], [], none, []⟩, [], ⟨.function, [], false, false, []⟩, default⟩
def defs : List DefRec := [defAt 1, defAt 3, defAt 4, defAt 5, defAt 6, defAt 7]

structure FnAt (mg : Str → Option Value) (h : Heap) (d : DefRec) (a : Addr) (cd : Value) : Prop where
  name : mg d.name = some (.ref a)
  obj : ∃ o pm doc, h.get? a = some o ∧ o.data = .func (docDef d.name d.params d.body d.scope pm cd doc)
  code : h.CodeRec cd d.name

structure Glo (mg mb : Str → Option Value) (h : Heap) : Prop where
  g : h.Ns mainGlobals mg
  b : h.Ns builtinsNs mb
  lim : h.NoLimit
  boot : ∀ x : Str, x ≠ "__name__" → mb x = bootBuiltins x
  free : ∀ x ∈ (["len", "sum", "range", "tuple", "list", "max", "min", "sorted", "ValueError"] : List Str), mg x = none
  fn : ∀ d ∈ defs, ∃ a cd, FnAt mg h d a cd

theorem FnAt.keeps {mg : Str → Option Value} {h h' : Heap} {d : DefRec} {a : Addr} {cd : Value} (X : FnAt mg h d a cd) (hk : ∀ b o, h.get? b = some o → h'.get? b = some o) : FnAt mg h' d a cd :=
  ⟨X.name, let ⟨o, pm, doc, e, r⟩ := X.obj; ⟨o, pm, doc, hk _ _ e, r⟩, X.code.keeps hk⟩
theorem Glo.keeps {mg mb : Str → Option Value} {h h' : Heap} (X : Glo mg mb h) (hk : ∀ b o, h.get? b = some o → h'.get? b = some o) : Glo mg mb h' :=
  ⟨X.g.keeps hk, X.b.keeps hk, X.lim.keeps hk, X.boot, X.free, fun d hd => let ⟨a, cd, x⟩ := X.fn d hd; ⟨a, cd, x.keeps hk⟩⟩

section
variable {M : Model} {A : Around} {E : Value → Shared → Prop} {s : Shared} {env : Env} {mg mb : Str → Option Value}

theorem nm_builtin {x : Str} {pos : Pos} {v : Value} {Q : Value → Shared → Prop} (G : Glo mg mb s.heap) (hf : x ∈ (["len", "sum", "range", "tuple", "list", "max", "min", "sorted", "ValueError"] : List Str))
    (hb : bootBuiltins x = some v) (h : Q v s) (hg : env.globals = mainGlobals := by rfl) (hbi : env.builtins = builtinsNs := by rfl) (hk : env.scope.kind = .function := by rfl)
    (hx : env.kindOf x = some .globalImplicit := by rfl) (hd : (x == ("__debug__" : Str)) = false := by decide) (hn : x ≠ "__name__" := by decide) : wpAny M A (eval (.Name x pos) env) Q E s :=
  Name_function_global hk hx (loadGlobal_builtin (hg ▸ G.g) (G.free x hf) (hbi ▸ G.b) ((G.boot x hn).trans hb) h) hd
theorem nm_def {d : DefRec} {a : Addr} {cd : Value} {pos : Pos} {Q : Value → Shared → Prop} (G : Glo mg mb s.heap) (X : FnAt mg s.heap d a cd) (h : Q (.ref a) s)
    (hg : env.globals = mainGlobals := by rfl) (hk : env.scope.kind = .function := by rfl) (hx : env.kindOf d.name = some .globalImplicit := by rfl) (hd : (d.name == ("__debug__" : Str)) = false := by decide) :
    wpAny M A (eval (.Name d.name pos) env) Q E s :=
  Name_function_global hk hx (loadGlobal_global (hg ▸ G.g) X.name h) hd
theorem nm_local {x : Str} {pos : Pos} {m : Str → Option Value} {v : Value} {Q : Value → Shared → Prop} (hn : s.heap.Ns env.locals m) (hv : m x = some v) (h : Q v s)
    (hk : env.scope.kind = .function := by rfl) (hl : env.kindOf x = some .local := by rfl) (hd : (x == ("__debug__" : Str)) = false := by decide) :
    wpAny M A (eval (.Name x pos) env) Q E s := wpAny_Name (wpAny_loadName_local hk hl hn hv h) hd
end


section
variable {prog : Program} {w : World} {A : Around} {E : Value → Shared → Prop} {s : Shared} {env : Env} {mg mb : Str → Option Value} {Q : Value → Shared → Prop}

/-- a call of a built-in function by its name -/
theorem cb1 {x : Str} {id : String} {np pos : Pos} {e : Expr} (G : Glo mg mb s.heap) (hb : bootBuiltins x = some (.builtin id))
    (h : wpAny (model prog w) A (eval e env) (fun v s₁ => wpAny (model prog w) A (call (.builtin id) [v]) Q E s₁) E s)
    (hf : x ∈ (["len", "sum", "range", "tuple", "list", "max", "min", "sorted", "ValueError"] : List Str) := by decide)
    (he : starEach [e] env = (false, eval e env) :: starEach [] env := by with_unfolding_all rfl)
    (hg : env.globals = mainGlobals := by rfl) (hbi : env.builtins = builtinsNs := by rfl) (hk : env.scope.kind = .function := by rfl)
    (hx : env.kindOf x = some .globalImplicit := by rfl) (hd : (x == ("__debug__" : Str)) = false := by decide) (hn : x ≠ "__name__" := by decide) :
    wpAny (model prog w) A (eval (.Call (.Name x np) [e] [] pos) env) Q E s := by
  refine Call_ (nm_builtin G hf hb ?_ hg hbi hk hx hd hn)
  exact callWith_builtin1 (wpAny_items_cons (wpAny_mono h (fun v s₁ h₁ => wpAny_items_nil h₁) fun _ _ x => x) he) he
theorem cb2 {x : Str} {id : String} {np pos : Pos} {e e' : Expr} (G : Glo mg mb s.heap) (hb : bootBuiltins x = some (.builtin id))
    (h : wpAny (model prog w) A (eval e env) (fun v s₁ => wpAny (model prog w) A (eval e' env) (fun v' s₂ => wpAny (model prog w) A (call (.builtin id) [v, v']) Q E s₂) E s₁) E s)
    (hf : x ∈ (["len", "sum", "range", "tuple", "list", "max", "min", "sorted", "ValueError"] : List Str) := by decide)
    (he : starEach [e, e'] env = (false, eval e env) :: starEach [e'] env := by with_unfolding_all rfl)
    (he' : starEach [e'] env = (false, eval e' env) :: starEach [] env := by with_unfolding_all rfl)
    (hg : env.globals = mainGlobals := by rfl) (hbi : env.builtins = builtinsNs := by rfl) (hk : env.scope.kind = .function := by rfl)
    (hx : env.kindOf x = some .globalImplicit := by rfl) (hd : (x == ("__debug__" : Str)) = false := by decide) (hn : x ≠ "__name__" := by decide) :
    wpAny (model prog w) A (eval (.Call (.Name x np) [e, e'] [] pos) env) Q E s := by
  refine Call_ (nm_builtin G hf hb ?_ hg hbi hk hx hd hn)
  exact callWith_builtin1 (wpAny_items_cons (wpAny_mono h (fun v s₁ h₁ => wpAny_items_cons (wpAny_mono h₁ (fun v' s₂ h₂ => wpAny_items_nil h₂) fun _ _ x => x) he') fun _ _ x => x) he) he (by rw [he']; rfl)
/-- a call of a built-in type by its name -/
theorem ct1 {x : Str} {T : String} {np pos : Pos} {e : Expr} (G : Glo mg mb s.heap) (hb : bootBuiltins x = some (.type T))
    (h : wpAny (model prog w) A (eval e env) (fun v s₁ => wpAny (model prog w) A (call (.type T) [v]) Q E s₁) E s)
    (hf : x ∈ (["len", "sum", "range", "tuple", "list", "max", "min", "sorted", "ValueError"] : List Str) := by decide)
    (he : starEach [e] env = (false, eval e env) :: starEach [] env := by with_unfolding_all rfl)
    (hg : env.globals = mainGlobals := by rfl) (hbi : env.builtins = builtinsNs := by rfl) (hk : env.scope.kind = .function := by rfl)
    (hx : env.kindOf x = some .globalImplicit := by rfl) (hd : (x == ("__debug__" : Str)) = false := by decide) (hn : x ≠ "__name__" := by decide) :
    wpAny (model prog w) A (eval (.Call (.Name x np) [e] [] pos) env) Q E s := by
  refine Call_ (nm_builtin G hf hb ?_ hg hbi hk hx hd hn)
  exact PyProof.Rows.callWith_type1 (wpAny_items_cons (wpAny_mono h (fun v s₁ h₁ => wpAny_items_nil h₁) fun _ _ x => x) he) he
theorem ct2 {x : Str} {T : String} {np pos : Pos} {e e' : Expr} (G : Glo mg mb s.heap) (hb : bootBuiltins x = some (.type T))
    (h : wpAny (model prog w) A (eval e env) (fun v s₁ => wpAny (model prog w) A (eval e' env) (fun v' s₂ => wpAny (model prog w) A (call (.type T) [v, v']) Q E s₂) E s₁) E s)
    (hf : x ∈ (["len", "sum", "range", "tuple", "list", "max", "min", "sorted", "ValueError"] : List Str) := by decide)
    (he : starEach [e, e'] env = (false, eval e env) :: starEach [e'] env := by with_unfolding_all rfl)
    (he' : starEach [e'] env = (false, eval e' env) :: starEach [] env := by with_unfolding_all rfl)
    (hg : env.globals = mainGlobals := by rfl) (hbi : env.builtins = builtinsNs := by rfl) (hk : env.scope.kind = .function := by rfl)
    (hx : env.kindOf x = some .globalImplicit := by rfl) (hd : (x == ("__debug__" : Str)) = false := by decide) (hn : x ≠ "__name__" := by decide) :
    wpAny (model prog w) A (eval (.Call (.Name x np) [e, e'] [] pos) env) Q E s := by
  refine Call_ (nm_builtin G hf hb ?_ hg hbi hk hx hd hn)
  exact PyProof.Rows.callWith_type1 (wpAny_items_cons (wpAny_mono h (fun v s₁ h₁ => wpAny_items_cons (wpAny_mono h₁ (fun v' s₂ h₂ => wpAny_items_nil h₂) fun _ _ x => x) he') fun _ _ x => x) he) he (by rw [he']; rfl)
theorem ct0 {x : Str} {T : String} {np pos : Pos} (G : Glo mg mb s.heap) (hb : bootBuiltins x = some (.type T))
    (h : wpAny (model prog w) A (call (.type T) []) Q E s)
    (hf : x ∈ (["len", "sum", "range", "tuple", "list", "max", "min", "sorted", "ValueError"] : List Str) := by decide)
    (hg : env.globals = mainGlobals := by rfl) (hbi : env.builtins = builtinsNs := by rfl) (hk : env.scope.kind = .function := by rfl)
    (hx : env.kindOf x = some .globalImplicit := by rfl) (hd : (x == ("__debug__" : Str)) = false := by decide) (hn : x ≠ "__name__" := by decide) :
    wpAny (model prog w) A (eval (.Call (.Name x np) [] [] pos) env) Q E s := by
  refine Call_ (nm_builtin G hf hb ?_ hg hbi hk hx hd hn)
  exact PyProof.Rows.callWith_type0 h
/-- a call of the text's own def by its name -/
theorem cd1 {d : DefRec} {a : Addr} {cd : Value} {np pos : Pos} {e : Expr} (G : Glo mg mb s.heap) (X : FnAt mg s.heap d a cd)
    (h : wpAny (model prog w) A (eval e env) (fun v s₁ => (∀ {b : Addr} {o : Obj}, s.heap.get? b = some o → s₁.heap.get? b = some o) ∧ wpAny (model prog w) A (call (.ref a) [v]) Q E s₁) E s)
    (he : starEach [e] env = (false, eval e env) :: starEach [] env := by with_unfolding_all rfl)
    (hg : env.globals = mainGlobals := by rfl) (hk : env.scope.kind = .function := by rfl) (hx : env.kindOf d.name = some .globalImplicit := by rfl) (hd : (d.name == ("__debug__" : Str)) = false := by decide) :
    wpAny (model prog w) A (eval (.Call (.Name d.name np) [e] [] pos) env) Q E s := by
  refine Call_ (nm_def G X ?_ hg hk hx hd)
  obtain ⟨o, pm, doc, ho, hdat⟩ := X.obj
  exact callWith_def hdat (wpAny_items_cons (wpAny_mono h (fun v s₁ h₁ => wpAny_items_nil ⟨h₁.1 ho, h₁.2⟩) fun _ _ x => x) he) he
theorem cd2 {d : DefRec} {a : Addr} {cd : Value} {np pos : Pos} {e e' : Expr} (G : Glo mg mb s.heap) (X : FnAt mg s.heap d a cd)
    (h : wpAny (model prog w) A (eval e env) (fun v s₁ => wpAny (model prog w) A (eval e' env) (fun v' s₂ => (∀ {b : Addr} {o : Obj}, s.heap.get? b = some o → s₂.heap.get? b = some o) ∧ wpAny (model prog w) A (call (.ref a) [v, v']) Q E s₂) E s₁) E s)
    (he : starEach [e, e'] env = (false, eval e env) :: starEach [e'] env := by with_unfolding_all rfl)
    (he' : starEach [e'] env = (false, eval e' env) :: starEach [] env := by with_unfolding_all rfl)
    (hg : env.globals = mainGlobals := by rfl) (hk : env.scope.kind = .function := by rfl) (hx : env.kindOf d.name = some .globalImplicit := by rfl) (hd : (d.name == ("__debug__" : Str)) = false := by decide) :
    wpAny (model prog w) A (eval (.Call (.Name d.name np) [e, e'] [] pos) env) Q E s := by
  refine Call_ (nm_def G X ?_ hg hk hx hd)
  obtain ⟨o, pm, doc, ho, hdat⟩ := X.obj
  exact callWith_def hdat (wpAny_items_cons (wpAny_mono h (fun v s₁ h₁ => wpAny_items_cons (wpAny_mono h₁ (fun v' s₂ h₂ => wpAny_items_nil ⟨h₂.1 ho, h₂.2⟩) fun _ _ x => x) he') fun _ _ x => x) he) he
end

structure FrOk (fs : List Frame) (d : Nat) : Prop where
  split : splitAtGen fs = none
  guard : fs.any Frame.guarded = false
  marks : ∀ x, marksOver fs x = x
  count : frameCount (fs.map Frame.where_) ≤ d
  units : unitsOf (fs.map Frame.where_) ≤ 3 * d
theorem FrOk.nil : FrOk [] 0 := ⟨rfl, rfl, fun _ => rfl, by simp [frameCount], by simp [unitsOf]⟩
theorem FrOk.cons {fs : List Frame} {d : Nat} (X : FrOk fs d) {k l c p kp} (h1 : Code.weight c ≤ 1) (h2 : Code.cUnits c ≤ 3) : FrOk (.ret k none false l c p kp :: fs) (d + 1) where
  split := by simp [splitAtGen, X.split]
  guard := by simp [Frame.guarded, X.guard]
  marks := fun x => by
    have e := X.marks x
    unfold marksOver at e ⊢
    rw [List.foldr_cons, e]; rfl
  count := by
    have := X.count
    simp only [List.map_cons, Frame.where_, frameCount_cons] at *
    omega
  units := by
    have := X.units
    simp only [List.map_cons, Frame.where_, unitsOf_cons] at *
    omega
theorem OkA.over {k d : Nat} {A : Around} {fs : List Frame} {c : Code} (h : OkA (k + d + 1) A) (X : FrOk fs d) (h1 : c.weight ≤ 1) (h2 : c.cUnits ≤ 3) : OkA k (A.over c fs) where
  handled := by
    show (marksOver fs (A.handled, A.handled)).1 = none
    rw [X.marks]; exact h.handled
  depth := by
    have e1 := X.count
    have e2 := h.depth
    show A.depth + frameCount (fs.map Frame.where_) + c.weight + 2 * k ≤ 900
    omega
  units := by
    have e1 := X.units
    have e2 := h.units
    show A.units + unitsOf (fs.map Frame.where_) + c.cUnits + 100 * k ≤ 9000
    omega
end Mine

namespace Mine
set_option maxRecDepth 100000
open Sem (wp)

/-- the rows that fixed_integer_vector_iter tells -/
def rows : List Int → Int → List (List Int)
  | [], n => if n = 0 then [[]] else []
  | b :: bs, n =>
    if n ≤ b + bs.sum then
      (List.range (min b n + 1 - max (b + n - (b + bs.sum)) 0).toNat).flatMap fun (i : Nat) =>
        (rows bs (n - (max (b + n - (b + bs.sum)) 0 + (i : Int)))).map ((max (b + n - (b + bs.sum)) 0 + (i : Int)) :: ·)
    else []
def rowsFrom (bs : List Int) (n j : Int) (k : Nat) : List (List Int) := (List.range k).flatMap fun (i : Nat) => (rows bs (n - (j + (i : Int)))).map ((j + (i : Int)) :: ·)
theorem rowsFrom_zero (bs : List Int) (n j : Int) : rowsFrom bs n j 0 = [] := rfl
theorem rowsFrom_succ (bs : List Int) (n j : Int) (k : Nat) : rowsFrom bs n j (k + 1) = (rows bs (n - j)).map (j :: ·) ++ rowsFrom bs n (j + 1) k := by
  unfold rowsFrom
  rw [List.range_succ_eq_map, List.flatMap_cons]
  congr 1
  · simp
  · rw [List.flatMap_map]
    congr 1
    funext i
    have e : j + ((i.succ : Nat) : Int) = j + 1 + (i : Int) := by omega
    rw [e]
theorem rows_cons (b : Int) (bs : List Int) (n : Int) (h : n ≤ b + bs.sum) : rows (b :: bs) n = rowsFrom bs n (max (b + n - (b + bs.sum)) 0) (min b n + 1 - max (b + n - (b + bs.sum)) 0).toNat := by
  rw [rows, if_pos h]; rfl
theorem rows_over (b : Int) (bs : List Int) (n : Int) (h : ¬ n ≤ b + bs.sum) : rows (b :: bs) n = [] := by rw [rows, if_neg h]

theorem weight_for {t : Expr} {i : Value} {b o : List Stmt} {e : Env} : (Code.forLoop t i b o e).weight ≤ 1 := Nat.zero_le 1
theorem units_for {t : Expr} {i : Value} {b o : List Stmt} {e : Env} : (Code.forLoop t i b o e).cUnits ≤ 3 := Nat.zero_le 3
abbrev fivi : DefRec := defAt 1
abbrev genv (L fa : Addr) (cd : Value) : Env := envOf fivi.name fivi.scope L fa cd
/-- what stands while a stretch of the generator runs -/
structure SegSt (H : Heap) (F₀ : Addr → Prop) (G₀ : Nat → Prop) (s₀ : Shared) (L t : Addr) (vs : List Value) (m : Str → Option Value) (s : Shared) : Prop where
  base : ∀ b o, H.get? b = some o → s.heap.get? b = some o
  ns : s.heap.Ns L m
  tup : IsTup s.heap t vs.toArray
  mvd : Mvd F₀ G₀ s₀ s
  FL : F₀ L
  Ft : F₀ t
  HL : H.get? L = none

theorem SegSt.kp {H : Heap} {F₀ : Addr → Prop} {G₀ : Nat → Prop} {s₀ : Shared} {L t : Addr} {vs : List Value} {m : Str → Option Value} {s s' : Shared} (X : SegSt H F₀ G₀ s₀ L t vs m s) (k : Kp s s') : SegSt H F₀ G₀ s₀ L t vs m s' :=
  ⟨fun b o e => k.get (X.base b o e), k.ns X.ns, k.tup X.tup, X.mvd.trans (.of_kp k), X.FL, X.Ft, X.HL⟩
theorem ns_ne_tup {h : Heap} {L t : Addr} {m : Str → Option Value} {its : Array Value} (hn : h.Ns L m) (ht : IsTup h t its) : t ≠ L := by
  rintro rfl
  obtain ⟨o, es, ep, ho, hd, _⟩ := hn
  obtain ⟨o', ho', _, n, hd'⟩ := ht
  rw [ho] at ho'; cases ho'
  rw [hd] at hd'; cases hd'
theorem SegSt.own {H : Heap} {F₀ : Addr → Prop} {G₀ : Nat → Prop} {s₀ : Shared} {L t : Addr} {vs : List Value} {m : Str → Option Value} {s : Shared} (X : SegSt H F₀ G₀ s₀ L t vs m s) {b : Addr} (h : s.heap.get? b = none) : F₀ b ∨ s₀.heap.get? b = none := by
  by_cases hb : F₀ b
  · exact .inl hb
  · refine .inr ?_
    cases e : s₀.heap.get? b with
    | none => rfl
    | some o => rw [X.mvd.heap b o hb e] at h; cases h
theorem SegSt.off {H : Heap} {F₀ : Addr → Prop} {G₀ : Nat → Prop} {s₀ : Shared} {L t R : Addr} {vs : List Value} {m : Str → Option Value} {s : Shared} (X : SegSt H F₀ G₀ s₀ L t vs m s) {x l c : Int} (hR : IsRangeIter s.heap R x l c) {b : Addr} (h : s.heap.get? b = none) :
    b ≠ L ∧ b ≠ t ∧ b ≠ R ∧ H.get? b = none := by
  refine ⟨?_, ?_, ?_, ?_⟩
  · rintro rfl
    obtain ⟨o, _, _, ho, _⟩ := X.ns
    rw [h] at ho; cases ho
  · rintro rfl
    obtain ⟨o, ho, _⟩ := X.tup
    rw [h] at ho; cases ho
  · rintro rfl
    rw [show s.heap.get? _ = _ from hR] at h; cases h
  · cases e : H.get? b with
    | none => rfl
    | some o => rw [X.base b o e] at h; cases h
theorem ns_ne_range {h : Heap} {L R : Addr} {m : Str → Option Value} {x l c : Int} (hn : h.Ns L m) (ht : IsRangeIter h R x l c) : R ≠ L := by
  rintro rfl
  obtain ⟨o, es, ep, ho, hd, _⟩ := hn
  rw [show h.get? _ = _ from ht] at ho; cases ho
  cases hd
theorem ns_ne_gen {h : Heap} {L I : Addr} {g : Nat} {m : Str → Option Value} (hn : h.Ns L m) (ht : h.IsGen I g) : I ≠ L := by
  rintro rfl
  obtain ⟨o, es, ep, ho, hd, _⟩ := hn
  obtain ⟨o', nm, qn, ho', _, hd', _⟩ := ht
  rw [ho] at ho'; cases ho'
  rw [hd] at hd'; cases hd'
theorem SegSt.store {H : Heap} {F₀ : Addr → Prop} {G₀ : Nat → Prop} {s₀ : Shared} {L t : Addr} {vs : List Value} {m m' : Str → Option Value} {s : Shared} (X : SegSt H F₀ G₀ s₀ L t vs m s) {h' : Heap} {tk : Nat}
    (hn : h'.Ns L m') (hs : Heap.SameBut L s.heap h') : SegSt H F₀ G₀ s₀ L t vs m' { s with heap := h', toks := tk } where
  base := fun b o e => (hs.2 b (by rintro rfl; rw [X.HL] at e; cases e)).trans (X.base b o e)
  ns := hn
  tup := X.tup.extBut hs.extBut (ns_ne_tup X.ns X.tup)
  mvd := ⟨fun b o hb e => (hs.2 b (by rintro rfl; exact hb X.FL)).trans (X.mvd.heap b o hb e), X.mvd.gens, X.mvd.gsize, X.mvd.bare, X.mvd.os⟩
  FL := X.FL
  Ft := X.Ft
  HL := X.HL

/-- the inner generator, while it lasts -/
structure Inn (prog : Program) (w : World) (H : Heap) (k : Nat) (F₀ : Addr → Prop) (G₀ : Nat → Prop) (s₀ : Shared) (L t R : Addr) (rs : List (List Int)) (I : Addr) (g : Nat) (F : Addr → Prop) (G : Nat → Prop) (s : Shared) : Prop where
  gen : GenAt prog w H k rs I g F G s
  sep : ∀ b, F b → b ≠ L ∧ b ≠ t ∧ b ≠ R ∧ H.get? b = none
  own : ∀ b, F b → F₀ b ∨ s₀.heap.get? b = none
  ownI : F₀ I ∨ s₀.heap.get? I = none
  ownG : ∀ i, G i ∨ i = g → G₀ i ∨ s₀.gens.size ≤ i

theorem Inn.kp {prog : Program} {w : World} {H : Heap} {k : Nat} {F₀ : Addr → Prop} {G₀ : Nat → Prop} {s₀ : Shared} {L t R : Addr} {rs : List (List Int)} {I : Addr} {g : Nat} {F : Addr → Prop} {G : Nat → Prop} {s s' : Shared}
    (X : Inn prog w H k F₀ G₀ s₀ L t R rs I g F G s) (hb : ∀ b o, H.get? b = some o → s.heap.get? b = some o) (y : Kp s s') : Inn prog w H k F₀ G₀ s₀ L t R rs I g F G s' :=
  ⟨X.gen.keep ⟨fun b o e => y.get (hb b o e), fun _ _ _ e => y.get e, fun i _ => by rw [y.gens]⟩ (fun _ e => y.get e) (by rw [y.gens]), X.sep, X.own, X.ownI, X.ownG⟩
theorem Inn.store {prog : Program} {w : World} {H : Heap} {k : Nat} {F₀ : Addr → Prop} {G₀ : Nat → Prop} {s₀ : Shared} {L t R : Addr} {rs : List (List Int)} {I : Addr} {g : Nat} {F : Addr → Prop} {G : Nat → Prop} {s : Shared} {m : Str → Option Value} {h' : Heap} {tk : Nat}
    (X : Inn prog w H k F₀ G₀ s₀ L t R rs I g F G s) (hn : s.heap.Ns L m) (hs : Heap.SameBut L s.heap h') (hb : ∀ b o, H.get? b = some o → h'.get? b = some o) : Inn prog w H k F₀ G₀ s₀ L t R rs I g F G { s with heap := h', toks := tk } :=
  ⟨X.gen.keep ⟨hb, fun b hF o e => (hs.2 b (X.sep b hF).1).trans e, fun i _ => rfl⟩ (fun o e => (hs.2 I (ns_ne_gen hn X.gen.1)).trans e) rfl, X.sep, X.own, X.ownI, X.ownG⟩

section
variable {prog : Program} {w : World} {H : Heap} {mg mb : Str → Option Value}

theorem upd_same {m : Str → Option Value} {x : Str} {v : Value} : (fun y => if y = x then some v else m y) x = some v := if_pos rfl
theorem upd_ne {m : Str → Option Value} {x y : Str} {v o : Value} (h : y ≠ x) (hm : m y = some o) : (fun z => if z = x then some v else m z) y = some o := (if_neg h).trans hm
/-- one turn of the inner loop's text, and so on to its end -/
theorem inner_loop (GH : Glo mg mb H) {k kk d : Nat} (hk : k + d + 3 ≤ kk) {L t R fa : Addr} {cd : Value} {vs : List Value} {j : Int} {jl jk : Int} {rest : List (List Int)} {c₁ : Code}
    {K₁ : Result → Sem Fin} {lv : List Value} {p₁ : Pos} {kp : List Value} {fsO : List Frame} (hfs : FrOk (.ret K₁ none false lv c₁ p₁ kp :: fsO) d)
    {x : Str} {xp : Pos} {e : Expr} {ypos pos : Pos}
    (hst : (Expr.Name x xp, [Stmt.Expr (.Yield (some e) ypos) pos]) = (Expr.Name (Str.ofString "vec") xp, [Stmt.Expr (.Yield (some e) ypos) pos]))
    {P : (Str → Option Value) → Prop} (hP : ∀ m v, P m → P (fun y => if y = Str.ofString "vec" then some v else m y))
    (hev : ∀ (A : Around) (s : Shared) (m : Str → Option Value) (a : Addr) (y : List Int) (Q : Value → Shared → Prop) (E : Value → Shared → Prop), s.heap.Ns L m → P m → m "vec" = some (.ref a) → RowIs s.heap (.ref a) y → y.length ≤ 1000 →
      (∀ r s', RowIs s'.heap (.ref r) (j :: y) → s.heap.get? r = none → Kp s s' → Q (.ref r) s') → wpAny (model prog w) A (eval e (genv L fa cd)) Q E s)
    (hrest : ∀ (A : Around) F₀ G₀ s₀ s m, OkA kk A → SegSt H F₀ G₀ s₀ L t vs m s → IsRangeIter s.heap R jl jk 1 → (F₀ R ∨ s₀.heap.get? R = none) → P m →
      SegP (model prog w) A c₁ (K₁ (.ok .next)) fsO s (Ends prog w H kk rest F₀ G₀ s₀)) :
    ∀ (xs : List (List Int)) (A : Around) F₀ G₀ s₀ s m I g F G, OkA kk A → (∀ y ∈ xs, y.length ≤ 1000) → SegSt H F₀ G₀ s₀ L t vs m s → IsRangeIter s.heap R jl jk 1 → (F₀ R ∨ s₀.heap.get? R = none) → P m →
      Inn prog w H k F₀ G₀ s₀ L t R xs I g F G s →
      SegP (model prog w) A (.forLoop (.Name x xp) (.ref I) [.Expr (.Yield (some e) ypos) pos] [] (genv L fa cd)) ((model prog w).den (.forLoop (.Name x xp) (.ref I) [.Expr (.Yield (some e) ypos) pos] [] (genv L fa cd)))
        (.ret K₁ none false lv c₁ p₁ kp :: fsO) s (Ends prog w H kk (xs.map (j :: ·) ++ rest) F₀ G₀ s₀) := by
  intro xs
  injection hst with hx hb0
  injection hx with hx1 hx2
  subst hx1
  induction xs with
  | nil =>
    intro A F₀ G₀ s₀ s m I g F G hA hlen S hR hoR hj X
    have hAo : OkA (k + 1) (A.over (.forLoop (.Name (Str.ofString "vec") xp) (.ref I) [.Expr (.Yield (some e) ypos) pos] [] (genv L fa cd)) (.ret K₁ none false lv c₁ p₁ kp :: fsO)) :=
      OkA.over (hA.mono (by omega)) hfs weight_for units_for
    have hlim : s.heap.NoLimit := GH.lim.keeps S.base
    refine segp_forLoop (X.gen.done hAo hlim S.base fun s' hm => ?_)
    have hnF : ∀ b, (b = L ∨ b = t ∨ b = R ∨ ∃ o, H.get? b = some o) → ¬ F b := by
      rintro b hb hF
      have := X.sep b hF
      rcases hb with rfl | rfl | rfl | ⟨o, hb⟩
      · exact this.1 rfl
      · exact this.2.1 rfl
      · exact this.2.2.1 rfl
      · rw [this.2.2.2] at hb; cases hb
    have S' : SegSt H F₀ G₀ s₀ L t vs m s' := ⟨fun b o e => hm.heap b o (hnF b (.inr (.inr (.inr ⟨o, e⟩)))) (S.base b o e), S.ns.at' fun o e => hm.heap L o (hnF L (.inl rfl)) e,
      (let ⟨o, e, r⟩ := S.tup; ⟨o, hm.heap t o (hnF t (.inr (.inl rfl))) e, r⟩), S.mvd.then hm X.own X.ownG, S.FL, S.Ft, S.HL⟩
    have hR' : IsRangeIter s'.heap R jl jk 1 := hm.heap R _ (hnF R (.inr (.inr (.inl rfl)))) hR
    simp only [List.map_nil, List.nil_append]
    exact segp_ended (hrest A F₀ G₀ s₀ s' m hA S' hR' hoR hj)
  | cons y ys ih =>
    intro A F₀ G₀ s₀ s m I g F G hA hlen S hR hoR hj X
    have hAo : OkA (k + 1) (A.over (.forLoop (.Name (Str.ofString "vec") xp) (.ref I) [.Expr (.Yield (some e) ypos) pos] [] (genv L fa cd)) (.ret K₁ none false lv c₁ p₁ kp :: fsO)) :=
      OkA.over (hA.mono (by omega)) hfs weight_for units_for
    have hlim : s.heap.NoLimit := GH.lim.keeps S.base
    refine segp_forLoop (X.gen.next hAo hlim S.base fun a s₁ F' G' hrow hm hgen hF' hG' => ?_)
    have hnF : ∀ b, (b = L ∨ b = t ∨ b = R ∨ ∃ o, H.get? b = some o) → ¬ F b := by
      rintro b hb hF
      have := X.sep b hF
      rcases hb with rfl | rfl | rfl | ⟨o, hb⟩
      · exact this.1 rfl
      · exact this.2.1 rfl
      · exact this.2.2.1 rfl
      · rw [this.2.2.2] at hb; cases hb
    have S₁ : SegSt H F₀ G₀ s₀ L t vs m s₁ := ⟨fun b o e => hm.heap b o (hnF b (.inr (.inr (.inr ⟨o, e⟩)))) (S.base b o e), S.ns.at' fun o e => hm.heap L o (hnF L (.inl rfl)) e,
      (let ⟨o, e, r⟩ := S.tup; ⟨o, hm.heap t o (hnF t (.inr (.inl rfl))) e, r⟩), S.mvd.then hm X.own X.ownG, S.FL, S.Ft, S.HL⟩
    have hR₁ : IsRangeIter s₁.heap R jl jk 1 := hm.heap R _ (hnF R (.inr (.inr (.inl rfl)))) hR
    have X₁ : Inn prog w H k F₀ G₀ s₀ L t R ys I g F' G' s₁ := ⟨hgen, fun b hb => ?_, fun b hb => ?_, X.ownI, fun i hi => ?_⟩
    rotate_left
    · rcases (hF' b hb).1 with h1 | h1
      · exact X.sep b h1
      · refine ⟨?_, ?_, ?_, ?_⟩
        · rintro rfl
          obtain ⟨o, _, _, ho, _⟩ := S.ns
          rw [h1] at ho; cases ho
        · rintro rfl
          obtain ⟨o, ho, _⟩ := S.tup
          rw [h1] at ho; cases ho
        · rintro rfl
          rw [show s.heap.get? _ = _ from hR] at h1; cases h1
        · cases e' : H.get? b with
          | none => rfl
          | some o => rw [S.base b o e'] at h1; cases h1
    · rcases (hF' b hb).1 with h1 | h1
      · exact X.own b h1
      · by_cases hb0 : F₀ b
        · exact .inl hb0
        · refine .inr ?_
          cases e' : s₀.heap.get? b with
          | none => rfl
          | some o => rw [S.mvd.heap b o hb0 e'] at h1; cases h1
    · rcases hi with hi | rfl
      · rcases hG' i hi with h1 | h1
        · exact X.ownG i (.inl h1)
        · exact .inr (Nat.le_trans S.mvd.gsize h1)
      · exact X.ownG _ (.inr rfl)
    refine wpAny_assign_Name (wpAny_storeName_local (by rfl) S₁.ns (fun h₂ hn₂ hs₂ => ?_) (by rfl))
    have S₂ := S₁.store (tk := s₁.toks + 1) hn₂ hs₂
    have X₂ := X₁.store (tk := s₁.toks + 1) S₁.ns hs₂ S₂.base
    have hR₂ : IsRangeIter h₂ R jl jk 1 := (hs₂.2 R (ns_ne_range S₁.ns hR₁)).trans hR₁
    have hrow₂ : RowIs h₂ (.ref a) y := by
      obtain ⟨a', ws, e1, e2, e3⟩ := hrow
      cases e1
      exact ⟨a, ws, rfl, e2.extBut hs₂.extBut (ns_ne_tup S₁.ns e2), e3⟩
    intro Hd
    refine segp_execs_cons (segp_Yield hfs.split rfl ?_ (by rfl) (by rfl))
    refine hev _ _ _ a y _ _ hn₂ (hP _ _ hj) (by rw [if_pos rfl]) hrow₂ (hlen y List.mem_cons_self) fun r s₃ hrow₃ hdr k₃ => ?_
    have S₃ := S₂.kp k₃
    have X₃ := X₂.kp S₂.base k₃
    have hR₃ : IsRangeIter s₃.heap R jl jk 1 := k₃.get hR₂
    intro l kk' p hkk
    have hdr0 : ∀ b o, s₁.heap.get? b = some o → b ≠ L → b ≠ r := by
      rintro b o hb hbL rfl
      rw [show h₂.get? b = _ from (hs₂.2 b hbL).trans hb] at hdr; cases hdr
    have hrL : L ≠ r := by
      rintro rfl
      obtain ⟨o, _, _, ho, _⟩ := hn₂
      have ho' : h₂.get? L = some o := ho
      rw [show h₂.get? L = none from hdr] at ho'; cases ho'
    have live₃ : ∀ b o, s₁.heap.get? b = some o → b ≠ L → ∃ o', s₃.heap.get? b = some o' := fun b o hb hbL => ⟨o, k₃.get (show h₂.get? b = some o from (hs₂.2 b hbL).trans hb)⟩
    refine ⟨r, l, kk', _, p, _, fun b => b = L ∨ b = t ∨ b = R ∨ b = I ∨ F' b, fun i => G' i ∨ i = g, rfl, hfs.guard, hrow₃, S₃.mvd, fun b hb => ?_, fun i hi => ?_, fun A' s₄ hA' hag => ?_⟩
    · rcases hb with rfl | rfl | rfl | rfl | hb
      · exact ⟨.inl S₃.FL, hrL, let ⟨o, _, _, ho, _⟩ := S₃.ns; ⟨o, ho⟩⟩
      · obtain ⟨o, ho, _⟩ := S₁.tup
        exact ⟨.inl S₃.Ft, hdr0 _ o ho (ns_ne_tup S₁.ns S₁.tup), let ⟨o, ho, _⟩ := S₃.tup; ⟨o, ho⟩⟩
      · exact ⟨hoR, hdr0 _ _ hR₁ (ns_ne_range S₁.ns hR₁), _, hR₃⟩
      · obtain ⟨o, _, _, ho, _⟩ := X₁.gen.1
        exact ⟨X₁.ownI, hdr0 _ o ho (ns_ne_gen S₁.ns X₁.gen.1), let ⟨o, _, _, ho, _⟩ := X₃.gen.1; ⟨o, ho⟩⟩
      · obtain ⟨o, ho⟩ := X₁.gen.2.2.2.1 b hb
        exact ⟨X₁.own b hb, hdr0 b o ho (X₁.sep b hb).1, X₃.gen.2.2.2.1 b hb⟩
    · refine ⟨X₃.ownG i hi, ?_⟩
      rcases hi with hi | rfl
      · exact X₃.gen.2.2.2.2.1 i hi
      · obtain ⟨gs, hgs, _⟩ := X₃.gen.2.2.2.2.2
        exact (Array.getElem?_eq_some_iff.mp hgs).1
    · refine hkk A' _ _ (segp_again rfl ?_)
      have S₄ : SegSt H (fun b => b = L ∨ b = t ∨ b = R ∨ b = I ∨ F' b) (fun i => G' i ∨ i = g) s₄ L t vs (fun y => if y = Str.ofString "vec" then some (.ref a) else m y) s₄ :=
        ⟨hag.base, S₃.ns.at' fun o e => hag.heap L (.inl rfl) o e, (let ⟨o, e, r⟩ := S₃.tup; ⟨o, hag.heap t (.inr (.inl rfl)) o e, r⟩), .refl, .inl rfl, .inr (.inl rfl), S₃.HL⟩
      refine ih A' _ _ s₄ s₄ _ I g F' G' hA' (fun z hz => hlen z (List.mem_cons_of_mem _ hz)) S₄ (hag.heap R (.inr (.inr (.inl rfl))) _ hR₃) (.inl (.inr (.inr (.inl rfl)))) (hP _ _ hj) ?_
      exact ⟨X₃.gen.keep ⟨hag.base, fun b hb o e => hag.heap b (.inr (.inr (.inr (.inr hb)))) o e, fun i hi => hag.gens i (.inl hi)⟩ (fun o e => hag.heap I (.inr (.inr (.inr (.inl rfl)))) o e) (hag.gens g (.inr rfl)),
        X₃.sep, fun b hb => .inl (.inr (.inr (.inr (.inr hb)))), .inl (.inr (.inr (.inr (.inl rfl)))), fun i hi => .inl hi⟩

def kOf (bs : List Int) : Nat := 12 * bs.length + 12

theorem ev_row {A : Around} {E : Value → Shared → Prop} {s : Shared} {Q : Value → Shared → Prop} {L fa a : Addr} {cd : Value} {m : Str → Option Value} {j : Int} {u : Tok} {y : List Int} {p1 p2 p3 p4 : Pos} {kk : Nat}
    (hn : s.heap.Ns L m) (hj : m "j" = some (.int j u)) (hv : m "vec" = some (.ref a)) (hr : RowIs s.heap (.ref a) y) (hz : y.length ≤ 1000)
    (h : ∀ r s', RowIs s'.heap (.ref r) (j :: y) → s.heap.get? r = none → Kp s s' → Q (.ref r) s') :
    wpAny (model prog w) A (eval (.BinOp (.Tuple [.Name (Str.ofString "j") p1] kk p2) .Add (.Name (Str.ofString "vec") p3) p4) (genv L fa cd)) Q E s := by
  refine wpAny_BinOp (op_tuple1 (nm_local (env := genv L fa cd) hn hj fun a₁ s₁ ht₁ hd₁ k₁ => ?_))
  refine nm_local (env := genv L fa cd) (k₁.ns hn) hv ?_
  obtain ⟨a', ws, e1, e2, e3⟩ := hr
  cases e1
  have hl : ws.length = y.length := e3.length
  refine op_add_tup (vs := [.int j u]) ht₁ (k₁.tup e2) (by simp; omega) fun r s₂ ht₂ hd₂ k₂ => h r s₂ ⟨r, _, rfl, ht₂, .cons j u e3⟩ ?_ (k₁.trans k₂)
  rcases hd₂ with h1 | ⟨_, h1⟩ | ⟨rfl, _⟩
  · exact k₁.dead h1
  · cases h1
  · exact hd₁

def forJ : Stmt := match fivi.body with
  | [_, _, _, .If _ [_, _, f] _ _] => f
  | s => .Pass default
def forTarget : Stmt → Expr
  | .For t _ _ _ _ => t
  | _ => .Name Str.empty default
def forIter : Stmt → Expr
  | .For _ i _ _ _ => i
  | _ => .Name Str.empty default
def forBody : Stmt → List Stmt
  | .For _ _ b _ _ => b
  | _ => []

/-- a call of the generator function with the bounds bs makes a generator that will tell their rows -/
def CallTells (prog : Program) (w : World) (H : Heap) (fa : Addr) (bs : List Int) : Prop :=
  ∀ (A : Around) (s : Shared) (t : Addr) (vs : List Value) (n : Int) (u : Tok) (Q : Value → Shared → Prop) (E : Value → Shared → Prop), OkA (kOf bs + 2) A → (∀ b o, H.get? b = some o → s.heap.get? b = some o) →
    IsTup s.heap t vs.toArray → IntsAre vs bs → 0 ≤ n → n ≤ 1000 → H.get? t = none →
    (∀ I g L s', GenAt prog w H (kOf bs) (rows bs n) I g (fun b => b = L ∨ b = t) (fun _ => False) s' → s.heap.get? I = none → s.heap.get? L = none → g = s.gens.size → Mvd (fun _ => False) (fun _ => False) s s' → Q (.ref I) s') →
    wpAny (model prog w) A (call (.ref fa) [.ref t, .int n u]) Q E s

theorem rows_len {bs : List Int} : ∀ {n : Int} {y : List Int}, y ∈ rows bs n → y.length = bs.length := by
  induction bs with
  | nil =>
    intro n y hy
    rw [rows] at hy
    split at hy
    · simp at hy; simp [hy]
    · cases hy
  | cons b bs ih =>
    intro n y hy
    rw [rows] at hy
    split at hy
    · obtain ⟨i, _, hy⟩ := List.mem_flatMap.mp hy
      obtain ⟨z, hz, rfl⟩ := List.mem_map.mp hy
      simp [ih hz]
    · cases hy

theorem outer_loop (GH : Glo mg mb H) {L t fa : Addr} {cd : Value} (X : FnAt mg H fivi fa cd) {b n : Int} {bs : List Int} {kk d : Nat} (hk : kOf bs + d + 6 ≤ kk) {vs : List Value} (hvs : IntsAre vs (b :: bs)) (hlen : bs.length ≤ 100)
    (hn1 : n ≤ 1000) (IH : CallTells prog w H fa bs) (Ht : H.get? t = none) {c₁ : Code}
    {K₁ : Result → Sem Fin} {lv : List Value} {p₁ : Pos} {kp : List Value} {fsO : List Frame} (hfs : FrOk (.ret K₁ none false lv c₁ p₁ kp :: fsO) d) {u : Tok}
    (hend : ∀ (A : Around) F₀ G₀ s₀ s, OkA kk A → Mvd F₀ G₀ s₀ s → SegP (model prog w) A c₁ (K₁ (.ok .next)) fsO s (Ends prog w H kk [] F₀ G₀ s₀)) :
    ∀ (kn : Nat) (A : Around) F₀ G₀ s₀ s m R j, OkA kk A → SegSt H F₀ G₀ s₀ L t vs m s → IsRangeIter s.heap R j kn 1 → (F₀ R ∨ s₀.heap.get? R = none) → H.get? R = none → m "max_vector" = some (.ref t) → m "vector_sum" = some (.int n u) → 0 ≤ j → j + kn ≤ n + 1 →
      SegP (model prog w) A (.forLoop (forTarget forJ) (.ref R) (forBody forJ) [] (genv L fa cd)) ((model prog w).den (.forLoop (forTarget forJ) (.ref R) (forBody forJ) [] (genv L fa cd)))
        (.ret K₁ none false lv c₁ p₁ kp :: fsO) s (Ends prog w H kk (rowsFrom bs n j kn) F₀ G₀ s₀) := by
  intro kn
  induction kn with
  | zero =>
    intro A F₀ G₀ s₀ s m R j hA S hR hoR HR hm1 hm2 hj0 hjn
    have hAo : OkA 0 (A.over (.forLoop (forTarget forJ) (.ref R) (forBody forJ) [] (genv L fa cd)) (.ret K₁ none false lv c₁ p₁ kp :: fsO)) :=
      OkA.over (hA.mono (by omega)) hfs weight_for units_for
    refine segp_forLoop (wpAny_pyNext_range_end hAo.handled hR (by simp) fun h' hx => ?_)
    rw [rowsFrom_zero]
    refine segp_ended (hend A F₀ G₀ s₀ _ hA ⟨fun b o hb e => hx b o ?_ (S.mvd.heap b o hb e), S.mvd.gens, S.mvd.gsize, S.mvd.bare, S.mvd.os⟩)
    rintro rfl
    rcases hoR with h1 | h1
    · exact hb h1
    · rw [h1] at e; cases e
  | succ kn ih =>
    intro A F₀ G₀ s₀ s m R j hA S hR hoR HR hm1 hm2 hj0 hjn
    have hAo : OkA (kOf bs + 3) (A.over (.forLoop (forTarget forJ) (.ref R) (forBody forJ) [] (genv L fa cd)) (.ret K₁ none false lv c₁ p₁ kp :: fsO)) :=
      OkA.over (hA.mono (by omega)) hfs weight_for units_for
    have hRL := ns_ne_range S.ns hR
    have hRt : t ≠ R := by
      rintro rfl
      obtain ⟨o, ho, hc, _⟩ := S.tup
      rw [show s.heap.get? _ = _ from hR] at ho; cases ho
      simp at hc
    refine segp_forLoop (wpAny_pyNext_range_item hR (by omega) fun h₁ hR₁ hs₁ => ?_)
    have S₁ : SegSt H F₀ G₀ s₀ L t vs m { s with heap := h₁, toks := s.toks + 1 } :=
      ⟨fun b o e => hs₁.extBut b o (by rintro rfl; rw [HR] at e; cases e) (S.base b o e), S.ns.sameBut hs₁ hRL.symm, S.tup.extBut hs₁.extBut hRt,
        ⟨fun b o hb e => hs₁.extBut b o (by
          rintro rfl
          rcases hoR with h1 | h1
          · exact hb h1
          · rw [h1] at e; cases e) (S.mvd.heap b o hb e), S.mvd.gens, S.mvd.gsize, S.mvd.bare, S.mvd.os⟩, S.FL, S.Ft, S.HL⟩
    refine wpAny_assign_Name (wpAny_storeName_local (by rfl) S₁.ns (fun h₂ hn₂ hs₂ => ?_) (by rfl))
    have S₂ := S₁.store (tk := s.toks + 1 + 1) hn₂ hs₂
    have hR₂ : IsRangeIter h₂ R (j + 1) ((kn + 1 : Nat) - 1) 1 := (hs₂.2 R hRL).trans hR₁
    intro Hd
    refine segp_execs_cons (segp_For ?_ (by intro _; rfl))
    have hj₂ : (fun y => if y = Str.ofString "j" then some (Value.int j s.toks) else m y) "j" = some (.int j s.toks) := upd_same
    have hv₂ : (fun y => if y = Str.ofString "j" then some (Value.int j s.toks) else m y) "max_vector" = some (.ref t) := upd_ne (by decide) hm1
    have hs₂' : (fun y => if y = Str.ofString "j" then some (Value.int j s.toks) else m y) "vector_sum" = some (.int n u) := upd_ne (by decide) hm2
    generalize (fun y => if y = Str.ofString "j" then some (Value.int j s.toks) else m y) = m₂ at hj₂ hv₂ hs₂' hn₂ S₂
    suffices hh : ∀ s₂ : Shared, SegSt H F₀ G₀ s₀ L t vs m₂ s₂ → IsRangeIter s₂.heap R (j + 1) ((kn + 1 : Nat) - 1) 1 → _ from hh _ S₂ hR₂
    clear S₂ hR₂ hn₂ hs₂ S₁ hs₁ hR₁
    intro s₂ S₂ hR₂
    have G₂ : Glo mg mb s₂.heap := GH.keeps S₂.base
    refine cd2 (d := fivi) G₂ (X.keeps S₂.base) (op_tup_from (a := 1) (nm_local (env := genv L fa cd) S₂.ns hv₂ (wpAny_Constant_int ?_)))
    refine ⟨t, _, vs, rfl, rfl, S₂.tup, Nat.le_refl 1, by rw [hvs.length]; simp, by rw [hvs.length]; simp; omega, fun t' s₃ ht' hdt' k₃ => ?_⟩
    have S₃ := S₂.kp (Kp.tok.trans k₃)
    have hR₃ : IsRangeIter s₃.heap R _ _ 1 := (Kp.tok.trans k₃).get hR₂
    refine wpAny_BinOp (nm_local (env := genv L fa cd) S₃.ns hs₂' (nm_local (env := genv L fa cd) S₃.ns hj₂ ?_))
    refine sub_int ⟨fun e => (Kp.tok.trans k₃).get e, ?_⟩
    have hjl : j ≤ n := by omega
    refine IH _ _ t' (vs.drop 1) (n - j) _ _ _ (hAo.mono (by omega)) (fun b o e => S₃.base b o e) ht' (by cases hvs; assumption) (by omega) (by omega) ?_ fun I g L' s₄ hgen hdI hdL hg hm₄ => ?_
    · exact (S₂.off hR₂ hdt').2.2.2
    have hnf : ∀ b, ¬ (fun _ : Addr => False) b := fun _ h => h
    have S₄ : SegSt H F₀ G₀ s₀ L t vs m₂ s₄ := ⟨fun b o e => hm₄.heap b o (hnf b) (S₃.base b o e), S₃.ns.at' fun o e => hm₄.heap L o (hnf L) e,
      (let ⟨o, e, r⟩ := S₃.tup; ⟨o, hm₄.heap t o (hnf t) e, r⟩), (S₃.kp (Kp.tok (tk := s₃.toks + 1))).mvd.then hm₄ (fun _ (h : False) => h.elim) (fun _ (h : False) => h.elim), S₃.FL, S₃.Ft, S₃.HL⟩
    have hR₄ : IsRangeIter s₄.heap R _ _ 1 := hm₄.heap R _ (hnf R) hR₃
    refine wpAny_pyIter_gen hgen.1 fun p => ?_
    rw [rowsFrom_succ]
    have hfs2 := fun {K₂ : Result → Sem PySem.Fin} {lv₂ : List Value} {p₂ : Pos} {kp₂ : List Value} => FrOk.cons (k := K₂) (l := lv₂) (p := p₂) (kp := kp₂) hfs (weight_for (t := forTarget forJ) (i := .ref R) (b := forBody forJ) (o := []) (e := genv L fa cd)) units_for
    refine inner_loop (P := fun m => m "j" = some (.int j s.toks) ∧ m "max_vector" = some (.ref t) ∧ m "vector_sum" = some (.int n u)) GH (k := kOf bs) (kk := kk) (d := d + 1) (by omega) (hfs := hfs2) (hst := rfl) ?_ ?_ ?_ (rows bs (n - j)) A F₀ G₀ s₀ s₄ m₂ I g (fun b => b = L' ∨ b = t') (fun _ => False) hA (fun y hy => by rw [rows_len hy]; omega) S₄ hR₄ hoR ⟨hj₂, hv₂, hs₂'⟩ ?_
    · rintro m v ⟨h1, h2, h3⟩
      exact ⟨upd_ne (by decide) h1, upd_ne (by decide) h2, upd_ne (by decide) h3⟩
    · rintro A' s' m a y Q E hn ⟨h1, _, _⟩ hv hr hz hQ
      exact ev_row hn h1 hv hr hz hQ
    · rintro A' F' G' s₀' s' m hA' S' hR' hoR' ⟨_, h2, h3⟩
      refine segp_again rfl ?_
      have e1 : ((kn + 1 : Nat) : Int) - 1 = (kn : Int) := by omega
      rw [e1] at hR'
      exact ih A' F' G' s₀' s' m R (j + 1) hA' S' hR' hoR' HR h2 h3 (by omega) (by omega)
    · have hL' := S₃.off hR₃ hdL
      refine ⟨hgen, ?_, ?_, S₃.own hdI, ?_⟩
      · rintro b (rfl | rfl)
        · exact S₃.off hR₃ hdL
        · exact S₂.off hR₂ hdt'
      · rintro b (rfl | rfl)
        · exact S₃.own hdL
        · exact S₂.own hdt'
      · rintro i (h | rfl)
        · exact False.elim h
        · rw [hg]; exact .inr S₃.mvd.gsize
end
end Mine

namespace Mine
set_option maxRecDepth 100000
open Sem (wp)
section
variable {prog : Program} {w : World} {H : Heap} {mg mb : Str → Option Value}

theorem segp_ret {M : Model} {A : Around} {c : Code} {s : Shared} {Φ : End → Shared → Prop} (h : Φ (.ret (.ok (.ret .none))) s) : SegP M A c (.pure (.done (.ret .none))) [] s Φ := segp_end (.ok (.ret .none)) h

theorem weight_func {b : List Stmt} {e : Env} : (Code.func b e).weight ≤ 1 := Nat.le_refl 1
theorem units_func {b : List Stmt} {e : Env} : (Code.func b e).cUnits ≤ 3 := Nat.le_refl 3

/-- the generator's whole body with no bounds left -/
theorem body_nil (GH : Glo mg mb H) {L t fa : Addr} {cd : Value} {n : Int} {u : Tok} (hn0 : 0 ≤ n) {kk : Nat} (hk : 4 ≤ kk) {A : Around} {F₀ : Addr → Prop} {G₀ : Nat → Prop} {s : Shared} {m : Str → Option Value} (hA : OkA kk A) (Ht : H.get? t = none)
    (S : SegSt H F₀ G₀ s L t [] m s) (hm1 : m "max_vector" = some (.ref t)) (hm2 : m "vector_sum" = some (.int n u)) :
    SegP (model prog w) A (.func fivi.body (genv L fa cd)) ((model prog w).den (.func fivi.body (genv L fa cd))) [] s (Ends prog w H kk (rows [] n) F₀ G₀ s) := by
  have hAo : OkA 1 (A.over (.func fivi.body (genv L fa cd)) []) := OkA.over (hA.mono (by omega)) .nil weight_func units_func
  have G : Glo mg mb s.heap := GH.keeps S.base
  refine segp_func fun Hd => ?_
  refine segp_stmt (wpAny_If (wpAny_isTrue_Compare1 (nm_local (env := genv L fa cd) S.ns hm2 (wpAny_Constant_int (lt_int (wpAny_truthy_bool ?_))))))
  rw [decide_eq_false (by omega), if_neg (by decide)]
  refine wpAny_execs_nil ⟨rfl, ?_⟩
  have S₁ := S.kp (Kp.tok (tk := s.toks + 1))
  generalize ({ s with toks := s.toks + 1 } : Shared) = s₁ at S₁
  have G₁ : Glo mg mb s₁.heap := GH.keeps S₁.base
  refine segp_execs_cons (segp_If (wpAny_isTrue_Compare1 (cb1 G₁ boot_len (nm_local (env := genv L fa cd) S₁.ns hm1 (op_len_tup S₁.tup (by simp) fun tk s₂ k₂ => ?_)))))
  refine wpAny_Constant_int (eq_int (wpAny_truthy_bool ?_))
  rw [if_pos (by rfl)]
  have S₂ := (S₁.kp k₂).kp (Kp.tok (tk := s₂.toks + 1))
  generalize ({ s₂ with toks := s₂.toks + 1 } : Shared) = s₃ at S₂
  refine segp_execs_cons (segp_If (wpAny_isTrue_Compare1 (nm_local (env := genv L fa cd) S₂.ns hm2 (wpAny_Constant_int (eq_int (wpAny_truthy_bool ?_))))))
  have S₃ := S₂.kp (Kp.tok (tk := s₃.toks + 1))
  generalize ({ s₃ with toks := s₃.toks + 1 } : Shared) = s₄ at S₃
  have last : ∀ (A' : Around) F' G' s₀' s', Mvd F' G' s₀' s' → SegP (model prog w) A' (.func fivi.body (genv L fa cd)) ((execs [] (genv L fa cd)).wrap (fun f => match f with
      | .next => (execs [Stmt.Return none ⟨8, 8, 8, 14⟩] (genv L fa cd)).wrap (fun f => match f with
        | .next => (execs fivi.body.tail.tail (genv L fa cd)).wrap (fun f => .pure (.done (.ret (match f with | .ret v => v | _ => .none)))) Hd id id
        | f => (.pure (.done (.ret (match f with | .ret v => v | _ => .none))))) Hd id id
      | f => match f with
        | .next => (execs fivi.body.tail.tail (genv L fa cd)).wrap (fun f => .pure (.done (.ret (match f with | .ret v => v | _ => .none)))) Hd id id
        | f => (.pure (.done (.ret (match f with | .ret v => v | _ => .none))))) Hd id id) [] s' (Ends prog w H kk [] F' G' s₀') := by
    intro A' F' G' s₀' s' hm
    refine segp_execs_nil (segp_execs_cons (segp_wrap (wpAny_Return_none ?_)))
    exact segp_ret ⟨rfl, hm⟩
  by_cases hz : n = 0
  · subst hz
    rw [if_pos (by decide)]
    refine segp_execs_cons (segp_Yield rfl rfl (ct0 (GH.keeps S₃.base) PyProof.Rows.Boot.«tuple» (op_tuple0 fun a s₅ ht₅ hd₅ k₅ => ?_)) (by rfl) (by rfl))
    intro l kk' p hkk
    have S₅ := S₃.kp k₅
    refine ⟨a, l, kk', _, p, _, fun b => b = L ∨ b = t, fun _ => False, rfl, rfl, ⟨a, [], rfl, ht₅, .nil⟩, S₅.mvd, fun b hb => ?_, fun i hi => False.elim hi, fun A' s₆ hA' hag => ?_⟩
    · rcases hb with rfl | rfl
      · refine ⟨.inl S₅.FL, ?_, let ⟨o, _, _, ho, _⟩ := S₅.ns; ⟨o, ho⟩⟩
        rintro rfl
        obtain ⟨o, _, _, ho, _⟩ := S₃.ns
        rw [hd₅] at ho; cases ho
      · refine ⟨.inl S₅.Ft, ?_, let ⟨o, ho, _⟩ := S₅.tup; ⟨o, ho⟩⟩
        rintro rfl
        obtain ⟨o, ho, _⟩ := S₃.tup
        rw [hd₅] at ho; cases ho
    · exact hkk A' _ _ (last A' _ _ s₆ s₆ .refl)
  · rw [if_neg (by simpa using hz)]
    have e : rows [] n = [] := by rw [rows, if_neg hz]
    rw [e]
    exact last A F₀ G₀ s s₄ S₃.mvd

theorem sum_nonneg {bs : List Int} (h : ∀ x ∈ bs, 0 ≤ x) : 0 ≤ bs.sum := by
  induction bs with
  | nil => simp
  | cons b bs ih =>
    rw [List.sum_cons]
    have h1 := h b List.mem_cons_self
    have h2 := ih fun x hx => h x (List.mem_cons_of_mem _ hx)
    omega

/-- the generator's whole body with a bound to go -/
theorem body_cons (GH : Glo mg mb H) {L t fa : Addr} {cd : Value} (X : FnAt mg H fivi fa cd) {b n : Int} {bs : List Int} {vs : List Value} (hvs : IntsAre vs (b :: bs)) (hlen : bs.length ≤ 100) (hb : ∀ x ∈ b :: bs, 0 ≤ x ∧ x ≤ 1000)
    {u : Tok} (hn0 : 0 ≤ n) (hn1 : n ≤ 1000) (IH : CallTells prog w H fa bs) {kk : Nat} (hk : kOf bs + 12 ≤ kk) {A : Around} {F₀ : Addr → Prop} {G₀ : Nat → Prop} {s : Shared} {m : Str → Option Value} (hA : OkA kk A) (Ht : H.get? t = none)
    (S : SegSt H F₀ G₀ s L t vs m s) (hm1 : m "max_vector" = some (.ref t)) (hm2 : m "vector_sum" = some (.int n u)) :
    SegP (model prog w) A (.func fivi.body (genv L fa cd)) ((model prog w).den (.func fivi.body (genv L fa cd))) [] s (Ends prog w H kk (rows (b :: bs) n) F₀ G₀ s) := by
  have hAo : OkA 3 (A.over (.func fivi.body (genv L fa cd)) []) := OkA.over (hA.mono (by omega)) .nil weight_func units_func
  have G : Glo mg mb s.heap := GH.keeps S.base
  have hb0 : 0 ≤ b := (hb b List.mem_cons_self).1
  have hs0 : 0 ≤ bs.sum := sum_nonneg fun x hx => (hb x (List.mem_cons_of_mem _ hx)).1
  have hvl : vs.length = bs.length + 1 := by rw [hvs.length]; rfl
  refine segp_func fun Hd => ?_
  refine segp_stmt (wpAny_If (wpAny_isTrue_Compare1 (nm_local (env := genv L fa cd) S.ns hm2 (wpAny_Constant_int (lt_int (wpAny_truthy_bool ?_))))))
  rw [decide_eq_false (by omega), if_neg (by decide)]
  refine wpAny_execs_nil ⟨rfl, ?_⟩
  have S₁ := S.kp (Kp.tok (tk := s.toks + 1))
  generalize ({ s with toks := s.toks + 1 } : Shared) = s₁ at S₁ ⊢
  have G₁ : Glo mg mb s₁.heap := GH.keeps S₁.base
  refine segp_stmt (wpAny_If (wpAny_isTrue_Compare1 (cb1 G₁ boot_len (nm_local (env := genv L fa cd) S₁.ns hm1 (op_len_tup S₁.tup (by simp; omega) fun tk s₂ k₂ => ?_)))))
  refine wpAny_Constant_int (eq_int (wpAny_truthy_bool ?_))
  rw [if_neg (by rw [List.size_toArray, hvl]; simp; omega)]
  refine wpAny_execs_nil ⟨rfl, ?_⟩
  have S₁ := (S₁.kp k₂).kp (Kp.tok (tk := s₂.toks + 1))
  generalize ({ s₂ with toks := s₂.toks + 1 } : Shared) = s₃ at S₁ ⊢
  have G₁ : Glo mg mb s₃.heap := GH.keeps S₁.base
  refine segp_stmt (wpAny_Assign_Name (cb1 G₁ PyProof.Rows.Boot.«sum» (nm_local (env := genv L fa cd) S₁.ns hm1 (op_sum_tup hAo.handled S₁.tup hvs fun tk s₄ k₄ => ?_))))
  have S₂ := S₁.kp k₄
  refine wpAny_storeName_local (by rfl) S₂.ns (fun h₃ hn₃ hs₃ => ⟨rfl, ?_⟩) (by rfl)
  have S₃ := S₂.store (tk := s₄.toks + 1) hn₃ hs₃
  have hm1' : (fun y => if y = Str.ofString "total" then some (Value.int (b :: bs).sum tk) else m y) "max_vector" = some (.ref t) := upd_ne (by decide) hm1
  have hm2' : (fun y => if y = Str.ofString "total" then some (Value.int (b :: bs).sum tk) else m y) "vector_sum" = some (.int n u) := upd_ne (by decide) hm2
  have hm3' : (fun y => if y = Str.ofString "total" then some (Value.int (b :: bs).sum tk) else m y) "total" = some (.int (b :: bs).sum tk) := upd_same
  generalize (fun y => if y = Str.ofString "total" then some (Value.int (b :: bs).sum tk) else m y) = m₁ at hm1' hm2' hm3' S₃
  clear S₂ hn₃ hs₃ S₁ G₁ k₂ k₄
  generalize ({ s₄ with heap := h₃, toks := s₄.toks + 1 } : Shared) = s₅ at S₃ ⊢
  rename SegSt H F₀ G₀ s L t vs m₁ s₅ => S₁
  refine segp_execs_cons (segp_If (wpAny_isTrue_Compare1 (nm_local (env := genv L fa cd) S₁.ns hm2' (nm_local (env := genv L fa cd) S₁.ns hm3' (le_int (wpAny_truthy_bool ?_))))))
  rw [List.sum_cons]
  by_cases hle : n ≤ b + bs.sum
  · rw [if_pos (by simpa using hle), rows_cons b bs n hle]
    rw [List.sum_cons] at hm3'
    have hst : max (b + n - (b + bs.sum)) 0 ≤ n := by omega
    generalize hmx : max (b + n - (b + bs.sum)) 0 = st at hst ⊢
    have hst0 : 0 ≤ st := by omega
    obtain ⟨tb, vs', hvs', hvse⟩ : ∃ tb vs', IntsAre vs' bs ∧ vs = .int b tb :: vs' := by
      cases hvs with
      | cons _ tb h => exact ⟨tb, _, h, rfl⟩
    have hx0 : vs.toArray[(0 : Int).toNat]? = some (.int b tb) := by subst hvse; rfl
    -- start
    refine segp_stmt (wpAny_Assign_Name (cb2 (GH.keeps S₁.base) PyProof.Rows.Boot.«max» (wpAny_BinOp (wpAny_BinOp (Subscript_ (nm_local (env := genv L fa cd) S₁.ns hm1' (wpAny_Constant_int
      (op_sub_tup S₁.tup (Int.le_refl 0) hx0 (by rw [List.size_toArray]; omega) (nm_local (env := genv L fa cd) S₁.ns hm2' (add_int (nm_local (env := genv L fa cd) S₁.ns hm3' (sub_int (wpAny_Constant_int
        (op_max2 hAo.handled fun tk₆ s₆ k₆ => ?_))))))))))))))
    rw [hmx]
    have S₆ := (S₁.kp Kp.tok).kp k₆
    refine wpAny_storeName_local (by rfl) S₆.ns (fun h₇ hn₇ hs₇ => ⟨rfl, ?_⟩) (by rfl)
    have S₇ := S₆.store (tk := s₆.toks + 1) hn₇ hs₇
    have ha1 : (fun y => if y = Str.ofString "start" then some (Value.int st tk₆) else m₁ y) "max_vector" = some (.ref t) := upd_ne (by decide) hm1'
    have ha2 : (fun y => if y = Str.ofString "start" then some (Value.int st tk₆) else m₁ y) "vector_sum" = some (.int n u) := upd_ne (by decide) hm2'
    have ha3 : (fun y => if y = Str.ofString "start" then some (Value.int st tk₆) else m₁ y) "start" = some (.int st tk₆) := upd_same
    generalize (fun y => if y = Str.ofString "start" then some (Value.int st tk₆) else m₁ y) = m₂ at ha1 ha2 ha3 S₇
    clear S₆ hn₇ hs₇ S₁ k₆
    generalize ({ s₆ with heap := h₇, toks := s₆.toks + 1 } : Shared) = s₇ at S₇ ⊢
    -- end
    refine segp_stmt (wpAny_Assign_Name (cb2 (GH.keeps S₇.base) PyProof.Rows.Boot.«min» (Subscript_ (nm_local (env := genv L fa cd) S₇.ns ha1 (wpAny_Constant_int
      (op_sub_tup S₇.tup (Int.le_refl 0) hx0 (by rw [List.size_toArray]; omega) (nm_local (env := genv L fa cd) S₇.ns ha2 (op_min2 hAo.handled fun tk₈ s₈ k₈ => ?_))))))))
    have S₈ := (S₇.kp Kp.tok).kp k₈
    refine wpAny_storeName_local (by rfl) S₈.ns (fun h₉ hn₉ hs₉ => ⟨rfl, ?_⟩) (by rfl)
    have S₉ := S₈.store (tk := s₈.toks + 1) hn₉ hs₉
    have hc1 : (fun y => if y = Str.ofString "end" then some (Value.int (min b n) tk₈) else m₂ y) "max_vector" = some (.ref t) := upd_ne (by decide) ha1
    have hc2 : (fun y => if y = Str.ofString "end" then some (Value.int (min b n) tk₈) else m₂ y) "vector_sum" = some (.int n u) := upd_ne (by decide) ha2
    have hc3 : (fun y => if y = Str.ofString "end" then some (Value.int (min b n) tk₈) else m₂ y) "start" = some (.int st tk₆) := upd_ne (by decide) ha3
    have hc4 : (fun y => if y = Str.ofString "end" then some (Value.int (min b n) tk₈) else m₂ y) "end" = some (.int (min b n) tk₈) := upd_same
    generalize (fun y => if y = Str.ofString "end" then some (Value.int (min b n) tk₈) else m₂ y) = m₃ at hc1 hc2 hc3 hc4 S₉
    clear S₈ hn₉ hs₉ S₇ k₈
    generalize ({ s₈ with heap := h₉, toks := s₈.toks + 1 } : Shared) = s₉ at S₉ ⊢
    -- the loop
    refine segp_execs_cons (segp_For (ct2 (GH.keeps S₉.base) PyProof.Rows.Boot.«range» (nm_local (env := genv L fa cd) S₉.ns hc3 (wpAny_BinOp (nm_local (env := genv L fa cd) S₉.ns hc4 (wpAny_Constant_int (add_int
      (op_range2 fun r u' s₁₀ hr hdr k₁₀ => ?_))))))) (by intro _; rfl))
    refine wpAny_pyIter_range hr (small_one (by omega) (by omega) (by omega) (by omega)) fun p => ?_
    have S₁₀ := (S₉.kp Kp.tok).kp k₁₀
    have hdead : s₁₀.heap.get? s₁₀.heap.objs.size = none := Heap.get?_none_of_le (Nat.le_refl _)
    have hdR := S₁₀.own hdead
    have hHR : H.get? s₁₀.heap.objs.size = none := by
      cases e : H.get? s₁₀.heap.objs.size with
      | none => rfl
      | some o => rw [S₁₀.base _ o e] at hdead; cases hdead
    have hsz : Builtin.Range.rangeSize st (min b n + 1) 1 = ((min b n + 1 - st).toNat : Int) := by rw [rangeSize_one]; split <;> omega
    have hR : IsRangeIter (s₁₀.heap.push { cls := .type "range_iterator", data := .fields #[rawInt st, rawInt (Builtin.Range.rangeSize st (min b n + 1) 1), rawInt 1] }) s₁₀.heap.objs.size st ((min b n + 1 - st).toNat : Int) 1 := by
      rw [hsz]; exact Heap.get?_push_size _ rfl
    have S₁₁ := S₁₀.kp (Kp.push' (o := { cls := .type "range_iterator", data := .fields #[rawInt st, rawInt (Builtin.Range.rangeSize st (min b n + 1) 1), rawInt 1] }))
    refine outer_loop GH X (kk := kk) (d := 1) (by omega) hvs hlen hn1 IH Ht (hfs := FrOk.cons .nil weight_func units_func) (u := u) ?_ (min b n + 1 - st).toNat A F₀ G₀ s _ m₃ _ st hA S₁₁ hR hdR hHR hc1 hc2 hst0 (by omega)
    intro A' F' G' s₀' s' hA' hm
    exact segp_ret ⟨rfl, hm⟩
  · rw [if_neg (by simpa using hle), rows_over b bs n hle]
    exact segp_execs_nil (segp_execs_nil (segp_ret ⟨rfl, S₁.mvd⟩))
end
end Mine

namespace Mine
set_option maxRecDepth 100000
open Sem (wp)
section
variable {prog : Program} {w : World} {H : Heap} {mg mb : Str → Option Value}

theorem call_any (GH : Glo mg mb H) {fa : Addr} {cd : Value} (X : FnAt mg H fivi fa cd) {bs : List Int}
    (body : ∀ (A : Around) (L t : Addr) (vs : List Value) (n : Int) (u : Tok) F₀ G₀ s m, OkA (kOf bs) A → IntsAre vs bs → 0 ≤ n → n ≤ 1000 → H.get? t = none → SegSt H F₀ G₀ s L t vs m s → m "max_vector" = some (.ref t) → m "vector_sum" = some (.int n u) →
      SegP (model prog w) A (.func fivi.body (genv L fa cd)) ((model prog w).den (.func fivi.body (genv L fa cd))) [] s (Ends prog w H (kOf bs) (rows bs n) F₀ G₀ s)) : CallTells prog w H fa bs := by
  intro A s t vs n u Q E hA hb ht hvs hn0 hn1 Ht hQ
  obtain ⟨o, pm, doc, ho, hdat⟩ := X.obj
  refine wpAny_call ?_
  refine codeAny_call_generator hA.room (hb _ _ ho) hdat (by rfl) (by rfl) (by rfl) (X.code.keeps hb) ?_
  refine wpAny_of_eq (a := [(Str.ofString "max_vector", Value.ref t), (Str.ofString "vector_sum", Value.int n u)]) (by rfl) ?_
  have hc : ∀ x ∈ fivi.scope.names, x.2 ≠ .cell := by decide
  have hl1 : fivi.scope.names.lookup (Str.ofString "max_vector") = some .local := by rfl
  have hl2 : fivi.scope.names.lookup (Str.ofString "vector_sum") = some .local := by rfl
  refine wpAny_newFunctionEnv hc (fun x hx => ?_) (fun h₁ hn₁ hs₁ => ?_) (by rfl)
  · rcases List.mem_cons.mp hx with rfl | hx
    · exact hl1
    · rcases List.mem_cons.mp hx with rfl | hx
      · exact hl2
      · cases hx
  have hkeep : ∀ b o, s.heap.get? b = some o → h₁.get? b = some o := fun b o e => hs₁.extBut b o (Nat.ne_of_lt (Heap.lt_size e)) (Heap.get?_push_of_some _ e)
  have hdL : s.heap.get? s.heap.objs.size = none := Heap.get?_none_of_le (Nat.le_refl _)
  refine ⟨(GH.lim.keeps hb).keeps hkeep, ?_⟩
  have hsz1 : h₁.objs.size = s.heap.objs.size + 1 := by rw [hs₁.1, Heap.size_push]
  have hdI : h₁.get? h₁.objs.size = none := Heap.get?_none_of_le (Nat.le_refl _)
  have hdI0 : s.heap.get? h₁.objs.size = none := Heap.get?_none_of_le (by omega)
  refine hQ h₁.objs.size s.gens.size s.heap.objs.size _ ?_ hdI0 hdL rfl ?_
  · have hm1 : List.lookup (Str.ofString "max_vector") ([(Str.ofString "max_vector", Value.ref t), (Str.ofString "vector_sum", Value.int n u)] : List (Str × Value)).reverse = some (.ref t) := by rfl
    have hm2 : List.lookup (Str.ofString "vector_sum") ([(Str.ofString "max_vector", Value.ref t), (Str.ofString "vector_sum", Value.int n u)] : List (Str × Value)).reverse = some (.int n u) := by rfl
    have htL : t ≠ s.heap.objs.size := by
      rintro rfl
      obtain ⟨o, e, _⟩ := ht
      rw [hdL] at e; cases e
    have ht1 : IsTup h₁ t vs.toArray := ht.keeps hkeep
    have hHL : H.get? s.heap.objs.size = none := by
      cases e : H.get? s.heap.objs.size with
      | none => rfl
      | some o => rw [hb _ _ e] at hdL; cases hdL
    refine ⟨⟨_, _, _, Heap.get?_push_size _ rfl, rfl, rfl, rfl⟩, ?_, fun h => h, ?_, fun i hi => False.elim hi, _, Array.getElem?_push_size .., ?_⟩
    · rintro (h | h)
      · have h' : h₁.objs.size = s.heap.objs.size := h
        omega
      · have h' : h₁.objs.size = t := h
        obtain ⟨o, e, _⟩ := ht1
        rw [← h', hdI] at e; cases e
    · rintro b (rfl | rfl)
      · obtain ⟨o, _, _, e, _⟩ := hn₁
        exact ⟨o, Heap.get?_push_of_some _ e⟩
      · obtain ⟨o, e, _⟩ := ht1
        exact ⟨o, Heap.get?_push_of_some _ e⟩
    · intro A' s'' hA' hag
      refine body A' s.heap.objs.size t vs n u _ _ s'' _ hA' hvs hn0 hn1 Ht ⟨hag.base, hn₁.at' fun o e => hag.heap _ (.inl rfl) o (Heap.get?_push_of_some _ e), ?_, .refl, .inl rfl, .inr rfl, hHL⟩ hm1 hm2
      obtain ⟨o, e, r⟩ := ht1
      exact ⟨o, hag.heap _ (.inr rfl) o (Heap.get?_push_of_some _ e), r⟩
  · refine ⟨fun b o _ e => Heap.get?_push_of_some _ (hkeep b o e), fun i x _ e => ?_, ?_, fun h y hy => ?_, rfl⟩
    · show (s.gens.push _)[i]? = some x
      have := (Array.getElem?_eq_some_iff.mp e).1
      rw [Array.getElem?_push]
      rw [if_neg (by omega)]; exact e
    · show s.gens.size ≤ (s.gens.push _).size
      simp
    · rcases Array.mem_push.mp hy with hy | rfl
      · exact h y hy
      · rfl

theorem call_tells (GH : Glo mg mb H) {fa : Addr} {cd : Value} (X : FnAt mg H fivi fa cd) : ∀ bs : List Int, bs.length ≤ 100 → (∀ x ∈ bs, 0 ≤ x ∧ x ≤ 1000) → CallTells prog w H fa bs
  | [], _, _ => call_any GH X fun A L t vs n u F₀ G₀ s m hA hvs hn0 hn1 Ht S hm1 hm2 => by
      cases hvs
      exact body_nil GH hn0 (by decide) hA Ht S hm1 hm2
  | b :: bs, hl, hb => call_any GH X fun A L t vs n u F₀ G₀ s m hA hvs hn0 hn1 Ht S hm1 hm2 =>
      body_cons GH X hvs (by simp at hl; omega) hb hn0 hn1 (call_tells GH X bs (by simp at hl; omega) fun x hx => hb x (List.mem_cons_of_mem _ hx)) (by simp [kOf]; omega) hA Ht S hm1 hm2
end
end Mine

namespace Mine
set_option maxRecDepth 100000
open Sem (wp)

theorem RowIs.keep {h h' : Heap} {v : Value} {r : List Int} (X : RowIs h v r) (hk : ∀ a, v = .ref a → ∀ o, h.get? a = some o → h'.get? a = some o) : RowIs h' v r := by
  obtain ⟨a, vs, rfl, ⟨o, e, r1⟩, r2⟩ := X
  exact ⟨a, vs, rfl, ⟨o, hk a rfl o e, r1⟩, r2⟩
theorem prd_map {α β : Type} {F F' : α → β → Prop} : ∀ {l₁ : List α} {l₂ : List β}, Paired F l₁ l₂ → (∀ a ∈ l₁, ∀ b, F a b → F' a b) → Paired F' l₁ l₂
  | _, _, .nil, _ => .nil
  | _, _, .cons h r, k => .cons (k _ List.mem_cons_self _ h) (prd_map r fun a ha => k a (List.mem_cons_of_mem _ ha))
theorem prd_append {α β : Type} {F : α → β → Prop} : ∀ {l₁ l₁' : List α} {l₂ l₂' : List β}, Paired F l₁ l₂ → Paired F l₁' l₂' → Paired F (l₁ ++ l₁') (l₂ ++ l₂')
  | _, _, _, _, .nil, k => k
  | _, _, _, _, .cons h r, k => .cons h (prd_append r k)
theorem prd_left {α β : Type} {F : α → β → Prop} : ∀ {l₁ : List α} {l₂ : List β}, Paired F l₁ l₂ → ∀ a ∈ l₁, ∃ b, F a b
  | _, _, .nil, _, h => nomatch h
  | _, _, .cons h r, a, ha => by
    rcases List.mem_cons.mp ha with rfl | ha
    · exact ⟨_, h⟩
    · exact prd_left r a ha

section
variable {prog : Program} {w : World} {H : Heap} {mg mb : Str → Option Value} {R : Result → Shared → Prop}

theorem extend_loop (GH : Glo mg mb H) {k : Nat} {I g S : Nat} {res : Value} {A : Around} (hA : OkA (k + 3) A) {F₀ : Addr → Prop} {G₀ : Nat → Prop} {s₀ : Shared} (hS0 : s₀.heap.get? S = none) :
    ∀ (rs : List (List Int)) (s : Shared) (F : Addr → Prop) (G : Nat → Prop) (acc : Array Value) (c : Nat) (done : List (List Int)), GenAt prog w H k rs I g F G s → (∀ b o, H.get? b = some o → s.heap.get? b = some o) → (∀ b, F b → H.get? b = none) →
      s.heap.get? S = some { cls := .type "list", dict := none, data := .seq acc c, slots := #[] } → Paired (RowIs s.heap) acc.toList done → acc.size + rs.length ≤ 100000 → ¬ F S → H.get? S = none → (∀ v ∈ acc.toList, ∀ a, v = .ref a → ¬ F a) →
      (∀ b, F b → F₀ b ∨ s₀.heap.get? b = none) → (∀ i, G i → G₀ i ∨ s₀.gens.size ≤ i) → Mvd F₀ (fun i => G₀ i ∨ i = g) s₀ s →
      (∀ s' acc' c', s'.heap.get? S = some { cls := .type "list", dict := none, data := .seq acc' c', slots := #[] } → Paired (RowIs s'.heap) acc'.toList (done ++ rs) → Mvd F₀ (fun i => G₀ i ∨ i = g) s₀ s' → R (.ok (.ret res)) s') →
      codeAny (model prog w) A (.builtin "list.extend.loop" ⟨[.ref S, .ref I, res], []⟩) R s := by
  have hrowS : ∀ {h : Heap} {acc : Array Value} {c : Nat} {v : Value} {r : List Int}, h.get? S = some { cls := .type "list", dict := none, data := .seq acc c, slots := #[] } → RowIs h v r → ∀ a, v = .ref a → a ≠ S := by
    rintro h acc c v r hS ⟨a', vs, rfl, ⟨o, e, hc, _⟩, _⟩ a ha rfl
    cases ha
    rw [hS] at e; cases e
    simp at hc
  intro rs
  induction rs with
  | nil =>
    intro s F G acc c done X hb hFH hS hP hz hFS hHS hacc hF hG hm hR
    refine codeAny_builtin PySem.F.entry_extend_loop ?_
    rw [Around.under_plainId PySem.F.plain_extend_loop _]
    show wpAny _ A.in1 (pyNext (.ref I) >>= _) _ _ s
    refine wpAny_bind (X.done (hA.mono (by omega) : OkA (k + 2) A).in1 (GH.lim.keeps hb) hb fun s' hm' => ?_)
    refine wpAny_pure (hR s' acc c (hm'.heap S _ hFS hS) ?_ (hm.then hm' hF fun i hi => ?_))
    · rw [List.append_nil]
      exact prd_map hP fun v hv r hr => hr.keep fun a ha o e => hm'.heap a o (hacc v hv a ha) e
    · rcases hi with hi | rfl
      · rcases hG i hi with h | h
        · exact .inl (.inl h)
        · exact .inr h
      · exact .inl (.inr rfl)
  | cons x xs ih =>
    intro s F G acc c done X hb hFH hS hP hz hFS hHS hacc hF hG hm hR
    refine codeAny_builtin PySem.F.entry_extend_loop ?_
    rw [Around.under_plainId PySem.F.plain_extend_loop _]
    show wpAny _ A.in1 (pyNext (.ref I) >>= _) _ _ s
    refine wpAny_bind (X.next (hA.mono (by omega) : OkA (k + 2) A).in1 (GH.lim.keeps hb) hb fun a s' F' G' hrow hm' X' hF' hG' => ?_)
    have hS' := hm'.heap S _ hFS hS
    have hb' : ∀ b o, H.get? b = some o → s'.heap.get? b = some o := fun b o e => hm'.heap b o (fun h => by rw [hFH b h] at e; cases e) (hb b o e)
    have hFS' : ¬ F' S := fun h => by
      rcases (hF' S h).1 with h1 | h1
      · exact hFS h1
      · rw [hS] at h1; cases h1
    have haS : a ≠ S := hrowS hS' hrow a rfl
    have hm2 : Mvd F₀ (fun i => G₀ i ∨ i = g) s₀ s' := hm.then hm' hF fun i hi => by
      rcases hi with hi | rfl
      · rcases hG i hi with h | h
        · exact .inl (.inl h)
        · exact .inr h
      · exact .inl (.inr rfl)
    have hFdead : ∀ b, F' b → F₀ b ∨ s₀.heap.get? b = none := fun b h => by
      rcases (hF' b h).1 with h1 | h1
      · exact hF b h1
      · by_cases hb0 : F₀ b
        · exact .inl hb0
        · refine .inr ?_
          cases e : s₀.heap.get? b with
          | none => rfl
          | some o => rw [hm.heap b o hb0 e] at h1; cases h1
    have hz' : acc.size + (xs.length + 1) ≤ 100000 := by simpa using hz
    show wpAny _ A.in1 (updateSeq S (·.push (.ref a)) >>= _) _ _ _
    refine wpAny_bind (wpAny_updateSeq hS' rfl (wpAny_pure ⟨plainId_quiet PySem.F.plain_extend_loop _, ?_⟩) (size_line (by omega)) (by show (acc.push (.ref a)).size ≤ sizeLine + 1; rw [Array.size_push]; have := size_line (n := acc.size) (by omega); omega))
    have oth : ∀ b o, b ≠ S → s'.heap.get? b = some o → (s'.heap.update S (Obj.mapSeq (·.push (.ref a)))).get? b = some o := fun b o hbS e => (Heap.get?_update_other _ _ (Ne.symm hbS)).trans e
    have hne : ∀ {b : Addr} {o : Obj}, H.get? b = some o → b ≠ S := fun e h => by rw [h, hHS] at e; cases e
    refine ih _ F' G' (acc.push (.ref a)) _ (done ++ [x]) (X'.keep ⟨fun b o e => oth b o (hne e) (hb' b o e), fun b h o e => oth b o (fun h' => hFS' (h' ▸ h)) e, fun _ _ => rfl⟩ (fun o e => oth I o ?_ e) rfl)
      (fun b o e => oth b o (hne e) (hb' b o e)) (fun b h => ?_) (Heap.get?_update_self _ hS' rfl) ?_ (by rw [Array.size_push]; omega) hFS' hHS ?_ hFdead (fun i hi => ?_) ?_ ?_
    · rintro rfl
      obtain ⟨o', _, _, ho', hc', _⟩ := X'.1
      rw [hS'] at ho'; cases ho'
      simp at hc'
    · cases e : H.get? b with
      | none => rfl
      | some o =>
        rcases (hF' b h).1 with h1 | h1
        · rw [hFH b h1] at e; cases e
        · rw [hb b o e] at h1; cases h1
    · rw [Array.toList_push]
      refine prd_append (prd_map hP fun v hv r hr => ?_) (.cons (hrow.keep fun b hb o e => oth b o (by cases hb; exact haS) e) .nil)
      exact hr.keep fun b hb o e => oth b o (hrowS hS hr b hb) (hm'.heap b o (hacc v hv b hb) e)
    · intro v hv b hvb hFb
      rw [Array.toList_push] at hv
      rcases List.mem_append.mp hv with hv | hv
      · obtain ⟨r, hr⟩ := prd_left hP v hv
        obtain ⟨a', vs, e1, ⟨o, e, _⟩, _⟩ := hr
        rw [hvb] at e1; cases e1
        rcases (hF' b hFb).1 with h1 | h1
        · exact hacc v hv b hvb h1
        · rw [e] at h1; cases h1
      · rw [List.mem_singleton.mp hv] at hvb; cases hvb
        exact (hF' a hFb).2 rfl
    · rcases hG' i hi with h | h
      · exact hG i h
      · exact .inr (Nat.le_trans hm.gsize h)
    · exact ⟨fun b o hb0 e => oth b o (fun h => by rw [h, hS0] at e; cases e) (hm2.heap b o hb0 e), hm2.gens, hm2.gsize, hm2.bare, hm2.os⟩
    · intro s'' acc' c' h1 h2 h3
      refine hR s'' acc' c' h1 ?_ h3
      rwa [List.append_assoc, List.singleton_append] at h2

def RowsIs (h : Heap) (v : Value) (rs : List (List Int)) : Prop := ∃ a vs, v = .ref a ∧ h.IsList a (List.toArray vs) ∧ Paired (RowIs h) vs rs

theorem op_list_gen (GH : Glo mg mb H) {k : Nat} {I g : Nat} {A : Around} (hA : OkA (k + 6) A) {F : Addr → Prop} {G : Nat → Prop} {s : Shared} {rs : List (List Int)} {Q : Value → Shared → Prop} {E : Value → Shared → Prop}
    (X : GenAt prog w H k rs I g F G s) (hb : ∀ b o, H.get? b = some o → s.heap.get? b = some o) (hFH : ∀ b, F b → H.get? b = none) (hz : rs.length ≤ 100000)
    (hQ : ∀ D s', RowsIs s'.heap (.ref D) rs → s.heap.get? D = none → Mvd F (fun i => G i ∨ i = g) s s' → Q (.ref D) s') :
    wpAny (model prog w) A (call (.type "list") [.ref I]) Q E s := by
  have hdS : s.heap.get? s.heap.objs.size = none := Heap.get?_none_of_le (Nat.le_refl _)
  have hIS : I ≠ s.heap.objs.size := by
    rintro rfl
    obtain ⟨o, _, _, e, _⟩ := X.1
    rw [hdS] at e; cases e
  refine callType_codes (Q₁ := fun obj s₁ => obj = .ref s.heap.objs.size ∧ s₁ = { s with heap := s.heap.push { cls := .type "list", data := .seq #[] } }) PySem.F.called_list (PySem.F.typeCall_list_1 _) PySem.F.entry_list_init
    (code_list_new _ ⟨rfl, rfl⟩) fun obj s₁ h₁ => ?_
  obtain ⟨rfl, rfl⟩ := h₁
  have hS : (s.heap.push { cls := .type "list", data := .seq #[] }).get? s.heap.objs.size = some { cls := .type "list", data := .seq #[] } := Heap.get?_push_size _ rfl
  refine ⟨⟨_, hS, rfl⟩, PySem.F.args_list_init_2 _ _, ?_⟩
  generalize hD : s.heap.objs.size = D at *
  show wpAny _ A.in1.in1 (do let old ← Builtin.List.listItems (.ref D); Builtin.List.listUpdate (.ref D) (fun _ => #[]); letGo old.toList.reverse; Builtin.List.listExtendWith (.ref D) (.ref I) .none) _ _ _
  refine wpAny_bind ?_
  unfold Builtin.List.listItems
  refine wpAny_bind (wpAny_seqItems hS rfl (wpAny_pure ?_))
  show wpAny _ A.in1.in1 (updateSeq D (fun _ => #[]) >>= fun _ => letGo (#[] : Array Value).toList.reverse >>= fun _ => Builtin.List.listExtendWith (.ref D) (.ref I) .none) _ _ _
  refine wpAny_bind (wpAny_updateSeq hS rfl ?_)
  have hS₂ := Heap.get?_update_self (Obj.mapSeq (fun _ => (#[] : Array Value))) hS rfl
  refine wpAny_bind (wpAny_letGo ?_)
  have oth : ∀ b o, s.heap.get? b = some o → ((s.heap.push { cls := .type "list", data := .seq #[] }).update D (Obj.mapSeq (fun _ => (#[] : Array Value)))).get? b = some o :=
    fun b o e => (Heap.get?_update_other _ _ (by rintro rfl; rw [hdS] at e; cases e)).trans (Heap.get?_push_of_some _ e)
  have K : Kp s { s with heap := (s.heap.push { cls := .type "list", data := .seq #[] }).update D (Obj.mapSeq (fun _ => (#[] : Array Value))) } := Kp.heap oth
  have hS₃ : ∃ c₀, ({ s with heap := (s.heap.push { cls := .type "list", data := .seq #[] }).update D (Obj.mapSeq (fun _ => (#[] : Array Value))) } : Shared).heap.get? D = some { cls := .type "list", data := .seq #[] c₀ } := ⟨_, hS₂⟩
  generalize ({ s with heap := (s.heap.push { cls := .type "list", data := .seq #[] }).update D (Obj.mapSeq (fun _ => (#[] : Array Value))) } : Shared) = s₂ at K hS₃ ⊢
  clear hS hS₂ oth
  obtain ⟨c₀, hS₂⟩ := hS₃
  have hb₂ : ∀ b o, H.get? b = some o → s₂.heap.get? b = some o := fun b o e => K.get (hb b o e)
  have hHD : H.get? D = none := by
    cases e : H.get? D with
    | none => rfl
    | some o => rw [hb _ _ e] at hdS; cases hdS
  have hFD : ¬ F D := fun h => by
    obtain ⟨o, e⟩ := X.2.2.2.1 D h
    rw [hdS] at e; cases e
  have X₂ : GenAt prog w H k rs I g F G s₂ := X.keep ⟨hb₂, fun _ _ _ e => K.get e, fun i _ => by rw [K.gens]⟩ (fun _ e => K.get e) (by rw [K.gens])
  unfold Builtin.List.listExtendWith
  refine wpAny_bind (wpAny_typeOf X₂.1.typeIs ?_)
  have h1 : Builtin.List.listSameRef (.ref D) (.ref I) = false := by simp [Builtin.List.listSameRef, Ne.symm hIS]
  have h2 : (Value.type "generator" == Value.type "list") = false := by decide
  have h3 : (Value.type "generator" == Value.type "tuple") = false := by decide
  simp only [h1, h2, h3, Bool.or_false, Bool.false_eq_true, if_false]
  refine wpAny_bind (wpAny_pyIter_gen X₂.1 ?_)
  refine wpAny_bind (wpAny_holding ?_)
  unfold Builtin.List.listLengthHint
  refine wpAny_bind (wpAny_specialOf X₂.1.typeIs PySem.F.gen_no_len ?_)
  show wpAny _ A.in1.in1 (specialOf (Value.ref I) (Str.ofString "__length_hint__") >>= _) _ _ _
  refine wpAny_bind (wpAny_specialOf X₂.1.typeIs PySem.F.gen_no_hint ?_)
  refine wpAny_pure ?_
  show wpAny _ A.in1.in1 (rule "list.extend.makes-room" >>= fun _ => Builtin.List.listTouch (.ref D) >>= fun _ =>
    again (.builtin "list.extend.loop" ⟨[.ref D, .ref I, .none], []⟩)) _ _ _
  refine wpAny_bind (wpAny_rule ?_)
  refine wpAny_bind ?_
  show wpAny _ A.in1.in1 (updateSeq D (·.push .none) >>= fun _ => updateSeq D (·.pop)) _ _ _
  refine wpAny_bind (wpAny_updateSeq hS₂ rfl ?_)
  have hS₃ := Heap.get?_update_self (Obj.mapSeq (·.push Value.none)) hS₂ rfl
  refine wpAny_updateSeq (hz := by seq_fits) hS₃ rfl ?_
  have hS₄ := Heap.get?_update_self (Obj.mapSeq (·.pop)) hS₃ rfl
  have oth : ∀ b o, b ≠ D → s₂.heap.get? b = some o → ((s₂.heap.update D (Obj.mapSeq (·.push Value.none))).update D (Obj.mapSeq (·.pop))).get? b = some o :=
    fun b o hb e => (Heap.get?_update_other _ _ (Ne.symm hb)).trans ((Heap.get?_update_other _ _ (Ne.symm hb)).trans e)
  have hne : ∀ {b : Addr} {o : Obj}, H.get? b = some o → b ≠ D := fun e h => by rw [h, hHD] at e; cases e
  refine wpAny_pure ⟨plainId_quiet PySem.F.plain_extend_loop _, ?_⟩
  refine extend_loop (R := fun r s' => match r with
      | .ok (.ret r) => r = .none ∧ Q (.ref D) s'
      | .ok _ => False
      | .error e => E e s') GH (k := k) (A := A.in1) (s₀ := s) (F₀ := F) (G₀ := G) (hA.mono (by omega) : OkA (k + 4) A).in1 hdS rs _ F G _ _ [] (X₂.keep ⟨fun b o e => oth b o (hne e) (hb₂ b o e), fun b h o e => oth b o (fun h' => hFD (h' ▸ h)) e, fun _ _ => rfl⟩ (fun o e => oth I o hIS e) rfl)
    (fun b o e => oth b o (hne e) (hb₂ b o e)) hFH hS₄ .nil (by simpa using hz) hFD hHD (fun v hv => by simp at hv) (fun b h => .inl h) (fun i h => .inl h) ?_ ?_
  · have hm : Mvd F (fun i => G i ∨ i = g) s s₂ := .of_kp K
    exact ⟨fun b o hb0 e => oth b o (fun h => by rw [h, hdS] at e; cases e) (hm.heap b o hb0 e), hm.gens, hm.gsize, hm.bare, hm.os⟩
  · intro s' acc' c' h1 h2 h3
    exact ⟨rfl, hQ D s' ⟨D, acc'.toList, rfl, ⟨_, h1, rfl, c', by simp⟩, by simpa using h2⟩ hdS h3⟩
end
end Mine

namespace Mine
set_option maxRecDepth 100000
open Sem (wp)

/-- all that stood before stands as it was -/
abbrev Ext (s s' : Shared) : Prop := Mvd (fun _ => False) (fun _ => False) s s'
theorem Ext.get {s s' : Shared} (x : Ext s s') {b : Addr} {o : Obj} (e : s.heap.get? b = some o) : s'.heap.get? b = some o := x.heap b o (fun h => h) e
theorem ext_get {s s' : Shared} (x : Ext s s') {b : Addr} {o : Obj} (e : s.heap.get? b = some o) : s'.heap.get? b = some o := x.heap b o (fun h => h) e
theorem ext_kp {s s' : Shared} (x : Kp s s') : Ext s s' := .of_kp x
theorem ext_trans {s s' s'' : Shared} (x : Ext s s') (y : Ext s' s'') : Ext s s'' := Mvd.trans x y
theorem ext_then {F : Addr → Prop} {G : Nat → Prop} {s₀ s s' : Shared} (x : Ext s₀ s) (y : Mvd F G s s') (hF : ∀ b, F b → s₀.heap.get? b = none) (hG : ∀ i, G i → s₀.gens.size ≤ i) : Ext s₀ s' :=
  x.then y (fun b h => .inr (hF b h)) fun i h => .inr (hG i h)
theorem ext_dead {s s' : Shared} (x : Ext s s') {a : Addr} (h : s'.heap.get? a = none) : s.heap.get? a = none := by
  cases e : s.heap.get? a with
  | none => rfl
  | some o => rw [ext_get x e] at h; cases h
theorem ext_same {s : Shared} {b : Addr} {h' : Heap} {tk : Nat} {s₀ : Shared} (x : Ext s₀ s) (hb : s₀.heap.get? b = none) (hs : ∀ c o, c ≠ b → s.heap.get? c = some o → h'.get? c = some o) : Ext s₀ { s with heap := h', toks := tk } :=
  ⟨fun c o _ e => hs c o (by rintro rfl; rw [hb] at e; cases e) (ext_get x e), x.gens, x.gsize, x.bare, x.os⟩
theorem ext_list {s s' : Shared} (x : Ext s s') {a : Addr} {its : Array Value} (h : s.heap.IsList a its) : s'.heap.IsList a its := let ⟨o, e, r⟩ := h; ⟨o, ext_get x e, r⟩
theorem ext_tup {s s' : Shared} (x : Ext s s') {a : Addr} {its : Array Value} (h : IsTup s.heap a its) : IsTup s'.heap a its := let ⟨o, e, r⟩ := h; ⟨o, ext_get x e, r⟩
theorem ext_ns {s s' : Shared} (x : Ext s s') {L : Addr} {m : Str → Option Value} (h : s.heap.Ns L m) : s'.heap.Ns L m := h.keeps fun _ _ e => ext_get x e
theorem ext_cell {s s' : Shared} (x : Ext s s') {c : Addr} {v : Option Value} (h : s.heap.IsCell c v) : s'.heap.IsCell c v := h.keeps fun _ _ e => ext_get x e

/-- lists and tuples are kept, D apart -/
def SolBut (D : Addr) (h h' : Heap) : Prop := ∀ b o xs n, b ≠ D → h.get? b = some o → o.data = .seq xs n → h'.get? b = some o
def Sol (h h' : Heap) : Prop := ∀ b o xs n, h.get? b = some o → o.data = .seq xs n → h'.get? b = some o
theorem Sol.but {h h' : Heap} (x : Sol h h') {D : Addr} : SolBut D h h' := fun b o xs n _ e d => x b o xs n e d
theorem sol_ext {s s' : Shared} (x : Ext s s') : Sol s.heap s'.heap := fun _ _ _ _ e _ => ext_get x e
theorem sol_kp {s s' : Shared} (x : Kp s s') : Sol s.heap s'.heap := fun _ _ _ _ e _ => x.get e
theorem sol_trans {h h' h'' : Heap} (x : Sol h h') (y : Sol h' h'') : Sol h h'' := fun b o xs n e d => y b o xs n (x b o xs n e d) d
theorem sol_ns {h h' : Heap} {L : Addr} {m : Str → Option Value} (hn : h.Ns L m) (hs : ∀ b o, b ≠ L → h.get? b = some o → h'.get? b = some o) : Sol h h' := fun b o xs n e d => hs b o (by
  rintro rfl
  obtain ⟨o', es, ep, ho, hd, _⟩ := hn
  rw [ho] at e; cases e
  rw [hd] at d; cases d) e
theorem sol_cell {h h' : Heap} {c : Addr} {v : Option Value} (hn : h.IsCell c v) (hs : ∀ b o, b ≠ c → h.get? b = some o → h'.get? b = some o) : Sol h h' := fun b o xs n e d => hs b o (by
  rintro rfl
  obtain ⟨o', ho, hd⟩ := hn
  rw [ho] at e; cases e
  rw [hd] at d; cases d) e
theorem sol_list {h h' : Heap} (x : Sol h h') {a : Addr} {its : Array Value} (k : h.IsList a its) : h'.IsList a its := let ⟨o, e, hc, n, d⟩ := k; ⟨o, x a o _ _ e d, hc, n, d⟩
theorem sol_tup {h h' : Heap} (x : Sol h h') {a : Addr} {its : Array Value} (k : IsTup h a its) : IsTup h' a its := let ⟨o, e, hc, n, d⟩ := k; ⟨o, x a o _ _ e d, hc, n, d⟩
theorem solb_list {D : Addr} {h h' : Heap} (x : SolBut D h h') {a : Addr} {its : Array Value} (k : h.IsList a its) (hne : a ≠ D) : h'.IsList a its := let ⟨o, e, hc, n, d⟩ := k; ⟨o, x a o _ _ hne e d, hc, n, d⟩
theorem tup_ne_list {h : Heap} {a D : Addr} {its acc : Array Value} (k : IsTup h a its) (hD : h.IsList D acc) : a ≠ D := by
  rintro rfl
  obtain ⟨o, e, hc, _⟩ := k
  obtain ⟨o', e', hc', _⟩ := hD
  rw [e] at e'; cases e'
  rw [hc] at hc'; simp at hc'
theorem solb_tup {D : Addr} {h h' : Heap} {acc : Array Value} (x : SolBut D h h') (hD : h.IsList D acc) {a : Addr} {its : Array Value} (k : IsTup h a its) : IsTup h' a its :=
  have hne := tup_ne_list k hD
  let ⟨o, e, hc, n, d⟩ := k; ⟨o, x a o _ _ hne e d, hc, n, d⟩
theorem sol_row {h h' : Heap} (x : Sol h h') {v : Value} {r : List Int} (k : RowIs h v r) : RowIs h' v r := let ⟨a, vs, e, t, i⟩ := k; ⟨a, vs, e, sol_tup x t, i⟩
theorem solb_row {D : Addr} {h h' : Heap} {acc : Array Value} (x : SolBut D h h') (hD : h.IsList D acc) {v : Value} {r : List Int} (k : RowIs h v r) : RowIs h' v r := let ⟨a, vs, e, t, i⟩ := k; ⟨a, vs, e, solb_tup x hD t, i⟩
theorem row_ne {h : Heap} {D : Addr} {acc : Array Value} {v : Value} {r : List Int} (k : RowIs h v r) (hD : h.IsList D acc) : v ≠ .ref D := by
  obtain ⟨a, vs, rfl, t, _⟩ := k
  intro e; cases e
  exact tup_ne_list t hD rfl
theorem sol_rows {h h' : Heap} (x : Sol h h') {v : Value} {rs : List (List Int)} (k : RowsIs h v rs) : RowsIs h' v rs :=
  let ⟨a, vs, e, l, p⟩ := k; ⟨a, vs, e, sol_list x l, prd_map p fun _ _ _ r => sol_row x r⟩
theorem solb_rows {D : Addr} {h h' : Heap} {acc : Array Value} (x : SolBut D h h') (hD : h.IsList D acc) {v : Value} {rs : List (List Int)} (k : RowsIs h v rs) (hne : v ≠ .ref D) : RowsIs h' v rs := by
  obtain ⟨a, vs, rfl, l, p⟩ := k
  exact ⟨a, vs, rfl, solb_list x l (fun h => hne (by rw [h])), prd_map p fun _ _ _ r => solb_row x hD r⟩
/-- a list of lists of tuples of ints -/
def RowssIs (h : Heap) (v : Value) (rss : List (List (List Int))) : Prop := ∃ a vs, v = .ref a ∧ h.IsList a (List.toArray vs) ∧ Paired (RowsIs h) vs rss
theorem sol_rowss {h h' : Heap} (x : Sol h h') {v : Value} {rs : List (List (List Int))} (k : RowssIs h v rs) : RowssIs h' v rs :=
  let ⟨a, vs, e, l, p⟩ := k; ⟨a, vs, e, sol_list x l, prd_map p fun _ _ _ r => sol_rows x r⟩

/-- the state within a def's body: s₀ is the state at the call -/
structure Bd (s₀ : Shared) (L : Addr) (cs : List (Str × Addr)) (m cm : Str → Option Value) (s : Shared) : Prop where
  ext : Ext s₀ s
  ns : s.heap.Ns L m
  X : Cl L cs s.heap cm
  dL : s₀.heap.get? L = none
  dC : ∀ n c, cs.lookup n = some c → s₀.heap.get? c = none

def Own (L : Addr) (cs : List (Str × Addr)) (b : Addr) : Prop := b = L ∨ ∃ n, cs.lookup n = some b

section
variable {s₀ s s' : Shared} {L : Addr} {cs : List (Str × Addr)} {m m' cm : Str → Option Value}
theorem Bd.ext' (B : Bd s₀ L cs m cm s) (x : Ext s s') : Bd s₀ L cs m cm s' := ⟨ext_trans B.ext x, ext_ns x B.ns, B.X.keeps fun _ _ e => ext_get x e, B.dL, B.dC⟩
theorem Bd.kp (B : Bd s₀ L cs m cm s) (x : Kp s s') : Bd s₀ L cs m cm s' := B.ext' (ext_kp x)
theorem Bd.own_dead (B : Bd s₀ L cs m cm s) {b : Addr} (h : Own L cs b) : s₀.heap.get? b = none := by
  rcases h with rfl | ⟨n, h⟩
  · exact B.dL
  · exact B.dC n b h
theorem Bd.own_live (B : Bd s₀ L cs m cm s) {b : Addr} (h : Own L cs b) : ∃ o, s.heap.get? b = some o ∧ ((∃ es ep, o.data = .dict es ep) ∨ ∃ v, o.data = .cell v) := by
  rcases h with rfl | ⟨n, h⟩
  · obtain ⟨o, es, ep, ho, hd, _⟩ := B.ns
    exact ⟨o, ho, .inl ⟨es, ep, hd⟩⟩
  · obtain ⟨o, ho, hd⟩ := B.X.cell n b h
    exact ⟨o, ho, .inr ⟨_, hd⟩⟩
theorem Bd.not_own (B : Bd s₀ L cs m cm s) {b : Addr} {o : Obj} (ho : s.heap.get? b = some o) (hd : (∃ xs n, o.data = .seq xs n) ∨ ∃ vs, o.data = .fields vs) : ¬ Own L cs b := by
  intro h
  obtain ⟨o', ho', hd'⟩ := B.own_live h
  rw [ho] at ho'; cases ho'
  rcases hd with ⟨xs, n, hd⟩ | ⟨vs, hd⟩ <;> rcases hd' with ⟨es, ep, hd'⟩ | ⟨v, hd'⟩ <;> rw [hd] at hd' <;> cases hd'
/-- a store into a local -/
theorem Bd.stL (B : Bd s₀ L cs m cm s) {h' : Heap} {tk : Nat} (hn : h'.Ns L m') (hs : Heap.SameBut L s.heap h') : Bd s₀ L cs m' cm { s with heap := h', toks := tk } :=
  ⟨ext_same B.ext B.dL fun c o hc e => hs.extBut c o hc e, hn, B.X.sameBut hs (Nat.le_refl _), B.dL, B.dC⟩
theorem mvd_same {F : Addr → Prop} {G : Nat → Prop} {b : Addr} {h' : Heap} {tk : Nat} (hb : F b) (hs : Heap.SameBut b s.heap h') : Mvd F G s { s with heap := h', toks := tk } :=
  ⟨fun c o hc e => hs.extBut c o (by rintro rfl; exact hc hb) e, fun _ _ _ e => e, Nat.le_refl _, fun e => e, rfl⟩
/-- one step of the frame: only the frame's own objects turn (and the Acc) -/
abbrev Stp (L : Addr) (cs : List (Str × Addr)) (Acc : Addr → Prop) (s s' : Shared) : Prop := Mvd (fun b => Own L cs b ∨ Acc b) (fun _ => False) s s'
theorem Stp.of_ext {Acc : Addr → Prop} (x : Ext s s') : Stp L cs Acc s s' := x.mono (fun _ h => False.elim h) fun _ h => h
end

section
variable {prog : Program} {w : World} {A : Around}

theorem for_walk {env : Env} {target iter : Expr} {body : List Stmt} {pos : Pos} {s s₀ : Shared} {Q : Flow → Shared → Prop} {L : Addr} {cs : List (Str × Addr)} {m cm : Str → Option Value} (hh : A.handled = none) (B : Bd s₀ L cs m cm s)
    (Acc : Addr → Prop) (hacc : ∀ b, Acc b → ∃ o, s.heap.get? b = some o) {n : Nat} {P : Nat → Value → Prop} (D : Nat → (Str → Option Value) → (Str → Option Value) → Shared → Prop)
    (hD : ∀ i m cm s s', D i m cm s → Sol s.heap s'.heap → D i m cm s')
    (hiter : wpAny (model prog w) A (eval iter env) (fun xv s₁ => wpAny (model prog w) A (pyIter xv) (fun it s₂ => ∃ I fp St, it = .ref I ∧ (∀ A' : Around, A'.handled = none → Walks prog w A' I fp [I] n P St) ∧ St 0 s₂.heap ∧ Ext s s₂ ∧ s.heap.get? I = none ∧
      (∀ i h, St i h → ∃ o vs, h.get? I = some o ∧ o.data = .fields vs) ∧ (∀ b ∈ fp, b ≠ I → ¬ Own L cs b ∧ ¬ Acc b)) (fun _ _ => False) s₁) (fun _ _ => False) s)
    (h0 : D 0 m cm s)
    (turn : ∀ i v s₁ m₁ cm₁, i < n → P i v → Bd s₀ L cs m₁ cm₁ s₁ → D i m₁ cm₁ s₁ → Stp L cs Acc s s₁ →
      wpAny (model prog w) A (assign target env v) (fun _ s₂ => wpAny (model prog w) A (execs body env) (fun f s₃ => match f with
        | .next => ∃ m₂ cm₂, Bd s₀ L cs m₂ cm₂ s₃ ∧ D (i + 1) m₂ cm₂ s₃ ∧ Stp L cs Acc s₁ s₃
        | .ret v => Q (.ret v) s₃
        | _ => False) (fun _ _ => False) s₂) (fun _ _ => False) s₁)
    (done : ∀ s₁ m₁ cm₁, Bd s₀ L cs m₁ cm₁ s₁ → D n m₁ cm₁ s₁ → Stp L cs Acc s s₁ → Q .next s₁)
    (hs : ∀ x, foldedSetIterable iter env x = pure x := by intro _; rfl) (ht : ∀ it v, letOwnedTupleGo target it v = pure () := by intro _ _; rfl) :
    wpAny (model prog w) A (exec (.For target iter body [] pos) env) Q (fun _ _ => False) s := by
  refine wpAny_For (wpAny_mono hiter (fun xv s₁ h₁ => wpAny_mono h₁ (fun it s₂ h₂ => ?_) fun _ _ x => x.elim) fun _ _ x => x.elim) hs
  obtain ⟨I, fp, St, rfl, W, hst, hx, hdI, hIk, hfp⟩ := h₂
  have hIO : ∀ b, (Own L cs b ∨ Acc b) → b ≠ I := by
    rintro b hb rfl
    rcases hb with hb | hb
    · obtain ⟨o, e, _⟩ := B.own_live hb
      rw [hdI] at e; cases e
    · obtain ⟨o, e⟩ := hacc _ hb
      rw [hdI] at e; cases e
  -- the iterator moves
  have mv : ∀ i (s₃ : Shared) m₁ cm₁ h' tk, Bd s₀ L cs m₁ cm₁ s₃ → D i m₁ cm₁ s₃ → Stp L cs Acc s s₃ → St i s₃.heap → (∀ b o, b ∉ [I] → s₃.heap.get? b = some o → h'.get? b = some o) →
      Bd s₀ L cs m₁ cm₁ { s₃ with heap := h', toks := tk } ∧ D i m₁ cm₁ { s₃ with heap := h', toks := tk } ∧ Stp L cs Acc s { s₃ with heap := h', toks := tk } := by
    intro i s₃ m₁ cm₁ h' tk B₃ D₃ S₃ hst₃ hk
    have hk' : ∀ b o, b ≠ I → s₃.heap.get? b = some o → h'.get? b = some o := fun b o hb e => hk b o (by simpa using hb) e
    have hd0 : s₀.heap.get? I = none := ext_dead B.ext hdI
    refine ⟨⟨ext_same B₃.ext hd0 hk', B₃.ns.at' fun o e => hk' L o (hIO L (.inl (.inl rfl))) e, ⟨fun nn c e => ?_, B₃.X.apart, B₃.X.above⟩, B₃.dL, B₃.dC⟩, hD _ _ _ _ _ D₃ ?_, ⟨fun b o hb e => hk' b o (by rintro rfl; rw [hdI] at e; cases e) (S₃.heap b o hb e), S₃.gens, S₃.gsize, S₃.bare, S₃.os⟩⟩
    · obtain ⟨o, ho, hd⟩ := B₃.X.cell nn c e
      exact ⟨o, hk' c o (hIO c (.inl (.inr ⟨nn, e⟩))) ho, hd⟩
    · intro b o xs k e d
      refine hk' b o ?_ e
      rintro rfl
      obtain ⟨o', vs, e', d'⟩ := hIk i _ hst₃
      rw [e] at e'; cases e'
      rw [d] at d'; cases d'
  refine codeAny_forLoop (fun nn s' => ∃ i m₁ cm₁, Bd s₀ L cs m₁ cm₁ s' ∧ D i m₁ cm₁ s' ∧ Stp L cs Acc s s' ∧ St i s'.heap ∧ i ≤ n ∧ nn = n + 1 - i) ?_ (n + 1)
    ⟨0, m, cm, B.ext' hx, hD _ _ _ _ _ h0 (sol_ext hx), .of_ext hx, hst, Nat.zero_le _, rfl⟩ (ht _)
  rintro nn s₃ ⟨i, m₁, cm₁, B₃, D₃, S₃, hst₃, hi, rfl⟩
  by_cases hlt : i < n
  · refine (W A hh).item i s₃ _ _ hlt hst₃ fun v h' tk hP hst₄ hk => ?_
    obtain ⟨B₄, D₄, S₄⟩ := mv i s₃ m₁ cm₁ h' tk B₃ D₃ S₃ hst₃ hk
    refine wpAny_mono (turn i v _ m₁ cm₁ hlt hP B₄ D₄ S₄) (fun _ s₅ h₅ => wpAny_mono h₅ (fun f s₆ h₆ => ?_) fun _ _ x => x.elim) fun _ _ x => x.elim
    cases f with
    | next =>
      obtain ⟨m₂, cm₂, B₆, D₆, S₆⟩ := h₆
      refine ⟨n + 1 - (i + 1), by omega, i + 1, m₂, cm₂, B₆, D₆, S₄.then S₆ (fun b h => .inl h) (fun i h => False.elim h), (W A hh).frame _ _ _ hst₄ fun b hb o e => ?_, hlt, rfl⟩
      by_cases hbI : b = I
      · subst hbI
        exact S₆.heap b o (fun h => hIO b h rfl) e
      · obtain ⟨h1, h2⟩ := hfp b hb hbI
        exact S₆.heap b o (fun h => h.elim h1 h2) e
    | ret v => exact h₆
    | brk => exact h₆.elim
    | cont => exact h₆.elim
  · have hin : i = n := by omega
    subst hin
    refine (W A hh).done s₃ _ _ hst₃ fun h' tk hk => wpAny_execs_nil ?_
    obtain ⟨B₄, D₄, S₄⟩ := mv i s₃ m₁ cm₁ h' tk B₃ D₃ S₃ hst₃ hk
    exact done _ m₁ cm₁ B₄ D₄ S₄

/-- a loop over a finished list -/
theorem for_list {env : Env} {target iter : Expr} {body : List Stmt} {pos : Pos} {s s₀ : Shared} {Q : Flow → Shared → Prop} {L : Addr} {cs : List (Str × Addr)} {m cm : Str → Option Value} (hh : A.handled = none) (B : Bd s₀ L cs m cm s)
    (Acc : Addr → Prop) (hacc : ∀ b, Acc b → ∃ o, s.heap.get? b = some o) {l : Addr} {vs : List Value} (hl : s.heap.IsList l vs.toArray) (hlA : ¬ Acc l) (D : Nat → (Str → Option Value) → (Str → Option Value) → Shared → Prop)
    (hD : ∀ i m cm s s', D i m cm s → Sol s.heap s'.heap → D i m cm s')
    (hiter : ∀ Q' : Value → Shared → Prop, (∀ s₁, Ext s s₁ → Q' (.ref l) s₁) → wpAny (model prog w) A (eval iter env) Q' (fun _ _ => False) s)
    (h0 : D 0 m cm s)
    (turn : ∀ i v s₁ m₁ cm₁, i < vs.length → vs[i]? = some v → Bd s₀ L cs m₁ cm₁ s₁ → D i m₁ cm₁ s₁ → Stp L cs Acc s s₁ →
      wpAny (model prog w) A (assign target env v) (fun _ s₂ => wpAny (model prog w) A (execs body env) (fun f s₃ => match f with
        | .next => ∃ m₂ cm₂, Bd s₀ L cs m₂ cm₂ s₃ ∧ D (i + 1) m₂ cm₂ s₃ ∧ Stp L cs Acc s₁ s₃
        | .ret v => Q (.ret v) s₃
        | _ => False) (fun _ _ => False) s₂) (fun _ _ => False) s₁)
    (done : ∀ s₁ m₁ cm₁, Bd s₀ L cs m₁ cm₁ s₁ → D vs.length m₁ cm₁ s₁ → Stp L cs Acc s s₁ → Q .next s₁)
    (hs : ∀ x, foldedSetIterable iter env x = pure x := by intro _; rfl) (ht : ∀ it v, letOwnedTupleGo target it v = pure () := by intro _ _; rfl) :
    wpAny (model prog w) A (exec (.For target iter body [] pos) env) Q (fun _ _ => False) s := by
  refine for_walk (n := vs.length) (P := fun i v => vs[i]? = some v) hh B Acc hacc D hD (hiter _ fun s₁ hx => ?_) h0 turn done hs ht
  have hl₁ := ext_list hx hl
  refine wpAny_pyIter_list hl₁ ?_
  have hdI : s₁.heap.get? s₁.heap.objs.size = none := Heap.get?_none_of_le (Nat.le_refl _)
  have hne : l ≠ s₁.heap.objs.size := by
    rintro rfl
    obtain ⟨o, e, _⟩ := hl₁
    rw [hdI] at e; cases e
  have W : ∀ A' : Around, A'.handled = none → Walks prog w A' s₁.heap.objs.size [s₁.heap.objs.size, l] [s₁.heap.objs.size] vs.length (fun i v => vs[i]? = some v) (fun i h => h.IsListIter s₁.heap.objs.size l i ∧ h.IsList l vs.toArray) := fun A' hh' => by
    have := Walks.list (prog := prog) (w := w) hh' s₁.heap.objs.size l hne vs.toArray
    simpa using this
  refine ⟨_, _, _, rfl, W, ⟨⟨_, Heap.get?_push_size _ rfl, rfl, rfl⟩, hl₁.push _⟩, ext_trans hx (ext_kp Kp.push'), ext_dead hx hdI, ?_, ?_⟩
  · rintro i h ⟨⟨o, e, _, d⟩, _⟩
    exact ⟨o, _, e, d⟩
  · intro b hb hbI
    rcases List.mem_cons.mp hb with rfl | hb
    · exact absurd rfl hbI
    · obtain rfl := List.mem_singleton.mp hb
      obtain ⟨o, e, _, n, d⟩ := hl
      exact ⟨B.not_own e (.inl ⟨_, _, d⟩), hlA⟩

/-- a loop over a range by ones -/
theorem for_range {env : Env} {target iter : Expr} {body : List Stmt} {pos : Pos} {s s₀ : Shared} {Q : Flow → Shared → Prop} {L : Addr} {cs : List (Str × Addr)} {m cm : Str → Option Value} (hh : A.handled = none) (B : Bd s₀ L cs m cm s)
    (Acc : Addr → Prop) (hacc : ∀ b, Acc b → ∃ o, s.heap.get? b = some o) {a b : Int} {n : Nat} (hn : n = (b - a).toNat) (ha : -(2 ^ 62) ≤ a) (ha' : a < 2 ^ 62) (hb : -(2 ^ 62) ≤ b) (hb' : b < 2 ^ 62) (D : Nat → (Str → Option Value) → (Str → Option Value) → Shared → Prop)
    (hD : ∀ i m cm s s', D i m cm s → Sol s.heap s'.heap → D i m cm s')
    (hiter : ∀ Q' : Value → Shared → Prop, (∀ r t u v s₁, IsRange s₁.heap r a b 1 t u v → Ext s s₁ → Q' (.ref r) s₁) → wpAny (model prog w) A (eval iter env) Q' (fun _ _ => False) s)
    (h0 : D 0 m cm s)
    (turn : ∀ i t s₁ m₁ cm₁, i < n → Bd s₀ L cs m₁ cm₁ s₁ → D i m₁ cm₁ s₁ → Stp L cs Acc s s₁ →
      wpAny (model prog w) A (assign target env (.int (a + (i : Int)) t)) (fun _ s₂ => wpAny (model prog w) A (execs body env) (fun f s₃ => match f with
        | .next => ∃ m₂ cm₂, Bd s₀ L cs m₂ cm₂ s₃ ∧ D (i + 1) m₂ cm₂ s₃ ∧ Stp L cs Acc s₁ s₃
        | .ret v => Q (.ret v) s₃
        | _ => False) (fun _ _ => False) s₂) (fun _ _ => False) s₁)
    (done : ∀ s₁ m₁ cm₁, Bd s₀ L cs m₁ cm₁ s₁ → D n m₁ cm₁ s₁ → Stp L cs Acc s s₁ → Q .next s₁)
    (hs : ∀ x, foldedSetIterable iter env x = pure x := by intro _; rfl) (ht : ∀ it v, letOwnedTupleGo target it v = pure () := by intro _ _; rfl) :
    wpAny (model prog w) A (exec (.For target iter body [] pos) env) Q (fun _ _ => False) s := by
  refine for_walk (n := n) (P := fun i v => ∃ t, v = .int (a + (i : Int) * 1) t) hh B Acc hacc D hD (hiter _ fun r t u v s₁ hr hx => ?_) h0 (fun i v s₁ m₁ cm₁ hi hP => ?_) done hs ht
  · refine wpAny_pyIter_range hr (small_one ha ha' hb hb') ?_
    have hdI : s₁.heap.get? s₁.heap.objs.size = none := Heap.get?_none_of_le (Nat.le_refl _)
    have hsz : Builtin.Range.rangeSize a b 1 = (n : Int) := by rw [rangeSize_one, hn]; split <;> omega
    refine ⟨_, _, _, rfl, fun A' hh' => Walks.range (prog := prog) (w := w) hh' s₁.heap.objs.size a 1 n, ?_, ext_trans hx (ext_kp Kp.push'), ext_dead hx hdI, ?_, ?_⟩
    · rw [hsz]
      show IsRangeIter _ _ (a + ((0 : Nat) : Int) * 1) ((n : Int) - ((0 : Nat) : Int)) 1
      have e1 : a + ((0 : Nat) : Int) * 1 = a := by omega
      have e2 : (n : Int) - ((0 : Nat) : Int) = n := by omega
      rw [e1, e2]
      exact Heap.get?_push_size _ rfl
    · intro i h e
      exact ⟨_, _, e, rfl⟩
    · intro c hc hcI
      exact absurd (List.mem_singleton.mp hc) hcI
  · obtain ⟨t, rfl⟩ := hP
    rw [Int.mul_one]
    exact turn i t s₁ m₁ cm₁ hi
end
end Mine

namespace Mine
set_option maxRecDepth 100000
open Sem (wp)

section
variable {prog : Program} {w : World} {A : Around} {env : Env}

/-- what a comprehension over a source of n items makes: a new list, its items as Fy says -/
def Made (n : Nat) (Fy : Nat → Value → Shared → Prop) (s₁ : Shared) (D : Addr) (s' : Shared) : Prop :=
  ∃ ys : List Value, s'.heap.PlainList D ys.toArray ∧ ys.length = n ∧ (∀ i y, ys[i]? = some y → Fy i y s' ∧ y ≠ .ref D) ∧ s₁.heap.get? D = none ∧ Ext s₁ s'

theorem comp_core {elt iter : Expr} {x : Str} {px : Pos} {scope : Scope} {cl : List (Str × Addr)} {pos : Pos} {s₁ s₂ : Shared} {I : Addr} {fp : List Addr} {n : Nat} {P : Nat → Value → Prop} {St : Nat → Heap → Prop} (hh : A.handled = none)
    (W : Walks prog w A I fp [I] n P St) (hsz : n ≤ 100000) (Fy : Nat → Value → Shared → Prop)
    (hF : ∀ i y s s' D acc, Fy i y s → s.heap.IsList D acc → y ≠ .ref D → SolBut D s.heap s'.heap → Fy i y s')
    {RR : Value → Addr → Result → Shared → Prop}
    (hcell : ∀ y ∈ scope.names, y.2 ≠ .cell) (hkind : scope.kind = .function) (hx : scope.names.lookup x = some .local) (hst : St 0 s₂.heap) (hE : Ext s₁ s₂) (hdI : s₁.heap.get? I = none) (hI : ∃ o, s₂.heap.get? I = some o)
    (hIk : ∀ i h, St i h → ∃ o vs, h.get? I = some o ∧ o.data = .fields vs) (hfp : ∀ b ∈ fp, ∃ o, s₂.heap.get? b = some o)
    (helt : ∀ i v C D acc s₃ m₃, i < n → P i v → Ext s₁ s₃ → s₁.heap.get? D = none → s₃.heap.IsList D acc → s₃.heap.Ns C m₃ → m₃ x = some v →
      wpAny (model prog w) A (eval elt (compEnvC scope cl C env)) (fun y s₄ => Ext s₃ s₄ ∧ Fy i y s₄ ∧ y ≠ .ref D) (fun _ _ => False) s₃)
    (hRR : ∀ D C m' s', Made n Fy s₁ D s' → s₂.heap.get? D = none → s₂.heap.get? C = none → D ≠ C → s'.heap.Ns C m' → RR (.ref D) C (.ok .next) s') :
    wpAny (model prog w) A (newList []) (fun acc s₃ => wpAny (model prog w) A (newFunctionEnv scope env.globals cl [] env.qual none .none (some env)) (fun cenv s₄ =>
      codeAny (model prog w) A (.compStart (.ListComp elt [⟨.Name x px, iter, [], 0⟩] scope pos) 0 (.ref I) acc { cenv with scope := relabel scope env }) (RR acc cenv.locals) s₄) (fun _ _ => False) s₃) (fun _ _ => False) s₂ := by
  refine wpAny_newObj_type (wpAny_newFunctionEnv hcell (by intro y hy; simp at hy) (fun h₁ hns₁ hsb₁ => ?_) hkind)
  dsimp only at hns₁ hsb₁ ⊢
  generalize hH2 : s₂.heap.push { cls := .type "list", dict := none, data := .seq ([] : List Value).toArray } = H2 at hns₁ hsb₁ ⊢
  have hC : H2.objs.size = s₂.heap.objs.size + 1 := by rw [← hH2, Heap.size_push]
  generalize hDD : s₂.heap.objs.size = D at *
  generalize hCC : H2.objs.size = C at *
  have hDC : D ≠ C := by omega
  have hdD : s₂.heap.get? D = none := Heap.get?_none_of_le (by omega)
  have hdC : s₂.heap.get? C = none := Heap.get?_none_of_le (by omega)
  have old : ∀ b o, s₂.heap.get? b = some o → h₁.get? b = some o := fun b o e => hsb₁.extBut b o (by rintro rfl; rw [hdC] at e; cases e) (Heap.get?_push_of_some _ (hH2 ▸ Heap.get?_push_of_some _ e))
  have hD₁ : h₁.PlainList D #[] := ⟨0, hsb₁.extBut _ _ hDC (Heap.get?_push_of_some _ (by rw [← hH2, ← hDD]; exact Heap.get?_push_size _ rfl))⟩
  have hne : ∀ b, (∃ o, s₂.heap.get? b = some o) → b ≠ D ∧ b ≠ C := by
    rintro b ⟨o, e⟩
    refine ⟨?_, ?_⟩
    · rintro rfl; rw [hdD] at e; cases e
    · rintro rfl; rw [hdC] at e; cases e
  have hID : I ≠ D := (hne I hI).1
  have hIC : I ≠ C := (hne I hI).2
  have hst₁ : St 0 h₁ := W.frame _ _ _ hst fun b _ o e => old b o e
  have hx₁ : Ext s₁ { s₂ with heap := h₁, toks := s₂.toks + ([] : List (Str × Value)).length } := ext_trans hE (ext_kp (Kp.mk' old))
  have hd1D : s₁.heap.get? D = none := ext_dead hE hdD
  have hd1C : s₁.heap.get? C = none := ext_dead hE hdC
  have loop : ∀ s₃ : Shared, s₃ = { s₂ with heap := h₁, toks := s₂.toks + ([] : List (Str × Value)).length } →
      codeAny (model prog w) A (.compLoop (.ListComp elt [⟨.Name x px, iter, [], 0⟩] scope pos) 0 (.ref I) (.ref D) (compEnvC scope cl C env)) (RR (.ref D) C) s₃ := by
    rintro s₃ rfl
    refine codeAny_compLoop_tests (fun nn s' => ∃ (i : Nat) (ys : List Value) (m' : Str → Option Value), Ext s₁ s' ∧ St i s'.heap ∧ s'.heap.PlainList D ys.toArray ∧ s'.heap.Ns C m' ∧ ys.length = i ∧ (∀ j y, ys[j]? = some y → Fy j y s' ∧ y ≠ .ref D) ∧ i ≤ n ∧ nn = n + 1 - i) ?_ (n + 1)
      ⟨0, [], _, hx₁, hst₁, hD₁, hns₁, rfl, fun j y h => by simp at h, Nat.zero_le _, rfl⟩
    rintro nn s₃ ⟨i, ys, m', hx₃, hst₃, hD₃, hn₃, hlen, hys, hi, rfl⟩
    -- the iterator moves
    have mv : ∀ h' tk, (∀ b o, b ∉ [I] → s₃.heap.get? b = some o → h'.get? b = some o) → Ext s₁ { s₃ with heap := h', toks := tk } ∧ h'.PlainList D ys.toArray ∧ h'.Ns C m' ∧ (∀ j y, ys[j]? = some y → Fy j y { s₃ with heap := h', toks := tk } ∧ y ≠ .ref D) := by
      intro h' tk hk
      have hk' : ∀ b o, b ≠ I → s₃.heap.get? b = some o → h'.get? b = some o := fun b o hb e => hk b o (by simpa using hb) e
      refine ⟨ext_same hx₃ hdI hk', hD₃.at fun o e => hk' D o hID.symm e, hn₃.at' fun o e => hk' C o hIC.symm e, fun j y hj => ⟨hF j y _ _ D _ (hys j y hj).1 hD₃.isList (hys j y hj).2 ?_, (hys j y hj).2⟩⟩
      intro b o xs k hb e d
      refine hk' b o ?_ e
      rintro rfl
      obtain ⟨o', vs, e', d'⟩ := hIk i _ hst₃
      rw [e] at e'; cases e'
      rw [d] at d'; cases d'
    by_cases hlt : i < n
    · refine W.item i s₃ _ _ hlt hst₃ fun v h' tk hP hst₄ hk => ?_
      obtain ⟨hx₄, hD₄, hn₄, hys₄⟩ := mv h' tk hk
      refine wpAny_assign_Name (wpAny_storeName_local (lookup_relabel_local hx) hn₄ (fun h₅ hn₅ hs₅ => ?_) (by simp [compEnvC, relabel, hkind]))
      have hC0 : (compEnvC scope cl C env).locals = C := rfl
      rw [hC0] at hn₅ hs₅
      have hx₅ : Ext s₁ { s₃ with heap := h₅, toks := tk + 1 } := ext_same (s := { s₃ with heap := h', toks := tk }) (tk := tk + 1) hx₄ hd1C fun c o hc e => hs₅.extBut c o hc e
      have hD₅ : h₅.PlainList D ys.toArray := hD₄.at fun o e => hs₅.extBut D o hDC e
      have hst₅ : St (i + 1) h₅ := W.frame _ _ _ hst₄ fun b hb o e => hs₅.extBut b o (hne b (hfp b hb)).2 e
      have hsol₅ : Sol h' h₅ := sol_ns hn₄ fun b o hb e => hs₅.extBut b o hb e
      refine wpAny_tests_nil ?_
      rw [if_pos rfl]
      refine wpAny_mono (helt i v C D ys.toArray { s₃ with heap := h₅, toks := tk + 1 } _ hlt hP hx₅ hd1D hD₅.isList hn₅ (by simp)) (fun y s₆ h₆ => ?_) fun _ _ x => x.elim
      obtain ⟨hx₆, hy₆, hyD⟩ := h₆
      have hD₆ : s₆.heap.PlainList D ys.toArray := hD₅.at fun o e => ext_get hx₆ e
      refine wpAny_list_append_plain (hsz := size_line (by rw [List.size_toArray]; omega)) hD₆ fun h₇ hD₇ hs₇ => ?_
      have hsb₇ : SolBut D s₆.heap h₇ := fun b o xs k hb e _ => hs₇.extBut b o hb e
      have keepD : ∀ s, Ext s₁ s → Ext s₁ { s with heap := s.heap } := fun s h => h
      refine ⟨n + 1 - (i + 1), by omega, i + 1, ys ++ [y], _, ext_same (tk := s₆.toks) (ext_trans hx₅ hx₆) hd1D fun c o hc e => hs₇.extBut c o hc e,
        W.frame _ _ _ hst₅ fun b hb o e => hs₇.extBut b o (hne b (hfp b hb)).1 (ext_get hx₆ (show h₅.get? b = some o from e)), ?_, ((ext_ns hx₆ hn₅).at' fun o e => hs₇.extBut C o hDC.symm e), by simp [hlen], fun j z hj => ?_, hlt, rfl⟩
      · have e : (ys ++ [y]).toArray = ys.toArray.push y := by simp
        rw [e]; exact hD₇
      · rcases Nat.lt_or_ge j ys.length with hj' | hj'
        · rw [List.getElem?_append_left hj'] at hj
          obtain ⟨h1, h2⟩ := hys₄ j z hj
          have h3 := hF j z _ { s₃ with heap := h₅, toks := tk + 1 } D _ h1 hD₄.isList h2 hsol₅.but
          have h4 := hF j z _ s₆ D _ h3 hD₅.isList h2 (sol_ext hx₆).but
          exact ⟨hF j z _ _ D _ h4 hD₆.isList h2 hsb₇, h2⟩
        · rw [List.getElem?_append_right hj'] at hj
          have hj0 : j - ys.length = 0 := by
            rcases Nat.eq_zero_or_pos (j - ys.length) with h | h
            · exact h
            · rw [List.getElem?_eq_none (by simp; omega)] at hj; cases hj
          rw [hj0] at hj
          have hjz : y = z := by simpa using hj
          subst hjz
          have hji : j = i := by omega
          subst hji
          exact ⟨hF _ y _ _ D _ hy₆ hD₆.isList hyD hsb₇, hyD⟩
    · have hin : i = n := by omega
      subst hin
      refine W.done s₃ _ _ hst₃ fun h' tk hk => ?_
      obtain ⟨hx₄, hD₄, hn₄, hys₄⟩ := mv h' tk hk
      exact hRR D C m' _ ⟨ys, hD₄, hlen, hys₄, hd1D, hx₄⟩ hdD hdC hDC hn₄
  refine codeAny_compStart_list ?_ ?_
  · exact loop _ rfl
  · exact W.self 0 _ _ _ hst₁ (loop _ rfl)

theorem sol_plain {h h' : Heap} (x : Sol h h') {a : Addr} {its : Array Value} (k : h.PlainList a its) : h'.PlainList a its := let ⟨n, e⟩ := k; ⟨n, x a _ _ _ e rfl⟩
abbrev FStable (Fy : Nat → Value → Shared → Prop) : Prop := ∀ i y s s' D acc, Fy i y s → s.heap.IsList D acc → y ≠ .ref D → SolBut D s.heap s'.heap → Fy i y s'

/-- an iterator over n items, just made -/
def SrcAt (prog : Program) (w : World) (s₁ s₂ : Shared) (I : Addr) (n : Nat) (P : Nat → Value → Prop) : Prop :=
  ∃ fp St, (∀ A' : Around, A'.handled = none → Walks prog w A' I fp [I] n P St) ∧ St 0 s₂.heap ∧ Ext s₁ s₂ ∧ s₁.heap.get? I = none ∧ (∃ o, s₂.heap.get? I = some o) ∧
    (∀ i h, St i h → ∃ o vs, h.get? I = some o ∧ o.data = .fields vs) ∧ ∀ b ∈ fp, ∃ o, s₂.heap.get? b = some o

theorem src_list {s₁ : Shared} {l : Addr} {vs : List Value} {Q : Value → Shared → Prop} {E : Value → Shared → Prop} (hl : s₁.heap.IsList l vs.toArray) (h : ∀ I s₂, SrcAt prog w s₁ s₂ I vs.length (fun i v => vs[i]? = some v) → Q (.ref I) s₂) :
    wpAny (model prog w) A (pyIter (.ref l)) Q E s₁ := by
  refine wpAny_pyIter_list hl (h _ _ ?_)
  have hdI : s₁.heap.get? s₁.heap.objs.size = none := Heap.get?_none_of_le (Nat.le_refl _)
  have hne : l ≠ s₁.heap.objs.size := by
    rintro rfl
    obtain ⟨o, e, _⟩ := hl
    rw [hdI] at e; cases e
  have W : ∀ A' : Around, A'.handled = none → Walks prog w A' s₁.heap.objs.size [s₁.heap.objs.size, l] [s₁.heap.objs.size] vs.length (fun i v => vs[i]? = some v) (fun i h => h.IsListIter s₁.heap.objs.size l i ∧ h.IsList l vs.toArray) := fun A' hh' => by
    have := Walks.list (prog := prog) (w := w) hh' s₁.heap.objs.size l hne vs.toArray
    simpa using this
  refine ⟨_, _, W, ⟨⟨_, Heap.get?_push_size _ rfl, rfl, rfl⟩, hl.push _⟩, ext_kp Kp.push', hdI, ⟨_, Heap.get?_push_size _ rfl⟩, ?_, ?_⟩
  · rintro i h ⟨⟨o, e, _, d⟩, _⟩
    exact ⟨o, _, e, d⟩
  · intro b hb
    rcases List.mem_cons.mp hb with rfl | hb
    · exact ⟨_, Heap.get?_push_size _ rfl⟩
    · obtain rfl := List.mem_singleton.mp hb
      obtain ⟨o, e, _⟩ := hl
      exact ⟨o, Heap.get?_push_of_some _ e⟩
theorem src_range {s₁ : Shared} {r : Addr} {a b : Int} {t u v : Tok} {n : Nat} {Q : Value → Shared → Prop} {E : Value → Shared → Prop} (hr : IsRange s₁.heap r a b 1 t u v) (hn : n = (b - a).toNat) (ha : -(2 ^ 62) ≤ a) (ha' : a < 2 ^ 62) (hb : -(2 ^ 62) ≤ b) (hb' : b < 2 ^ 62)
    (h : ∀ I s₂, SrcAt prog w s₁ s₂ I n (fun i v => ∃ t, v = .int (a + (i : Int)) t) → Q (.ref I) s₂) :
    wpAny (model prog w) A (pyIter (.ref r)) Q E s₁ := by
  refine wpAny_pyIter_range hr (small_one ha ha' hb hb') (h _ _ ?_)
  have hdI : s₁.heap.get? s₁.heap.objs.size = none := Heap.get?_none_of_le (Nat.le_refl _)
  have hsz : Builtin.Range.rangeSize a b 1 = (n : Int) := by rw [rangeSize_one, hn]; split <;> omega
  have W : ∀ A' : Around, A'.handled = none → Walks prog w A' s₁.heap.objs.size [s₁.heap.objs.size] [s₁.heap.objs.size] n (fun i v => ∃ t, v = .int (a + (i : Int)) t) (fun i h => IsRangeIter h s₁.heap.objs.size (a + (i : Nat) * 1) ((n : Int) - (i : Nat)) 1) := fun A' hh' => by
    have := Walks.range (prog := prog) (w := w) hh' s₁.heap.objs.size a 1 n
    simpa using this
  refine ⟨_, _, W, ?_, ext_kp Kp.push', hdI, ⟨_, Heap.get?_push_size _ rfl⟩, ?_, ?_⟩
  · rw [hsz]
    show IsRangeIter _ _ (a + ((0 : Nat) : Int) * 1) ((n : Int) - ((0 : Nat) : Int)) 1
    have e1 : a + ((0 : Nat) : Int) * 1 = a := by omega
    have e2 : (n : Int) - ((0 : Nat) : Int) = n := by omega
    rw [e1, e2]
    exact Heap.get?_push_size _ rfl
  · intro i h e
    exact ⟨_, _, e, rfl⟩
  · intro c hc
    rw [List.mem_singleton.mp hc]
    exact ⟨_, Heap.get?_push_size _ rfl⟩

theorem made_sol {n : Nat} {Fy : Nat → Value → Shared → Prop} (hF : FStable Fy) {s₁ s' : Shared} {D : Addr} (X : Made n Fy s₁ D s') {s'' : Shared} (hs : Sol s'.heap s''.heap) (hx : Ext s₁ s'') : Made n Fy s₁ D s'' := by
  obtain ⟨ys, h1, h2, h3, h4, h5⟩ := X
  exact ⟨ys, sol_plain hs h1, h2, fun i y hy => ⟨hF i y _ _ D _ (h3 i y hy).1 h1.isList (h3 i y hy).2 hs.but, (h3 i y hy).2⟩, h4, hx⟩

/-- a comprehension as a value -/
theorem comp_eval {elt iter : Expr} {x : Str} {px : Pos} {scope : Scope} {cl : List (Str × Addr)} {pos : Pos} {s : Shared} {Q : Value → Shared → Prop} (hh : A.handled = none) (n : Nat) (P : Nat → Value → Prop) (hsz : n ≤ 100000) (Fy : Nat → Value → Shared → Prop) (hF : FStable Fy)
    (hclos : closureFor scope env = pure cl) (hcell : ∀ y ∈ scope.names, y.2 ≠ .cell) (hkind : scope.kind = .function)
    (hnames : ∀ y ∈ scope.names, y.2 = .local → scope.names.lookup y.1 = some .local) (hx : scope.names.lookup x = some .local)
    (hiter : wpAny (model prog w) A (eval iter env) (fun xv s₁ => wpAny (model prog w) A (pyIter xv) (fun it s₂ => ∃ I, it = .ref I ∧ SrcAt prog w s₁ s₂ I n P ∧
      (∀ i v C D acc s₃ m₃, i < n → P i v → Ext s₁ s₃ → s₁.heap.get? D = none → s₃.heap.IsList D acc → s₃.heap.Ns C m₃ → m₃ x = some v →
        wpAny (model prog w) A (eval elt (compEnvC scope cl C env)) (fun y s₄ => Ext s₃ s₄ ∧ Fy i y s₄ ∧ y ≠ .ref D) (fun _ _ => False) s₃) ∧
      (∀ D s', Made n Fy s₁ D s' → Q (.ref D) s')) (fun _ _ => False) s₁) (fun _ _ => False) s)
    (hs : ∀ x, foldedSetIterable iter env x = pure x := by intro _; rfl) :
    wpAny (model prog w) A (eval (.ListComp elt [⟨.Name x px, iter, [], 0⟩] scope pos) env) Q (fun _ _ => False) s := by
  rw [eval_ListComp]
  refine wpAny_comprehension_free (use := none) rfl hs hclos hkind hnames (wpAny_mono hiter (fun xv s₁ h₁ => wpAny_mono h₁ (fun it s₂ h₂ => ?_) fun _ _ e => e) fun _ _ e => e)
  obtain ⟨I, rfl, ⟨fp, St, W, hst, hE, hdI, hI, hIk, hfp⟩, helt, hQ⟩ := h₂
  refine comp_core (RR := fun acc C => compPost (model prog w) A (fun _ _ => False) none Q acc C) hh (W A hh) hsz Fy hF hcell hkind hx hst hE hdI hI hIk hfp helt ?_
  intro D C m' s' hM hdD hdC hDC hn
  refine ⟨m', hn, fun h'' hs'' => hQ D _ (made_sol hF hM (sol_ns hn fun b o hb e => hs''.extBut b o hb e) ?_)⟩
  obtain ⟨_, _, _, _, _, hx'⟩ := hM
  exact ext_same (tk := s'.toks) hx' (ext_dead hE hdC) fun c o hc e => hs''.extBut c o hc e

/-- the same where the frame at L alone has turned besides -/
def MadeL (n : Nat) (Fy : Nat → Value → Shared → Prop) (s₁ : Shared) (L D : Addr) (s' : Shared) : Prop :=
  ∃ ys : List Value, s'.heap.PlainList D ys.toArray ∧ ys.length = n ∧ (∀ i y, ys[i]? = some y → Fy i y s' ∧ y ≠ .ref D) ∧ s₁.heap.get? D = none ∧ Mvd (fun b => b = L) (fun _ => False) s₁ s'
theorem Bd.madeL {s₀ s₁ s' : Shared} {L D : Addr} {cs : List (Str × Addr)} {m m' cm : Str → Option Value} {n : Nat} {Fy : Nat → Value → Shared → Prop} (B : Bd s₀ L cs m cm s₁) (X : MadeL n Fy s₁ L D s') (hn : s'.heap.Ns L m') : Bd s₀ L cs m' cm s' := by
  obtain ⟨ys, _, _, _, _, hm⟩ := X
  refine ⟨ext_then B.ext hm (by rintro b rfl; exact B.dL) (fun _ h => False.elim h), hn, ⟨fun nn c e => ?_, B.X.apart, B.X.above⟩, B.dL, B.dC⟩
  obtain ⟨o, ho, hd⟩ := B.X.cell nn c e
  exact ⟨o, hm.heap c o (Nat.ne_of_gt (B.X.above nn c (mem_of_lookup e))) ho, hd⟩
/-- a comprehension stored into a local of a frame -/
theorem comp_assign {elt iter : Expr} {x y : Str} {px py : Pos} {scope : Scope} {cl : List (Str × Addr)} {pos spos : Pos} {s : Shared} {Q : Flow → Shared → Prop} (hh : A.handled = none) (n : Nat) (P : Nat → Value → Prop) (hsz : n ≤ 100000) (Fy : Nat → Value → Shared → Prop) (hF : FStable Fy)
    (hsw : swapsWith (.ListComp elt [⟨.Name x px, iter, [], 0⟩] scope pos) (some (.Name y py)) spos.line env = pure true)
    (hclos : closureFor scope env = pure cl) (hcell : ∀ y ∈ scope.names, y.2 ≠ .cell) (hkind : scope.kind = .function)
    (hnames : ∀ y ∈ scope.names, y.2 = .local → scope.names.lookup y.1 = some .local) (hx : scope.names.lookup x = some .local)
    (hy : env.kindOf y = some .local) (hp : (env.scope.kind == .class || (env.scope.kind == .module && env.locals != env.globals)) = false)
    (hiter : wpAny (model prog w) A (eval iter env) (fun xv s₁ => wpAny (model prog w) A (pyIter xv) (fun it s₂ => ∃ I m, it = .ref I ∧ SrcAt prog w s₁ s₂ I n P ∧ s₁.heap.Ns env.locals m ∧
      (∀ i v C D acc s₃ m₃, i < n → P i v → Ext s₁ s₃ → s₁.heap.get? D = none → s₃.heap.IsList D acc → s₃.heap.Ns C m₃ → m₃ x = some v →
        wpAny (model prog w) A (eval elt (compEnvC scope cl C env)) (fun y s₄ => Ext s₃ s₄ ∧ Fy i y s₄ ∧ y ≠ .ref D) (fun _ _ => False) s₃) ∧
      (∀ D s₄, MadeL n Fy s₁ env.locals D s₄ → s₄.heap.Ns env.locals (fun z => if z = y then some (.ref D) else m z) → Q .next s₄)) (fun _ _ => False) s₁) (fun _ _ => False) s)
    (hs : ∀ x, foldedSetIterable iter env x = pure x := by intro _; rfl) :
    wpAny (model prog w) A (exec (.Assign [.Name y py] (.ListComp elt [⟨.Name x px, iter, [], 0⟩] scope pos) spos) env) Q (fun _ _ => False) s := by
  rw [exec_Assign_Name_used _ _ _ _ hsw]
  refine wpAny_bind (wpAny_standAt (wpAny_bind ?_))
  show wpAny _ A (do let _ ← comprehension (.ListComp elt [⟨.Name x px, iter, [], 0⟩] scope pos) scope env _ (newList []) false (eval iter env) (some (assign (.Name y py) env))) _ _ s
  refine wpAny_bind (wpAny_mono (wpAny_comprehension_free (use := some (assign (.Name y py) env)) (Q := fun _ s' => Q .next s') rfl hs hclos hkind hnames
    (wpAny_mono hiter (fun xv s₁ h₁ => wpAny_mono h₁ (fun it s₂ h₂ => ?_) fun _ _ e => e) fun _ _ e => e)) (fun _ s' hq => wpAny_pure (wpAny_pure hq)) fun _ _ e => e)
  obtain ⟨I, m, rfl, ⟨fp, St, W, hst, hE, hdI, hI, hIk, hfp⟩, hn1, helt, hQ⟩ := h₂
  refine comp_core (RR := fun acc C => compPost (model prog w) A (fun _ _ => False) (some (assign (.Name y py) env)) (fun _ s' => Q .next s') acc C) hh (W A hh) hsz Fy hF hcell hkind hx hst hE hdI hI hIk hfp helt ?_
  intro D C m' s' hM hdD hdC hDC hnC
  have hx' : Ext s₁ s' := let ⟨_, _, _, _, _, e⟩ := hM; e
  have hnL := ext_ns hx' hn1
  have hLC : env.locals ≠ C := by
    rintro h
    obtain ⟨o, _, _, ho, _⟩ := hn1
    have := ext_get hE ho
    rw [h, hdC] at this; cases this
  show wpAny _ A (assign (.Name y py) env (.ref D)) _ _ _
  refine wpAny_assign_Name (wpAny_storeName_local hy hnL (fun h₂ hn₂ hs₂ => ?_) hp)
  refine ⟨m', hnC.sameBut hs₂ hLC.symm, fun h₃ hs₃ => ?_⟩
  have hs₃' : Heap.SameBut C h₂ h₃ := hs₃
  have hs₂' : Heap.SameBut env.locals s'.heap h₂ := hs₂
  obtain ⟨ys, h1, h2, h3, h4, h5⟩ := hM
  have sol₂ : Sol s'.heap h₂ := sol_ns hnL fun b o hb e => hs₂'.extBut b o hb e
  have sol₃ : Sol h₂ h₃ := sol_ns (hnC.sameBut hs₂ hLC.symm) fun b o hb e => hs₃'.extBut b o hb e
  have hd1C : s₁.heap.get? C = none := ext_dead hE hdC
  refine hQ D _ ⟨ys, sol_plain sol₃ (sol_plain sol₂ h1), h2, fun i z hz => ⟨?_, (h3 i z hz).2⟩, h4, ⟨fun b o hb e => ?_, h5.gens, h5.gsize, h5.bare, h5.os⟩⟩ (hn₂.sameBut hs₃' hLC)
  · exact hF i z s' _ D _ (h3 i z hz).1 h1.isList (h3 i z hz).2 (sol_trans sol₂ sol₃).but
  · exact hs₃'.extBut b o (by rintro rfl; rw [hd1C] at e; cases e) (hs₂'.extBut b o hb (h5.heap b o (fun h => h) e))
end
end Mine

namespace Mine
set_option maxRecDepth 100000
open Sem (wp)
section
variable {prog : Program} {w : World} {A : Around} {mg mb : Str → Option Value}

/-- a call of one of the text's plain defs -/
theorem enter {d : DefRec} {fa : Addr} {cd : Value} {s : Shared} {k : Nat} (hA : OkA (k + 1) A) (G : Glo mg mb s.heap) (X : FnAt mg s.heap d fa cd) {args : List Value} {binds : List (Str × Value)} {Q : Value → Shared → Prop} {E : Value → Shared → Prop}
    (hbind : ∀ pm doc, bindArgs (docDef d.name d.params d.body d.scope pm cd doc) ⟨args, []⟩ = pure binds)
    (hkind : ∀ x ∈ binds, d.scope.names.lookup x.1 = some .local ∨ (d.scope.names.lookup x.1 = some .cell ∧ ((cellsFrom (s.heap.objs.size + 1) d.scope.names []).lookup x.1).isSome = true))
    (h : ∀ L s₁, L = s.heap.objs.size → Bd s L (cellsFrom (L + 1) d.scope.names []) (bindL (envOfC d.name d.scope L fa cd).kindOf binds fun _ => none) (bindC (envOfC d.name d.scope L fa cd).kindOf binds fun _ => none) s₁ → OkA k (A.deeper (envOfC d.name d.scope L fa cd)) →
      wpAny (model prog w) (A.deeper (envOfC d.name d.scope L fa cd)) (execs d.body (envOfC d.name d.scope L fa cd)) (fun f s' => Q (match f with | .ret v => v | _ => .none) s') (fun _ _ => False) s₁)
    (hco : d.scope.isCoroutine = false := by rfl) (hgen : d.scope.isGenerator = false := by rfl) (hk : d.scope.kind = .function := by rfl) :
    wpAny (model prog w) A (call (.ref fa) args) Q E s := by
  obtain ⟨o, pm, doc, ho, hdat⟩ := X.obj
  refine wpAny_call (call_cells_ret hA.room ho hdat G.lim X.code (hbind pm doc) hkind (fun h₁ tk F C => ?_) hco hgen hk)
  have hd : s.heap.get? s.heap.objs.size = none := Heap.get?_none_of_le (Nat.le_refl _)
  refine h _ _ rfl ⟨⟨fun b o _ e => F.keep b o e, fun _ _ _ e => e, Nat.le_refl _, fun e => e, rfl⟩, F.ns, C, hd, fun n c hc => ?_⟩ (hA.deeper _)
  exact Heap.get?_none_of_le (Nat.le_of_lt (C.above n c (mem_of_lookup hc)))


theorem st_name {env : Env} {x : Str} {px : Pos} {v : Value} {s s₀ : Shared} {L : Addr} {cs : List (Str × Addr)} {m cm : Str → Option Value} {Q : Unit → Shared → Prop} {E : Value → Shared → Prop} (B : Bd s₀ L cs m cm s)
    (h : ∀ s₂ m₂, m₂ x = some v → (∀ y, y ≠ x → m₂ y = m y) → Bd s₀ L cs m₂ cm s₂ → Sol s.heap s₂.heap → Mvd (fun b => b = L) (fun _ => False) s s₂ → Q () s₂)
    (hL : env.locals = L := by rfl) (hk : env.kindOf x = some .local := by rfl) (hp : (env.scope.kind == .class || (env.scope.kind == .module && env.locals != env.globals)) = false := by rfl) :
    wpAny (model prog w) A (assign (.Name x px) env v) Q E s := by
  subst hL
  refine wpAny_assign_Name (wpAny_storeName_local hk B.ns (fun h₂ hn₂ hs₂ => ?_) hp)
  exact h _ _ (if_pos rfl) (fun y hy => if_neg hy) (B.stL hn₂ hs₂) (sol_ns B.ns fun b o hb e => hs₂.extBut b o hb e) (mvd_same rfl hs₂)
theorem st_let {env : Env} {x : Str} {px spos : Pos} {value : Expr} {s : Shared} (s₀ : Shared) (L : Addr) (cs : List (Str × Addr)) {Q : Flow → Shared → Prop} {E : Value → Shared → Prop}
    (h : wpAny (model prog w) A (eval value env) (fun v s₁ => ∃ m cm, Bd s₀ L cs m cm s₁ ∧ ∀ s₂ m₂, m₂ x = some v → (∀ y, y ≠ x → m₂ y = m y) → Bd s₀ L cs m₂ cm s₂ → Sol s₁.heap s₂.heap → Mvd (fun b => b = L) (fun _ => False) s₁ s₂ → Q .next s₂) E s)
    (hL : env.locals = L := by rfl) (hk : env.kindOf x = some .local := by rfl) (hp : (env.scope.kind == .class || (env.scope.kind == .module && env.locals != env.globals)) = false := by rfl) (hsw : swapsWith value (some (.Name x px)) spos.line env = pure false := by rfl) :
    wpAny (model prog w) A (exec (.Assign [.Name x px] value spos) env) Q E s := by
  subst hL
  refine wpAny_Assign_Name (wpAny_mono h (fun v s₁ h₁ => ?_) fun _ _ e => e) hsw
  obtain ⟨m, cm, B, hq⟩ := h₁
  refine wpAny_storeName_local hk B.ns (fun h₂ hn₂ hs₂ => ?_) hp
  exact hq _ _ (if_pos rfl) (fun y hy => if_neg hy) (B.stL hn₂ hs₂) (sol_ns B.ns fun b o hb e => hs₂.extBut b o hb e) (mvd_same rfl hs₂)

abbrev nums : DefRec := defAt 3
abbrev envN (L fa : Addr) (cd : Value) : Env := envOfC nums.name nums.scope L fa cd

/-- ints, item by item -/
def IntAt (ms : List Int) (i : Nat) (y : Value) (_ : Shared) : Prop := ∃ n t, y = .int n t ∧ ms[i]? = some n
theorem intAt_stable (ms : List Int) : FStable (IntAt ms) := fun _ _ _ _ _ _ h _ _ _ => h
theorem ints_of : ∀ {ys : List Value} {ms : List Int}, ys.length = ms.length → (∀ (i : Nat) (y : Value), ys[i]? = some y → ∃ n t, y = Value.int n t ∧ ms[i]? = some n) → IntsAre ys ms
  | [], [], _, _ => .nil
  | [], _ :: _, h, _ => by simp at h
  | _ :: _, [], h, _ => by simp at h
  | y :: ys, m :: ms, h, k => by
    obtain ⟨n, t, e1, e2⟩ := k 0 y rfl
    have e3 : m = n := by simpa using e2
    subst e1 e3
    exact .cons _ _ (ints_of (by simpa using h) fun i z hz => k (i + 1) z (by simpa using hz))
theorem ints_get {vs : List Value} {ns : List Int} (h : IntsAre vs ns) {i : Nat} {v : Value} (hv : vs[i]? = some v) : ∃ n t, v = .int n t ∧ ns[i]? = some n := by
  have hlt : i < vs.length := (List.getElem?_eq_some_iff.mp hv).1
  have hlt' : i < ns.length := by rw [← h.length]; exact hlt
  obtain ⟨t, e⟩ := h.get i (ns[i]'hlt') (List.getElem?_eq_getElem hlt')
  rw [e] at hv; cases hv
  exact ⟨_, t, rfl, List.getElem?_eq_getElem hlt'⟩


theorem plainL_of {h : Heap} {a : Addr} {its : Array Value} (k : h.PlainList a its) : PlainL h a its := let ⟨n, e⟩ := k; ⟨_, n, e, rfl, rfl, rfl⟩
theorem plainL_sol {h h' : Heap} (x : Sol h h') {a : Addr} {its : Array Value} (k : PlainL h a its) : PlainL h' a its := let ⟨o, n, e, c, d, dd⟩ := k; ⟨o, n, x a o _ _ e dd, c, d, dd⟩
/-- an append to a list that is new since the call -/
theorem Bd.app {s₀ s : Shared} {L F : Addr} {cs : List (Str × Addr)} {m cm : Str → Option Value} (B : Bd s₀ L cs m cm s) {its : Array Value} (hl : PlainL s.heap F its) (hF : s₀.heap.get? F = none) {h' : Heap} {tk : Nat} (hs : Heap.SameBut F s.heap h') : Bd s₀ L cs m cm { s with heap := h', toks := tk } := by
  obtain ⟨o, n, e, _, _, hd⟩ := hl
  have hno : ¬ Own L cs F := B.not_own e (.inl ⟨_, _, hd⟩)
  refine ⟨ext_same B.ext hF fun c o hc e => hs.extBut c o hc e, B.ns.sameBut hs ?_, ⟨fun nn c ec => ?_, B.X.apart, B.X.above⟩, B.dL, B.dC⟩
  · rintro rfl; exact hno (.inl rfl)
  · obtain ⟨o, ho, hd⟩ := B.X.cell nn c ec
    exact ⟨o, hs.extBut c o (by rintro rfl; exact hno (.inr ⟨nn, ec⟩)) ho, hd⟩

theorem mulOk {a b : Int} (h1 : -(2 ^ 64) < b) (h2 : b < 2 ^ 64) : IntMulOk a b := IntMulOk.of_right (intBits_le_64 h1 h2)

theorem ints_push : ∀ {ws : List Value} {ms : List Int}, IntsAre ws ms → ∀ (n : Int) (t : Tok), IntsAre (ws ++ [.int n t]) (ms ++ [n])
  | _, _, .nil, n, t => .cons n t .nil
  | _, _, .cons m u h, n, t => .cons m u (ints_push h n t)

theorem op_slice {env : Env} {E : Value → Shared → Prop} {s : Shared} {value : Expr} {lower upper : Option Expr} {p pos : Pos} {Q : Value → Shared → Prop}
    (h : wpAny (model prog w) A (eval value env) (fun o s₁ => wpAny (model prog w) A (evalPart lower env) (fun vl s₂ => wpAny (model prog w) A (evalPart upper env) (fun vu s₃ =>
      ∃ l vs lo hi, o = .ref l ∧ s₃.heap.IsList l (List.toArray vs) ∧ vs.length ≤ 100000 ∧ IsPart vl lo ∧ IsPart vu hi ∧
        ∀ D s', s'.heap.IsList D (List.toArray (slicePick vs.toArray lo hi none).toList) → s₃.heap.get? D = none → Kp s₃ s' → Q (.ref D) s') E s₂) E s₁) E s)
    (ht : ∀ o r, letTemporaryGo value o r = pure () := by intro _ _; rfl) :
    wpAny (model prog w) A (eval (.Subscript value (.Slice lower upper none p) pos) env) Q E s := by
  refine wpAny_Subscript_list_slice (wpAny_mono h (fun o s₁ h₁ => wpAny_mono h₁ (fun vl s₂ h₂ => wpAny_mono h₂ (fun vu s₃ h₃ => ?_) fun _ _ e => e) fun _ _ e => e) fun _ _ e => e) ht
  obtain ⟨l, vs, lo, hi, rfl, hl, hz, pl, pu, hQ⟩ := h₃
  refine ⟨l, vs.toArray, lo, hi, rfl, hl, size_line (by rw [List.size_toArray]; omega), pl, pu, ?_⟩
  have e : (s₃.heap.push { cls := .type "slice", data := .fields #[vl, vu, .none] }).objs.size = s₃.heap.objs.size + 1 := Heap.size_push ..
  refine hQ _ _ ?_ (Heap.get?_none_of_le (Nat.le_succ _)) (Kp.heap fun b o e => Heap.get?_push_of_some _ (Heap.get?_push_of_some _ e))
  rw [← e]
  exact ⟨_, Heap.get?_push_size _ rfl, rfl, 0, by simp⟩

def StmtAt (b : List Stmt) (i : Nat) : Stmt := b.getD i (.Pass default)
abbrev nb (i : Nat) : Stmt := StmtAt nums.body i

theorem numbers_fill {fa : Addr} {cd : Value} {s₀ s : Shared} {L F : Addr} {m cm : Str → Option Value} {u : Tok} (hh : A.handled = none) (G : Glo mg mb s₀.heap) (B : Bd s₀ L [] m cm s) {ws : List Value} {ms : List Int} {n : Int} {t : Tok} (hm1 : m "found" = some (.ref F)) (hm2 : m "many" = some (.int 6 u)) (hm3 : m "last" = some (.int n t)) (hn0 : 0 ≤ n)
    (hF : s₀.heap.get? F = none) (hl : PlainL s.heap F ws.toArray) (hi : IntsAre ws ms) (hz : ms.length ≤ 6) {Q : Flow → Shared → Prop}
    (h : ∀ s' m' cm' ws' ms', Bd s₀ L [] m' cm' s' → m' "found" = some (.ref F) → PlainL s'.heap F (List.toArray ws') → IntsAre ws' ms' → ms'.length = 6 → Q .next s') :
    wpAny (model prog w) A (exec (nb 3) (envN L fa cd)) Q (fun _ _ => False) s := by
  refine wpAny_While (codeAny_whileLoop (fun nn s' => ∃ m cm ws ms n t, Bd s₀ L [] m cm s' ∧ m "found" = some (.ref F) ∧ m "many" = some (.int 6 u) ∧ m "last" = some (.int n t) ∧ 0 ≤ n ∧ PlainL s'.heap F (List.toArray ws) ∧ IntsAre ws ms ∧ ms.length ≤ 6 ∧ nn = 6 - ms.length) ?_ _ ⟨m, cm, ws, ms, n, t, B, hm1, hm2, hm3, hn0, hl, hi, hz, rfl⟩)
  rintro nn s₁ ⟨m, cm, ws, ms, n, t, B, hm1, hm2, hm3, hn0, hl, hi, hz, rfl⟩
  have hw : ws.length = ms.length := hi.length
  have G₁ := G.keeps (h' := s₁.heap) fun _ _ e => ext_get B.ext e
  refine wpAny_isTrue_Compare1 (cb1 G₁ boot_len (nm_local (env := envN L fa cd) B.ns hm1 (op_len_list hl.isList (by rw [List.size_toArray]; omega) fun tk s₂ k₂ => ?_)))
  have B₂ := B.kp k₂
  refine nm_local (env := envN L fa cd) B₂.ns hm2 (lt_int (wpAny_truthy_bool ?_))
  by_cases hlt : ms.length < 6
  · rw [if_pos (decide_eq_true (by rw [List.size_toArray]; omega))]
    refine wpAny_execs_cons (st_let s₀ L [] (wpAny_BinOp (wpAny_BinOp (wpAny_BinOp (nm_local (env := envN L fa cd) B₂.ns hm3 (wpAny_Constant_int ?_))))))
    refine mul_int (wpAny_Constant_int (add_int (wpAny_Constant_int (mod_int (by decide) ?_)))) (mulOk (by decide) (by decide))
    refine ⟨m, cm, ((B₂.kp Kp.tok).kp Kp.tok).kp Kp.tok, fun s₃ m₃ e₃ n₃ B₃ x₃ _ => ?_⟩
    generalize hn' : ((n * 48271 + 11).fmod 2147483647) = n' at e₃
    have hn0' : 0 ≤ n' := by rw [← hn']; exact Int.fmod_nonneg_of_pos _ (by decide)
    have hl₃ : PlainL s₃.heap F ws.toArray := plainL_sol x₃ (hl.keeps fun _ _ e => k₂.get e)
    refine wpAny_execs_cons (wpAny_Expr_any (wpAny_Call_append (by rfl) (by rfl) (by rfl) (by rfl) (nm_local (env := envN L fa cd) B₃.ns ((n₃ _ (by decide)).trans hm1) ⟨F, _, rfl, hl₃, ?_⟩)))
    refine wpAny_BinOp (nm_local (env := envN L fa cd) B₃.ns e₃ (wpAny_Constant_int (floordiv_int (by decide) ?_)))
    refine list_append_plainL hl₃ (fun h₄ hl₄ hs₄ => ?_) (size_line (by rw [List.size_toArray]; omega))
    refine wpAny_execs_nil ⟨6 - (ms.length + 1), by omega, _, cm, ws ++ [.int (n'.fdiv 13) (s₃.toks + 1)], ms ++ [n'.fdiv 13], n', _, B₃.app hl₃ hF hs₄, (n₃ _ (by decide)).trans hm1, (n₃ _ (by decide)).trans hm2, e₃, hn0', ?_, ints_push hi _ _, by simp; omega, by simp⟩
    have e : (ws ++ [Value.int (n'.fdiv 13) (s₃.toks + 1)]).toArray = ws.toArray.push (Value.int (n'.fdiv 13) (s₃.toks + 1)) := by simp
    rw [e]; exact hl₄
  · rw [if_neg (by rw [List.size_toArray, decide_eq_true_eq]; omega)]
    exact wpAny_execs_nil (h s₂ m cm ws ms B₂ hm1 (hl.keeps fun _ _ e => k₂.get e) hi (by omega))

/-- the body of the numbers from the loop over the script on -/
theorem numbers_rest {fa : Addr} {cd : Value} {s₀ s : Shared} {L F l : Addr} {m cm : Str → Option Value} {u : Tok} (hh : A.handled = none) (G : Glo mg mb s₀.heap) (B : Bd s₀ L [] m cm s) {vs : List Value} {ns : List Int} (hl : s₀.heap.IsList l vs.toArray) (hi : IntsAre vs ns) (hz : ns.length ≤ 100)
    {ws : List Value} {ms : List Int} (hm1 : m "found" = some (.ref F)) (hm2 : m "many" = some (.int 6 u)) (hm3 : m "script" = some (.ref l))
    (hF : s₀.heap.get? F = none) (hlF : PlainL s.heap F ws.toArray) (hiF : IntsAre ws ms) (hzF : ms.length ≤ 6) {Q : Flow → Shared → Prop}
    (h : ∀ D ws' ms' s', s'.heap.IsList D (List.toArray ws') → IntsAre ws' ms' → ms'.length = 6 → Ext s₀ s' → Q (.ret (.ref D)) s') :
    wpAny (model prog w) A (execs (nums.body.drop 1) (envN L fa cd)) Q (fun _ _ => False) s := by
  have hv : vs.length = ns.length := hi.length
  refine wpAny_execs_cons (st_let s₀ L [] (wpAny_BinOp (wpAny_Constant_int (cb1 (G.keeps fun _ _ e => ext_get B.ext e) boot_len (nm_local (env := envN L fa cd) B.ns hm3 (op_len_list (ext_list B.ext hl) (by rw [List.size_toArray]; omega) fun tk s₁ k₁ => add_int ?_))))))
  refine ⟨m, cm, ((B.kp Kp.tok).kp k₁).kp Kp.tok, fun s₂ m₂ e₂ n₂ B₂ x₂ _ => ?_⟩
  have hlF₂ : PlainL s₂.heap F ws.toArray := plainL_sol x₂ (hlF.keeps fun _ _ e => k₁.get e)
  refine wpAny_execs_cons (for_list (D := fun _ m _ s => (∃ n t, m "last" = some (.int n t) ∧ 0 ≤ n) ∧ m "found" = some (.ref F) ∧ m "many" = some (.int 6 u) ∧ PlainL s.heap F ws.toArray) hh B₂ (fun _ => False) (fun _ h => False.elim h) (ext_list B₂.ext hl) (fun h => h) ?_ ?_ ?_ ?_ ?_)
  · rintro i m cm s s' ⟨h1, h2, h3, h4⟩ x
    exact ⟨h1, h2, h3, plainL_sol x h4⟩
  · intro Q' hq
    exact nm_local (env := envN L fa cd) B₂.ns ((n₂ _ (by decide)).trans hm3) (hq _ .refl)
  · exact ⟨⟨_, _, e₂, by omega⟩, (n₂ _ (by decide)).trans hm1, (n₂ _ (by decide)).trans hm2, hlF₂⟩
  · rintro i v s₃ m₃ cm₃ hi' hv' B₃ ⟨⟨n, t, h1, hn0⟩, h2, h3, h4⟩ S₃
    obtain ⟨x, tx, rfl, _⟩ := ints_get hi hv'
    refine st_name B₃ fun s₄ m₄ e₄ n₄ B₄ x₄ M₄ => ?_
    refine wpAny_execs_cons (st_let s₀ L [] (wpAny_BinOp (wpAny_BinOp (wpAny_BinOp (nm_local (env := envN L fa cd) B₄.ns ((n₄ _ (by decide)).trans h1) (wpAny_Constant_int ?_))))))
    refine mul_int (nm_local (env := envN L fa cd) B₄.ns e₄ (add_int (wpAny_Constant_int (mod_int (by decide) ?_)))) (mulOk (by decide) (by decide))
    refine ⟨_, _, ((B₄.kp Kp.tok).kp Kp.tok).kp Kp.tok, fun s₅ m₅ e₅ n₅ B₅ x₅ M₅ => wpAny_execs_nil ?_⟩
    refine ⟨_, _, B₅, ⟨⟨_, _, e₅, Int.fmod_nonneg_of_pos _ (by decide)⟩, (n₅ _ (by decide)).trans ((n₄ _ (by decide)).trans h2), (n₅ _ (by decide)).trans ((n₄ _ (by decide)).trans h3), plainL_sol x₅ (plainL_sol x₄ h4)⟩, ?_⟩
    exact ((M₄.trans (Mvd.of_kp (((Kp.tok (tk := s₄.toks + 1)).trans Kp.tok).trans Kp.tok))).trans M₅).mono (fun b h => .inl (.inl h)) fun _ h => h
  · rintro s₃ m₃ cm₃ B₃ ⟨⟨n, t, h1, hn0⟩, h2, h3, h4⟩ S₃
    refine wpAny_execs_cons (numbers_fill hh G B₃ h2 h3 h1 hn0 hF h4 hiF hzF fun s₄ m₄ cm₄ ws₄ ms₄ B₄ h5 h6 h7 h8 => ?_)
    refine wpAny_execs_cons (wpAny_Return_some (nm_local (env := envN L fa cd) B₄.ns h5 ?_))
    exact h F ws₄ ms₄ s₄ h6.isList h7 h8 B₄.ext

theorem numbers_call {fa : Addr} {cd : Value} {s : Shared} {k : Nat} (hA : OkA (k + 8) A) (G : Glo mg mb s.heap) (X : FnAt mg s.heap nums fa cd) {l : Addr} {vs : List Value} {ns : List Int} {u : Tok} (hl : s.heap.IsList l vs.toArray) (hi : IntsAre vs ns) (hz : ns.length ≤ 100)
    {Q : Value → Shared → Prop} {E : Value → Shared → Prop} (h : ∀ D ws ms s', s'.heap.IsList D (List.toArray ws) → IntsAre ws ms → ms.length = 6 → Ext s s' → Q (.ref D) s') :
    wpAny (model prog w) A (call (.ref fa) [.ref l, .int 6 u]) Q E s := by
  refine enter (k := k + 7) hA G X (binds := [(Str.ofString "script", .ref l), (Str.ofString "many", .int 6 u)]) (fun pm doc => by rfl) ?_ fun L s₁ hL B hA' => ?_
  · intro x hx
    rcases List.mem_cons.mp hx with rfl | hx
    · exact .inl (by rfl)
    · obtain rfl := List.mem_singleton.mp hx
      exact .inl (by rfl)
  have hcs : cellsFrom (L + 1) nums.scope.names [] = [] := by rfl
  rw [hcs] at B
  have hm1 : (bindL (envOfC nums.name nums.scope L fa cd).kindOf [(Str.ofString "script", .ref l), (Str.ofString "many", .int 6 u)] fun _ => none) "script" = some (.ref l) := by rfl
  have hm2 : (bindL (envOfC nums.name nums.scope L fa cd).kindOf [(Str.ofString "script", .ref l), (Str.ofString "many", .int 6 u)] fun _ => none) "many" = some (.int 6 u) := by rfl
  generalize (bindL (envOfC nums.name nums.scope L fa cd).kindOf [(Str.ofString "script", .ref l), (Str.ofString "many", .int 6 u)] fun _ => none) = m at hm1 hm2 B
  generalize (bindC (envOfC nums.name nums.scope L fa cd).kindOf [(Str.ofString "script", .ref l), (Str.ofString "many", .int 6 u)] fun _ => none) = cm at B
  clear hL
  generalize hA2 : A.deeper (envOfC nums.name nums.scope L fa cd) = A₁ at hA'
  have hvl : vs.length = ns.length := hi.length
  -- found = [x for x in script[:many]]
  have hsl : IntsAre (slicePick vs.toArray none (some 6) none).toList (ns.take 6) := kmk_upto hi (by decide)
  have hsz : (slicePick vs.toArray none (some 6) none).toList.length = (ns.take 6).length := hsl.length
  have htk : (ns.take 6).length ≤ 6 := by simp; omega
  refine wpAny_execs_cons (comp_assign (cl := []) hA'.handled (slicePick vs.toArray none (some 6) none).toList.length (fun i v => (slicePick vs.toArray none (some 6) none).toList[i]? = some v) (by omega) (IntAt (ns.take 6)) (intAt_stable _) (by rfl) (by rfl) (by decide) (by rfl) (by decide) (by rfl) (by rfl) (by rfl) ?_ (by intro _; rfl))
  refine op_slice (nm_local (env := envN L fa cd) B.ns hm1 (wpAny_evalPart_none (wpAny_evalPart_some (nm_local (env := envN L fa cd) B.ns hm2 ?_))))
  refine ⟨l, vs, none, some 6, rfl, ext_list B.ext hl, by omega, .none, .int 6 u, fun D₂ s₂ hD₂ hdD₂ k₂ => ?_⟩
  have B₂ := B.kp k₂
  refine src_list (vs := (slicePick vs.toArray none (some 6) none).toList) hD₂ fun I s₃ S₃ => ⟨I, m, rfl, S₃, B₂.ns, ?_, ?_⟩
  · intro i v C D acc s₄ m₄ hi₄ hv hx hD hDl hn hmx
    obtain ⟨n, t, rfl, hn'⟩ := ints_get hsl hv
    exact nm_local (env := compEnvC _ _ C _) hn hmx ⟨.refl, ⟨n, t, rfl, hn'⟩, by intro h; cases h⟩
  · intro D s₄ hM hn₄
    have B₄ := B₂.madeL hM hn₄
    obtain ⟨ys, h1, h2, h3, h4, h5⟩ := hM
    have hys : IntsAre ys (ns.take 6) := ints_of (by omega) fun i y hy => (h3 i y hy).1
    exact numbers_rest hA'.handled G B₄ hl hi hz upd_same (upd_ne (by decide) hm2) (upd_ne (by decide) hm1) (ext_dead B₂.ext h4) (plainL_of h1) hys htk fun D' ws' ms' s' a1 a2 a3 a4 => h D' ws' ms' s' a1 a2 a3 a4
end
end Mine

namespace Mine
set_option maxRecDepth 100000
open Sem (wp)
section
variable {prog : Program} {w : World} {A : Around} {mg mb : Str → Option Value}

structure GoodBs (bs : List Int) : Prop where
  pos : 1 ≤ bs.length
  len : bs.length ≤ 4
  rng : ∀ x ∈ bs, 0 ≤ x ∧ x ≤ 3
  four : bs.length = 4 → ∀ x ∈ bs, x ≤ 2

abbrev bnds : DefRec := defAt 4
abbrev envB (L fa : Addr) (cd : Value) : Env := envOfC bnds.name bnds.scope L fa cd

theorem bounds_call {fa : Addr} {cd : Value} {s : Shared} {k : Nat} (hA : OkA (k + 8) A) (G : Glo mg mb s.heap) (X : FnAt mg s.heap bnds fa cd) {l : Addr} {vs : List Value} {ns : List Int} (hl : s.heap.IsList l vs.toArray) (hi : IntsAre vs ns) (hz : ns.length = 6)
    {Q : Value → Shared → Prop} {E : Value → Shared → Prop} (h : ∀ D ws bs s', s'.heap.IsList D (List.toArray ws) → IntsAre ws bs → GoodBs bs → Ext s s' → Q (.ref D) s') :
    wpAny (model prog w) A (call (.ref fa) [.ref l]) Q E s := by
  refine enter (k := k + 7) hA G X (binds := [(Str.ofString "found", .ref l)]) (fun pm doc => by rfl) ?_ fun L s₁ hL B hA' => ?_
  · intro x hx
    obtain rfl := List.mem_singleton.mp hx
    exact .inl (by rfl)
  have hcs : cellsFrom (L + 1) bnds.scope.names [] = [] := by rfl
  rw [hcs] at B
  have hm1 : (bindL (envOfC bnds.name bnds.scope L fa cd).kindOf [(Str.ofString "found", .ref l)] fun _ => none) "found" = some (.ref l) := by rfl
  generalize (bindL (envOfC bnds.name bnds.scope L fa cd).kindOf [(Str.ofString "found", .ref l)] fun _ => none) = m at hm1 B
  generalize (bindC (envOfC bnds.name bnds.scope L fa cd).kindOf [(Str.ofString "found", .ref l)] fun _ => none) = cm at B
  clear hL
  generalize hA2 : A.deeper (envOfC bnds.name bnds.scope L fa cd) = A₁ at hA'
  have hvl : vs.length = ns.length := hi.length
  have hGlo : ∀ s', Ext s s' → Glo mg mb s'.heap := fun s' x => G.keeps fun _ _ e => ext_get x e
  obtain ⟨v0, vr, rfl⟩ : ∃ v0 vr, vs = v0 :: vr := by
    cases vs with
    | nil => simp at hvl; omega
    | cons a b => exact ⟨a, b, rfl⟩
  obtain ⟨n0, t0, rfl, hn0⟩ := ints_get hi (i := 0) (v := v0) rfl
  have hl₁ := ext_list B.ext hl
  refine wpAny_execs_cons (st_let s L [] (wpAny_BinOp (wpAny_Constant_int (wpAny_BinOp (wpAny_BinOp (Subscript_ (nm_local (env := envB L fa cd) B.ns hm1 (wpAny_Constant_int (op_sub_list hl₁ (Int.le_refl 0) (x := .int n0 t0) (by rfl) (by rw [List.size_toArray]; omega) (wpAny_Constant_int (add_int (wpAny_Constant_int (mod_int (by decide) (add_int ?_))))))))))))))
  refine ⟨m, cm, (((B.kp Kp.tok).kp Kp.tok).kp Kp.tok), fun s₂ m₂ e₂ n₂ B₂ x₂ _ => ?_⟩
  generalize hq : (n0 + 1).fmod 4 = q at e₂
  have hq0 : 0 ≤ q := by rw [← hq]; exact Int.fmod_nonneg_of_pos _ (by decide)
  have hq4 : q < 4 := by rw [← hq]; exact Int.fmod_lt_of_pos _ (by decide)
  have hm1₂ : m₂ "found" = some (.ref l) := (n₂ _ (by decide)).trans hm1
  have hsl : IntsAre (slicePick (Value.int n0 t0 :: vr).toArray (some 1) (some (1 + (1 + q))) none).toList ((ns.drop 1).take (min (1 + (1 + q)).toNat ns.length - 1)) := kmk_run hi (by decide) (by omega)
  have hcnt : min (1 + (1 + q)).toNat ns.length - 1 = 1 + q.toNat := by omega
  rw [hcnt] at hsl
  generalize hpk : slicePick (Value.int n0 t0 :: vr).toArray (some 1) (some (1 + (1 + q))) none = pk at hsl
  generalize hrs : (ns.drop 1).take (1 + q.toNat) = rs at hsl
  have hrl : rs.length = 1 + q.toNat := by rw [← hrs]; simp; omega
  have hpl : pk.toList.length = rs.length := hsl.length
  refine wpAny_execs_cons (comp_assign (cl := []) hA'.handled pk.toList.length (fun i v => pk.toList[i]? = some v) (by omega) (IntAt (rs.map (·.fmod 4))) (intAt_stable _) (by rfl) (by rfl) (by decide) (by rfl) (by decide) (by rfl) (by rfl) (by rfl) ?_ (by intro _; rfl))
  refine op_slice (nm_local (env := envB L fa cd) B₂.ns hm1₂ (wpAny_evalPart_some (wpAny_Constant_int (wpAny_evalPart_some (wpAny_BinOp (wpAny_Constant_int (nm_local (env := envB L fa cd) B₂.ns e₂ (add_int ?_))))))))
  refine ⟨l, _, some 1, some (1 + (1 + q)), rfl, ext_list B₂.ext hl, by omega, .int 1 _, .int _ _, fun D₃ s₃ hD₃ hdD₃ k₃ => ?_⟩
  rw [hpk] at hD₃
  have B₃ := (B₂.kp Kp.tok).kp k₃
  refine src_list (vs := pk.toList) hD₃ fun I s₄ S₄ => ⟨I, m₂, rfl, S₄, B₃.ns, ?_, ?_⟩
  · intro i v C D acc s₄ m₄ hi₄ hv hx hD hDl hn hmx
    obtain ⟨n, t, rfl, hn'⟩ := ints_get hsl hv
    refine wpAny_BinOp (nm_local (env := compEnvC _ _ C _) hn hmx (wpAny_Constant_int (mod_int (by decide) ?_)))
    exact ⟨ext_kp Kp.tok, ⟨_, _, rfl, by rw [List.getElem?_map, hn']; rfl⟩, by intro h; cases h⟩
  · intro D s₄ hM hn₄
    have B₄ := B₃.madeL hM hn₄
    obtain ⟨ys, h1, h2, h3, h4, h5⟩ := hM
    have hys : IntsAre ys (rs.map (·.fmod 4)) := ints_of (by simp; omega) fun i y hy => (h3 i y hy).1
    have hyl : ys.length = rs.length := by omega
    have em : (fun z => if z = Str.ofString "bounds" then some (.ref D) else m₂ z) "bounds" = some (.ref D) := if_pos rfl
    generalize (fun z => if z = Str.ofString "bounds" then some (.ref D) else m₂ z) = m₄ at em B₄
    refine wpAny_execs_cons (wpAny_If (wpAny_isTrue_Compare1 (cb1 (hGlo _ B₄.ext) boot_len (nm_local (env := envB L fa cd) B₄.ns em (op_len_list h1.isList (by rw [List.size_toArray]; omega) fun tk s₅ k₅ => wpAny_Constant_int (eq_int (wpAny_truthy_bool ?_)))))))
    have B₅ := (B₄.kp k₅).kp (Kp.tok (tk := s₅.toks + 1))
    have h1₅ := k₅.list h1.isList
    by_cases h4l : rs.length = 4
    · rw [if_pos (by rw [List.size_toArray, hyl, h4l]; rfl)]
      refine wpAny_execs_cons (comp_assign (cl := []) hA'.handled ys.length (fun i v => ys[i]? = some v) (by omega) (IntAt ((rs.map (·.fmod 4)).map (min · 2))) (intAt_stable _) (by rfl) (by rfl) (by decide) (by rfl) (by decide) (by rfl) (by rfl) (by rfl) ?_ (by intro _; rfl))
      refine nm_local (env := envB L fa cd) B₅.ns em ?_
      refine src_list (vs := ys) h1₅ fun I s₆ S₆ => ⟨I, m₄, rfl, S₆, B₅.ns, ?_, ?_⟩
      · intro i v C D acc s₇ m₇ hi₄ hv hx hD hDl hn hmx
        obtain ⟨n, t, rfl, hn'⟩ := ints_get hys hv
        refine cb2 (env := compEnvC _ _ C _) (hGlo _ (ext_trans B₅.ext hx)) PyProof.Rows.Boot.«min» (nm_local (env := compEnvC _ _ C _) hn hmx (wpAny_Constant_int (op_min2 hA'.handled fun tk s₈ k₈ => ?_)))
        exact ⟨ext_kp (Kp.tok.trans k₈), ⟨_, _, rfl, by rw [List.getElem?_map, hn']; rfl⟩, by intro h; cases h⟩
      · intro D' s₇ hM₇ hn₇
        have B₇ := B₅.madeL hM₇ hn₇
        obtain ⟨zs, g1, g2, g3, g4, g5⟩ := hM₇
        have hzs : IntsAre zs ((rs.map (·.fmod 4)).map (min · 2)) := ints_of (by simp; omega) fun i y hy => (g3 i y hy).1
        refine wpAny_execs_nil (wpAny_execs_cons (wpAny_Return_some (nm_local (env := envB L fa cd) B₇.ns (if_pos rfl) (h D' zs _ s₇ g1.isList hzs ⟨by simp; omega, by simp; omega, ?_, ?_⟩ B₇.ext))))
        · intro x hx
          obtain ⟨y, hy, rfl⟩ := List.mem_map.mp hx
          obtain ⟨z, hz, rfl⟩ := List.mem_map.mp hy
          have := Int.fmod_nonneg_of_pos z (b := 4) (by decide)
          omega
        · intro _ x hx
          obtain ⟨y, hy, rfl⟩ := List.mem_map.mp hx
          omega
    · rw [if_neg (by
        rw [List.size_toArray, hyl]
        intro he
        have : ((rs.length : Nat) : Int) = 4 := by simpa using he
        omega)]
      refine wpAny_execs_nil (wpAny_execs_cons (wpAny_Return_some (nm_local (env := envB L fa cd) B₅.ns em (h D ys _ _ h1₅ hys ⟨by simp; omega, by simp; omega, ?_, ?_⟩ B₅.ext))))
      · intro x hx
        obtain ⟨z, hz, rfl⟩ := List.mem_map.mp hx
        have := Int.fmod_nonneg_of_pos z (b := 4) (by decide)
        have := Int.fmod_lt_of_pos z (b := 4) (by decide)
        omega
      · intro he
        simp at he; omega
end
end Mine

namespace Mine
set_option maxRecDepth 100000
open Sem (wp)
section
variable {prog : Program} {w : World} {A : Around} {mg mb : Str → Option Value} {M : Model}

theorem nm_cell {env : Env} {x : Str} {pos : Pos} {s : Shared} {c : Addr} {v : Value} {Q : Value → Shared → Prop} {E : Value → Shared → Prop} (hv : s.heap.IsCell c (some v)) (hc : env.cells.lookup x = some c) (h : Q v s)
    (hk : env.scope.kind = .function := by rfl) (hl : env.kindOf x = some .cell := by rfl) (hd : (x == ("__debug__" : Str)) = false := by decide) :
    wpAny M A (eval (.Name x pos) env) Q E s := wpAny_Name (wpAny_loadName_cell hk hl hc hv h) hd
theorem Bd.cell {s₀ s : Shared} {L c : Addr} {cs : List (Str × Addr)} {m cm : Str → Option Value} (B : Bd s₀ L cs m cm s) {x : Str} {v : Value} (hc : cs.lookup x = some c) (hv : cm x = some v) : s.heap.IsCell c (some v) := hv ▸ B.X.cell x c hc

theorem Bd.stCell {s₀ s : Shared} {L c : Addr} {cs : List (Str × Addr)} {m cm : Str → Option Value} {x : Str} {v : Value} (B : Bd s₀ L cs m cm s) (hc : cs.lookup x = some c) {h' : Heap} (hv : h'.IsCell c (some v)) (hs : Heap.SameBut c s.heap h') :
    Bd s₀ L cs m (fun y => if y = x then some v else cm y) { s with heap := h' } := by
  have hLc : L < c := B.X.above x c (mem_of_lookup hc)
  refine ⟨ext_same (tk := s.toks) B.ext (B.dC x c hc) fun b o hb e => hs.extBut b o hb e, B.ns.sameBut hs (Nat.ne_of_lt hLc), ⟨fun n c' e => ?_, B.X.apart, B.X.above⟩, B.dL, B.dC⟩
  by_cases hn : n = x
  · subst hn; rw [hc] at e; cases e; simpa using hv
  · have hcc : c' ≠ c := fun q => hn (name_of_addr B.X.apart (mem_of_lookup e) (q ▸ mem_of_lookup hc))
    simpa [hn] using (B.X.cell n c' e).sameBut hs hcc
theorem st_cell {env : Env} {x : Str} {px : Pos} {v : Value} {s s₀ : Shared} {L c : Addr} {cs : List (Str × Addr)} {m cm : Str → Option Value} {Q : Unit → Shared → Prop} {E : Value → Shared → Prop} (B : Bd s₀ L cs m cm s) (hc : cs.lookup x = some c)
    (h : ∀ s₂ cm₂, cm₂ x = some v → (∀ y, y ≠ x → cm₂ y = cm y) → Bd s₀ L cs m cm₂ s₂ → Sol s.heap s₂.heap → Mvd (fun b => b = c) (fun _ => False) s s₂ → Q () s₂)
    (hcs : env.cells = cs := by rfl) (hk : env.scope.kind = .function := by rfl) (hl : env.kindOf x = some .cell := by rfl) :
    wpAny M A (assign (.Name x px) env v) Q E s := by
  subst hcs
  refine wpAny_assign_Name (wpAny_storeName_cell hk hl hc (B.X.cell x c hc) fun h' hv hs => ?_)
  exact h _ _ (if_pos rfl) (fun y hy => if_neg hy) (B.stCell hc hv hs) (sol_cell (B.X.cell x c hc) fun b o hb e => hs.extBut b o hb e) (mvd_same (tk := s.toks) rfl hs)
theorem st_cellv {env : Env} {x : Str} {px spos : Pos} {value : Expr} {s : Shared} (s₀ : Shared) (L : Addr) (cs : List (Str × Addr)) {c : Addr} {Q : Flow → Shared → Prop} {E : Value → Shared → Prop} (hc : cs.lookup x = some c)
    (h : wpAny M A (eval value env) (fun v s₁ => ∃ m cm, Bd s₀ L cs m cm s₁ ∧ ∀ s₂ cm₂, cm₂ x = some v → (∀ y, y ≠ x → cm₂ y = cm y) → Bd s₀ L cs m cm₂ s₂ → Sol s₁.heap s₂.heap → Mvd (fun b => b = c) (fun _ => False) s₁ s₂ → Q .next s₂) E s)
    (hcs : env.cells = cs := by rfl) (hk : env.scope.kind = .function := by rfl) (hl : env.kindOf x = some .cell := by rfl) (hsw : swapsWith value (some (.Name x px)) spos.line env = pure false := by rfl) :
    wpAny M A (exec (.Assign [.Name x px] value spos) env) Q E s := by
  subst hcs
  refine wpAny_Assign_Name (wpAny_mono h (fun v s₁ h₁ => ?_) fun _ _ e => e) hsw
  obtain ⟨m, cm, B, hq⟩ := h₁
  refine wpAny_storeName_cell hk hl hc (B.X.cell x c hc) fun h' hv hs => ?_
  exact hq _ _ (if_pos rfl) (fun y hy => if_neg hy) (B.stCell hc hv hs) (sol_cell (B.X.cell x c hc) fun b o hb e => hs.extBut b o hb e) (mvd_same (tk := s₁.toks) rfl hs)

/-- a row and one number behind it -/
theorem op_row_snoc {env : Env} {e e2 : Expr} {kk : Nat} {p p2 : Pos} {s : Shared} {Q : Value → Shared → Prop} {E : Value → Shared → Prop}
    (h : wpAny (model prog w) A (eval e env) (fun v s₁ => wpAny (model prog w) A (eval e2 env) (fun u s₂ => ∃ r n t, RowIs s₂.heap v r ∧ r.length ≤ 1000 ∧ u = .int n t ∧ ∀ y s', RowIs s'.heap y (r ++ [n]) → Kp s₂ s' → Q y s') E s₁) E s)
    (he : starEach [e2] env = (false, eval e2 env) :: starEach [] env := by with_unfolding_all rfl) :
    wpAny (model prog w) A (eval (.BinOp e .Add (.Tuple [e2] kk p) p2) env) Q E s := by
  refine wpAny_BinOp (wpAny_mono h (fun v s₁ h₁ => op_tuple1 (wpAny_mono h₁ (fun u s₂ h₂ a s₃ ht hd k₃ => ?_) fun _ _ e => e) he) fun _ _ e => e)
  obtain ⟨r, n, t, ⟨b, vs, rfl, hb, hi⟩, hz, rfl, hq⟩ := h₂
  have hl := hi.length
  refine op_add_tup (ws := [.int n t]) (k₃.tup hb) ht (by simp; omega) fun y s₄ hy hd₄ k₄ => ?_
  exact hq _ _ ⟨y, _, rfl, hy, ints_push hi n t⟩ (k₃.trans k₄)

theorem prd_len {α β : Type} {F : α → β → Prop} : ∀ {l₁ : List α} {l₂ : List β}, Paired F l₁ l₂ → l₁.length = l₂.length
  | _, _, .nil => rfl
  | _, _, .cons _ r => by simp [prd_len r]
theorem prd_get {α β : Type} {F : α → β → Prop} : ∀ {l₁ : List α} {l₂ : List β}, Paired F l₁ l₂ → ∀ {i : Nat} {a : α}, l₁[i]? = some a → ∃ b, l₂[i]? = some b ∧ F a b
  | _, _, .nil, i, a, h => by simp at h
  | _, _, .cons hf r, 0, a, h => by cases h; exact ⟨_, rfl, hf⟩
  | _, _, .cons hf r, i + 1, a, h => by
    obtain ⟨b, h1, h2⟩ := prd_get r (i := i) (by simpa using h)
    exact ⟨b, by simpa using h1, h2⟩
theorem prd_get' {α β : Type} {F : α → β → Prop} : ∀ {l₁ : List α} {l₂ : List β}, Paired F l₁ l₂ → ∀ {i : Nat} {b : β}, l₂[i]? = some b → ∃ a, l₁[i]? = some a ∧ F a b
  | _, _, .nil, i, a, h => by simp at h
  | _, _, .cons hf r, 0, a, h => by cases h; exact ⟨_, rfl, hf⟩
  | _, _, .cons hf r, i + 1, a, h => by
    obtain ⟨b, h1, h2⟩ := prd_get' r (i := i) (by simpa using h)
    exact ⟨b, by simpa using h1, h2⟩
theorem prd_of {α β : Type} {F : α → β → Prop} : ∀ {l₁ : List α} {l₂ : List β}, l₁.length = l₂.length → (∀ (i : Nat) (a : α), l₁[i]? = some a → ∃ b, l₂[i]? = some b ∧ F a b) → Paired F l₁ l₂
  | [], [], _, _ => .nil
  | [], _ :: _, h, _ => by simp at h
  | _ :: _, [], h, _ => by simp at h
  | a :: l₁, b :: l₂, h, k => by
    obtain ⟨b', h1, h2⟩ := k 0 a rfl
    have : b = b' := by simpa using h1
    subst this
    exact .cons h2 (prd_of (by simpa using h) fun i z hz => by simpa using k (i + 1) z (by simpa using hz))
theorem prd_take {α β : Type} {F : α → β → Prop} : ∀ {l₁ : List α} {l₂ : List β}, Paired F l₁ l₂ → ∀ n, Paired F (l₁.take n) (l₂.take n)
  | _, _, _, 0 => by simp; exact .nil
  | _, _, .nil, _ + 1 => by simp; exact .nil
  | _, _, .cons hf r, n + 1 => by simp; exact .cons hf (prd_take r n)

/-- rows, item by item -/
def RowAt (rs : List (List Int)) (i : Nat) (y : Value) (s : Shared) : Prop := ∃ r, rs[i]? = some r ∧ RowIs s.heap y r
theorem rowAt_stable (rs : List (List Int)) : FStable (RowAt rs) := fun _ _ _ _ _ _ ⟨r, h1, h2⟩ hD _ hs => ⟨r, h1, solb_row hs hD h2⟩
theorem ext_row {s s' : Shared} (x : Ext s s') {v : Value} {r : List Int} (k : RowIs s.heap v r) : RowIs s'.heap v r := sol_row (sol_ext x) k
theorem ext_rows {s s' : Shared} (x : Ext s s') {v : Value} {r : List (List Int)} (k : RowsIs s.heap v r) : RowsIs s'.heap v r := sol_rows (sol_ext x) k
theorem made_rows {rs : List (List Int)} {s s' : Shared} {D : Addr} {n : Nat} (hn : n = rs.length) (X : Made n (RowAt rs) s D s') : ∃ ys, s'.heap.IsList D (List.toArray ys) ∧ Paired (RowIs s'.heap) ys rs := by
  obtain ⟨ys, h1, h2, h3, h4, h5⟩ := X
  exact ⟨ys, h1.isList, prd_of (by omega) fun i a ha => (h3 i a ha).1⟩
theorem upto_pick {vs : List Value} {y : Int} (h : 0 ≤ y) : (slicePick vs.toArray none (some y) none).toList = vs.take y.toNat := by
  have e : sliceBounds none (some y) none vs.toArray.size = (((0 : Nat) : Int), ((min y.toNat vs.toArray.size : Nat) : Int), 1) := by
    simp only [sliceBounds, Option.getD_none, show (1 : Int) > 0 by decide, if_true, if_neg (show ¬ (y < 0) by omega)]
    congr 1
    congr 1
    omega
  rw [kmk_pick_nat _ e]
  show ((vs.drop 0).take (min y.toNat vs.toArray.size - 0)) = _
  rw [List.drop_zero, Nat.sub_zero, List.size_toArray, kmk_take_min]
end
end Mine

namespace Mine
set_option maxRecDepth 100000
open Sem (wp)

def lowPart (chain : List (List Int)) (k : Nat) : List (List Int) := (chain.take (chain.length - k)).map fun r => r ++ [(k : Int)]
def highPart (b : Int) (chain : List (List Int)) (k : Nat) : List (List Int) := (List.range (b - k).toNat).map fun (i : Nat) => chain.getD (chain.length - k - 1) [] ++ [(k : Int) + 1 + (i : Int)]
def newChain (b : Int) (chain : List (List Int)) (k : Nat) : List (List Int) := lowPart chain k ++ highPart b chain k
def growOne (b : Int) (chain : List (List Int)) : List (List (List Int)) := (List.range (min b ((chain.length : Int) - 1) + 1).toNat).map (newChain b chain)
def growAll (b : Int) (chains : List (List (List Int))) : List (List (List Int)) := chains.flatMap (growOne b)
def chainsFrom (cs : List (List (List Int))) (bs : List Int) : List (List (List Int)) := bs.foldl (fun cs b => growAll b cs) cs
def chainsOf (bs : List Int) : List (List (List Int)) := chainsFrom [[[]]] bs

def okChain (c : List (List Int)) : Bool := decide (1 ≤ c.length) && decide (c.length ≤ 900) && c.all fun r => decide (r.length ≤ 900)

section
variable {prog : Program} {w : World} {A : Around} {mg mb : Str → Option Value}
abbrev chns : DefRec := defAt 5
abbrev envH (L fa : Addr) (cd : Value) : Env := envOfC chns.name chns.scope L fa cd
abbrev csH (L : Addr) : List (Str × Addr) := cellsFrom (L + 1) chns.scope.names []
def forBody' : Stmt → List Stmt
  | .For _ _ b _ _ => b
  | _ => []
def outerB : List Stmt := forBody' (StmtAt chns.body 1)
def midB : List Stmt := forBody' (StmtAt outerB 1)
def innB : List Stmt := forBody' (StmtAt midB 0)

theorem kcell (L : Addr) : (csH L).lookup (Str.ofString "k") = some (L + 1 + 1) := by rfl
theorem ccell (L : Addr) : (csH L).lookup (Str.ofString "chain") = some (L + 1) := by rfl

theorem chain_step {fa : Addr} {cd : Value} {s₀ s : Shared} {L F c : Addr} {m cm : Str → Option Value} (hh : A.handled = none) (G : Glo mg mb s₀.heap) (B : Bd s₀ L (csH L) m cm s) {b : Int} {k : Nat} {tb tk : Tok} {chain : List (List Int)} {ws : List Value}
    (hm1 : m "after" = some (.ref F)) (hm2 : m "bound" = some (.int b tb)) (hc1 : cm "chain" = some (.ref c)) (hc2 : cm "k" = some (.int k tk)) (hok : okChain chain = true) (hch : RowsIs s.heap (.ref c) chain) (hk : k < chain.length) (hkb : k ≤ b) (hb : b ≤ 100)
    (hF : s₀.heap.get? F = none) (hl : PlainL s.heap F ws.toArray) (hz : ws.length ≤ 90000) {Q : Flow → Shared → Prop}
    (h : ∀ s' v, Bd s₀ L (csH L) m cm s' → PlainL s'.heap F (List.toArray (ws ++ [v])) → RowsIs s'.heap v (newChain b chain k) → v ≠ .ref F → SolBut F s.heap s'.heap → Mvd (fun b => b = F) (fun _ => False) s s' → Q .next s') :
    wpAny (model prog w) A (exec (StmtAt innB 0) (envH L fa cd)) Q (fun _ _ => False) s := by
  simp only [okChain, Bool.and_eq_true, decide_eq_true_eq, List.all_eq_true] at hok
  obtain ⟨⟨hlen1, hlen2⟩, hrl⟩ := hok
  obtain ⟨c', vs, e, hcl, hcv⟩ := hch
  cases e
  have hvl : vs.length = chain.length := prd_len hcv
  have hGlo : ∀ s', Ext s₀ s' → Glo mg mb s'.heap := fun s' x => G.keeps fun _ _ e => ext_get x e
  refine wpAny_Expr_any (wpAny_Call_append (by rfl) (by rfl) (by rfl) (by rfl) (nm_local (env := envH L fa cd) B.ns hm1 ⟨F, _, rfl, hl, wpAny_BinOp ?_⟩))
  have hlow : (vs.take (chain.length - k)).length = (lowPart chain k).length := by simp [lowPart, hvl]
  refine comp_eval (cl := [(Str.ofString "k", L + 1 + 1)]) hh (vs.take (chain.length - k)).length (fun i v => (vs.take (chain.length - k))[i]? = some v) (by simp; omega) (RowAt (lowPart chain k)) (rowAt_stable _) (by rfl) (by decide) (by rfl) (by decide) (by rfl) ?_ (by intro _; rfl)
  refine op_slice (nm_cell (env := envH L fa cd) (B.cell (ccell L) hc1) (ccell L) (wpAny_evalPart_none (wpAny_evalPart_some (wpAny_BinOp (cb1 (hGlo _ B.ext) boot_len (nm_cell (env := envH L fa cd) (B.cell (ccell L) hc1) (ccell L) (op_len_list hcl (by rw [List.size_toArray]; omega) fun t1 s₁ k₁ => nm_cell (env := envH L fa cd) ((B.kp k₁).cell (kcell L) hc2) (kcell L) (sub_int ?_))))))))
  have hy : ((vs.toArray.size : Nat) : Int) - (k : Int) = ((chain.length - k : Nat) : Int) := by rw [List.size_toArray]; omega
  rw [hy]
  refine ⟨c, vs, none, some ((chain.length - k : Nat) : Int), rfl, k₁.list hcl, by omega, .none, .int _ _, fun D₁ s₂ hD₁ hdD₁ k₂ => ?_⟩
  rw [upto_pick (by omega), Int.toNat_natCast] at hD₁
  have K₂ := (k₁.trans (Kp.tok (tk := s₁.toks + 1))).trans k₂
  have B₂ := B.kp K₂
  refine src_list (vs := vs.take (chain.length - k)) hD₁ fun I s₃ S₃ => ⟨I, rfl, S₃, ?_, ?_⟩
  · intro i v C D acc s₄ m₄ hi₄ hv hx hD hDl hn hmx
    obtain ⟨r, hr, hri⟩ := prd_get (prd_take hcv _) hv
    have hx' := ext_trans (ext_kp K₂) hx
    refine op_row_snoc (nm_local (env := compEnvC _ _ C _) hn hmx (nm_cell (env := compEnvC _ _ C _) (ext_cell hx (B₂.cell (kcell L) hc2)) (by rfl) ⟨r, k, tk, ext_row hx' hri, ?_, rfl, fun y s' hy k' => ⟨ext_kp k', ⟨_, ?_, hy⟩, row_ne hy (k'.list hDl)⟩⟩))
    · have := hrl r (List.mem_of_mem_take (List.mem_of_getElem? hr)); omega
    · rw [lowPart, List.getElem?_map, hr]; rfl
  · intro D₂ s₃ hM₃
    obtain ⟨ys, hys, hyp⟩ := made_rows hlow hM₃
    have X₃ : Ext s s₃ := ext_trans (ext_kp K₂) (by obtain ⟨_, _, _, _, _, e⟩ := hM₃; exact e)
    have B₃ := B.ext' X₃
    have hcl₃ := ext_list X₃ hcl
    -- the second comprehension
    refine comp_eval (cl := [(Str.ofString "k", L + 1 + 1), (Str.ofString "chain", L + 1)]) hh (b - k).toNat (fun i v => ∃ t, v = .int ((k : Int) + 1 + (i : Int)) t) (by omega) (RowAt (highPart b chain k)) (rowAt_stable _) (by rfl) (by decide) (by rfl) (by decide) (by rfl) ?_ (by intro _; rfl)
    refine ct2 (hGlo _ B₃.ext) PyProof.Rows.Boot.«range» (wpAny_BinOp (nm_cell (env := envH L fa cd) (B₃.cell (kcell L) hc2) (kcell L) (wpAny_Constant_int (add_int (wpAny_BinOp (nm_local (env := envH L fa cd) (((B₃.kp Kp.tok).kp Kp.tok).ns) hm2 (wpAny_Constant_int (add_int (op_range2 fun R u₄ s₄ hR hdR k₄ => ?_)))))))))
    have K₄ := (((((Kp.tok (s := s₃) (tk := s₃.toks + 1)).trans (Kp.tok (tk := s₃.toks + 1 + 1))).trans (Kp.tok (tk := s₃.toks + 1 + 1 + 1))).trans (Kp.tok (tk := s₃.toks + 1 + 1 + 1 + 1))).trans k₄)
    have B₄ := B₃.kp K₄
    refine src_range hR (by omega) (by omega) (by omega) (by omega) (by omega) fun I₂ s₅ S₅ => ⟨I₂, rfl, S₅, ?_, ?_⟩
    · rintro i v C D acc s₆ m₆ hi₆ ⟨t, rfl⟩ hx hD hDl hn hmx
      have X₆ : Ext s s₆ := ext_trans (ext_trans X₃ (ext_kp K₄)) hx
      have hcl₆ := ext_list X₆ hcl
      have hcc : s₆.heap.IsCell (L + 1) (some (.ref c)) := ext_cell hx (B₄.cell (ccell L) hc1)
      have hkc : s₆.heap.IsCell (L + 1 + 1) (some (.int k tk)) := ext_cell hx (B₄.cell (kcell L) hc2)
      obtain ⟨r, hr⟩ : ∃ r, chain[chain.length - k - 1]? = some r := ⟨_, List.getElem?_eq_getElem (by omega)⟩
      obtain ⟨v0, hv0, hri⟩ := prd_get' hcv hr
      refine op_row_snoc (Subscript_ (nm_cell (env := compEnvC _ _ C _) hcc (by rfl) (wpAny_BinOp (wpAny_BinOp (cb1 (env := compEnvC _ _ C _) (hGlo _ (ext_trans B.ext X₆)) boot_len (nm_cell (env := compEnvC _ _ C _) hcc (by rfl) (op_len_list hcl₆ (by rw [List.size_toArray]; omega) fun t7 s₇ k₇ => nm_cell (env := compEnvC _ _ C _) (hkc.keeps fun _ _ e => k₇.get e) (by rfl) (sub_int (wpAny_Constant_int (sub_int ?_))))))))))
      have hidx : ((vs.toArray.size : Nat) : Int) - (k : Int) - 1 = ((chain.length - k - 1 : Nat) : Int) := by rw [List.size_toArray]; omega
      rw [hidx]
      have K₇ := ((k₇.trans (Kp.tok (tk := s₇.toks + 1))).trans (Kp.tok (tk := s₇.toks + 1 + 1))).trans (Kp.tok (tk := s₇.toks + 1 + 1 + 1))
      refine op_sub_list (k₇.list hcl₆) (by omega) (x := v0) (by rw [Int.toNat_natCast]; simpa using hv0) (by rw [List.size_toArray]; omega) ?_
      refine nm_local (env := compEnvC _ _ C _) (K₇.ns hn) hmx ⟨r, _, t, ext_row (ext_trans X₆ (ext_kp K₇)) hri, ?_, rfl, fun y s' hy k' => ⟨ext_kp (K₇.trans k'), ⟨_, ?_, hy⟩, row_ne hy ((K₇.trans k').list hDl)⟩⟩
      · have := hrl r (List.mem_of_getElem? hr); omega
      · rw [highPart, List.getElem?_map, List.getElem?_range (by omega)]
        simp [List.getD, hr]
    · intro D₃ s₆ hM₆
      obtain ⟨zs, hzs, hzp⟩ := made_rows (by simp [highPart]) hM₆
      have X₆' : Ext s₃ s₆ := ext_trans (ext_kp K₄) (by obtain ⟨_, _, _, _, _, e⟩ := hM₆; exact e)
      have hyl : ys.length ≤ 1000 := by have := prd_len hyp; simp [lowPart] at this; omega
      have hzl : zs.length ≤ 1000 := by have := prd_len hzp; simp [highPart] at this; omega
      refine op_add_list (ext_list X₆' hys) hzs (by omega) fun N s₇ hN hdN k₇ => ?_
      have X₇ : Ext s s₇ := ext_trans (ext_trans X₃ X₆') (ext_kp k₇)
      have hl₇ : PlainL s₇.heap F ws.toArray := hl.keeps fun _ _ e => ext_get X₇ e
      have hNF : N ≠ F := by
        rintro rfl
        obtain ⟨o, n, e, _⟩ := hl
        have := ext_get (ext_trans X₃ X₆') e
        rw [this] at hdN; cases hdN
      have hrows : Paired (RowIs s₇.heap) (ys ++ zs) (newChain b chain k) := prd_append (prd_map hyp fun _ _ _ r => ext_row (ext_trans X₆' (ext_kp k₇)) r) (prd_map hzp fun _ _ _ r => ext_row (ext_kp k₇) r)
      refine list_append_plainL hl₇ (fun h₈ hl₈ hs₈ => ?_) (size_line (by rw [List.size_toArray]; omega))
      have hsb : SolBut F s₇.heap h₈ := fun b o xs n hb e _ => hs₈.extBut b o hb e
      refine h _ (.ref N) ((B.ext' X₇).app hl₇ hF hs₈) (by rw [← List.push_toArray]; exact hl₈) ⟨N, _, rfl, solb_list hsb hN hNF, prd_map hrows fun _ _ _ r => solb_row hsb hl₇.isList r⟩ (by intro e; cases e; exact hNF rfl) ?_ ?_
      · exact fun b o xs n hb e d => hs₈.extBut b o hb (ext_get X₇ e)
      · exact (Mvd.trans (X₇.mono (fun _ h => False.elim h) fun _ h => h) (mvd_same (tk := s₇.toks) rfl hs₈))

/-- the state while one bound is taken: s_b is the state at its start, C the list of the chains so far, F the new one -/
structure Grow (sb s : Shared) (m : Str → Option Value) (F : Addr) (b : Int) (acc : List (List (List Int))) : Prop where
  after : m "after" = some (.ref F)
  bound : ∃ t, m "bound" = some (.int b t)
  dF : sb.heap.get? F = none
  sol : Sol sb.heap s.heap
  acc : ∃ ws, PlainL s.heap F (List.toArray ws) ∧ Paired (fun v c => RowsIs s.heap v c ∧ v ≠ .ref F) ws acc
theorem Grow.sol' {sb s s' : Shared} {m m' : Str → Option Value} {F : Addr} {b : Int} {acc : List (List (List Int))} (X : Grow sb s m F b acc) (x : Sol s.heap s'.heap) (h1 : m' "after" = m "after") (h2 : m' "bound" = m "bound") : Grow sb s' m' F b acc :=
  ⟨h1.trans X.after, let ⟨t, e⟩ := X.bound; ⟨t, h2.trans e⟩, X.dF, sol_trans X.sol x, let ⟨ws, h3, h4⟩ := X.acc; ⟨ws, plainL_sol x h3, prd_map h4 fun _ _ _ r => ⟨sol_rows x r.1, r.2⟩⟩⟩
theorem Grow.mvd {sb s s' : Shared} {m : Str → Option Value} {F L : Addr} {cs : List (Str × Addr)} (x : Mvd (fun b => b = F) (fun _ => False) s s') : Stp L cs (fun b => b = F) s s' := x.mono (fun _ h => .inr h) fun _ h => h

theorem inner_grow {fa : Addr} {cd : Value} {s₀ sb s : Shared} {L F c : Addr} {m cm : Str → Option Value} (hh : A.handled = none) (G : Glo mg mb s₀.heap) (B : Bd s₀ L (csH L) m cm s) {b : Int} {chain : List (List Int)} {acc : List (List (List Int))}
    (hc1 : cm "chain" = some (.ref c)) (hok : okChain chain = true) (hch : RowsIs sb.heap (.ref c) chain) (hb0 : 0 ≤ b) (hb : b ≤ 100) (hF : s₀.heap.get? F = none) (X : Grow sb s m F b acc) (hz : acc.length + (growOne b chain).length ≤ 90000) {Q : Flow → Shared → Prop}
    (h : ∀ s' m' cm', Bd s₀ L (csH L) m' cm' s' → m' "chains" = m "chains" → Grow sb s' m' F b (acc ++ growOne b chain) → Stp L (csH L) (fun b => b = F) s s' → Q .next s') :
    wpAny (model prog w) A (exec (StmtAt midB 0) (envH L fa cd)) Q (fun _ _ => False) s := by
  have hlens := hok
  simp only [okChain, Bool.and_eq_true, decide_eq_true_eq, List.all_eq_true] at hlens
  obtain ⟨⟨hlen1, hlen2⟩, hrl⟩ := hlens
  have hGlo : ∀ s', Ext s₀ s' → Glo mg mb s'.heap := fun s' x => G.keeps fun _ _ e => ext_get x e
  have hgl : (growOne b chain).length = (min b ((chain.length : Int) - 1) + 1).toNat := by simp [growOne]
  obtain ⟨tb, hbd⟩ := X.bound
  have hFlive : ∃ o, s.heap.get? F = some o := let ⟨ws, ⟨o, n, e, _⟩, _⟩ := X.acc; ⟨o, e⟩
  refine for_range (a := 0) (b := min b ((chain.length : Int) - 1) + 1) (n := (growOne b chain).length) hh B (fun b => b = F) (by rintro _ rfl; exact hFlive) (by rw [hgl]; omega) (by omega) (by omega) (by omega) (by omega)
    (fun i m' cm' s' => m' "chains" = m "chains" ∧ cm' "chain" = some (.ref c) ∧ Grow sb s' m' F b (acc ++ (growOne b chain).take i)) ?_ ?_ ?_ ?_ ?_ (by intro _; rfl) (by intro _ _; rfl)
  · rintro i m' cm' s₁ s₂ ⟨h1, h2, h3⟩ x
    exact ⟨h1, h2, h3.sol' x rfl rfl⟩
  · intro Q' hq
    obtain ⟨c', vs, e, hcl, hcv⟩ := sol_rows X.sol hch
    cases e
    have hvl := prd_len hcv
    refine ct1 (hGlo _ B.ext) PyProof.Rows.Boot.«range» (wpAny_BinOp (cb2 (hGlo _ B.ext) PyProof.Rows.Boot.«min» (nm_local (env := envH L fa cd) B.ns hbd (wpAny_BinOp (cb1 (hGlo _ B.ext) boot_len (nm_cell (env := envH L fa cd) (B.cell (ccell L) hc1) (ccell L) (op_len_list hcl (by rw [List.size_toArray]; omega) fun t1 s₁ k₁ => wpAny_Constant_int (sub_int (op_min2 hh fun t2 s₂ k₂ => wpAny_Constant_int (add_int (op_range1 fun R t3 u3 s₃ hR hdR k₃ => ?_)))))))))))
    have e : min b (((vs.toArray.size : Nat) : Int) - 1) + 1 = min b ((chain.length : Int) - 1) + 1 := by rw [List.size_toArray, hvl]
    rw [e] at hR
    exact hq _ _ _ _ _ hR (ext_kp ((((((k₁.trans (Kp.tok (tk := s₁.toks + 1))).trans (Kp.tok (tk := s₁.toks + 1 + 1))).trans k₂).trans (Kp.tok (tk := s₂.toks + 1))).trans (Kp.tok (tk := s₂.toks + 1 + 1))).trans k₃))
  · exact ⟨rfl, hc1, by simpa using X⟩
  · rintro i t s₁ m₁ cm₁ hi B₁ ⟨h1, h2, X₁⟩ S₁
    refine st_cell B₁ (kcell L) fun s₂ cm₂ e₂ n₂ B₂ x₂ M₂ => ?_
    have X₂ := X₁.sol' x₂ (m' := m₁) rfl rfl
    obtain ⟨tb₂, hbd₂⟩ := X₂.bound
    obtain ⟨ws, hw1, hw2⟩ := X₂.acc
    have hwl := prd_len hw2
    rw [Int.zero_add] at e₂
    refine wpAny_execs_cons (chain_step hh G B₂ X₂.after hbd₂ ((n₂ _ (by decide)).trans h2) e₂ hok (sol_rows X₂.sol hch) (by omega) (by omega) hb hF hw1 (by simp at hwl; omega) fun s₃ v B₃ hl₃ hv hvF hsb M₃ => wpAny_execs_nil ?_)
    refine ⟨m₁, cm₂, B₃, ⟨h1, (n₂ _ (by decide)).trans h2, X₂.after, ⟨tb₂, hbd₂⟩, X₂.dF, ?_, ⟨ws ++ [v], hl₃, ?_⟩⟩, ?_⟩
    · intro b o xs n e d
      exact hsb b o xs n (by rintro rfl; rw [X₂.dF] at e; cases e) (X₂.sol b o xs n e d) d
    · have e : acc ++ (growOne b chain).take (i + 1) = (acc ++ (growOne b chain).take i) ++ [newChain b chain i] := by
        have : (growOne b chain)[i]? = some (newChain b chain i) := by
          rw [growOne, List.getElem?_map, List.getElem?_range (by omega)]; rfl
        rw [List.take_succ, this, List.append_assoc]; rfl
      rw [e]
      exact prd_append (prd_map hw2 fun _ _ _ r => ⟨solb_rows hsb hw1.isList r.1 r.2, r.2⟩) (.cons ⟨hv, hvF⟩ .nil)
    · exact (M₂.mono (fun b h => .inl (.inr ⟨_, by rw [h]; exact kcell L⟩)) fun _ h => h).trans (M₃.mono (fun b h => .inr h) fun _ h => h)
  · rintro s₁ m₁ cm₁ B₁ ⟨h1, h2, X₁⟩ S₁
    rw [List.take_length] at X₁
    exact h s₁ m₁ cm₁ B₁ h1 X₁ S₁
end
end Mine

namespace Mine
set_option maxRecDepth 100000
open Sem (wp)
section
variable {prog : Program} {w : World} {A : Around} {mg mb : Str → Option Value}

theorem bs_take_flat (b : Int) (chains : List (List (List Int))) (i : Nat) (c : List (List Int)) (h : chains[i]? = some c) : growAll b (chains.take (i + 1)) = growAll b (chains.take i) ++ growOne b c := by
  rw [List.take_add_one, h]
  simp [growAll]
theorem growAll_take_le (b : Int) (chains : List (List (List Int))) (i : Nat) : (growAll b (chains.take i)).length ≤ (growAll b chains).length := by
  have e : growAll b chains = growAll b (chains.take i) ++ growAll b (chains.drop i) := by
    unfold growAll
    rw [← List.flatMap_append, List.take_append_drop]
  rw [e, List.length_append]
  omega

theorem mid_grow {fa : Addr} {cd : Value} {s₀ s : Shared} {L C F : Addr} {m cm : Str → Option Value} (hh : A.handled = none) (G : Glo mg mb s₀.heap) (B : Bd s₀ L (csH L) m cm s) {b : Int} {chains : List (List (List Int))} 
    (hm1 : m "chains" = some (.ref C)) (hok : ∀ c ∈ chains, okChain c = true) (sb : Shared) (hch : RowssIs sb.heap (.ref C) chains) (hb0 : 0 ≤ b) (hb : b ≤ 100) (hF : s₀.heap.get? F = none) (X : Grow sb s m F b []) (hz : (growAll b chains).length ≤ 90000) {Q : Flow → Shared → Prop}
    (h : ∀ s' m' cm', Bd s₀ L (csH L) m' cm' s' → Grow sb s' m' F b (growAll b chains) → Stp L (csH L) (fun b => b = F) s s' → Q .next s') :
    wpAny (model prog w) A (exec (StmtAt outerB 1) (envH L fa cd)) Q (fun _ _ => False) s := by
  obtain ⟨C', vs, e, hC, hcv⟩ := hch
  cases e
  have hvl := prd_len hcv
  have hFlive : ∃ o, s.heap.get? F = some o := let ⟨ws, ⟨o, n, e, _⟩, _⟩ := X.acc; ⟨o, e⟩
  have hCF : C ≠ F := by
    rintro rfl
    obtain ⟨o, e, _⟩ := hC
    rw [X.dF] at e; cases e
  refine for_list hh B (fun b => b = F) (by rintro _ rfl; exact hFlive) (sol_list X.sol hC) hCF
    (fun i m' cm' s' => Grow sb s' m' F b (growAll b (chains.take i))) ?_ ?_ ?_ ?_ ?_ (by intro _; rfl) (by intro _ _; rfl)
  · rintro i m' cm' s₁ s₂ X₁ x
    exact X₁.sol' x rfl rfl
  · intro Q' hq
    exact nm_local (env := envH L fa cd) B.ns hm1 (hq _ .refl)
  · exact X
  · rintro i v s₁ m₁ cm₁ hi hv B₁ X₁ S₁
    obtain ⟨c, hc, hcr⟩ := prd_get hcv hv
    obtain ⟨a, us, rfl, ha, hap⟩ := hcr
    refine st_cell B₁ (ccell L) fun s₂ cm₂ e₂ n₂ B₂ x₂ M₂ => ?_
    have X₂ := X₁.sol' x₂ (m' := m₁) rfl rfl
    have hg := bs_take_flat b chains i c hc
    refine wpAny_execs_cons (inner_grow hh G B₂ e₂ (hok c (List.mem_of_getElem? hc)) ⟨a, us, rfl, ha, hap⟩ hb0 hb hF X₂ ?_ fun s₃ m₃ cm₃ B₃ _ X₃ S₃ => wpAny_execs_nil ⟨m₃, cm₃, B₃, ?_, ?_⟩)
    · have := growAll_take_le b chains (i + 1)
      rw [hg, List.length_append] at this
      omega
    · rw [hg]; exact X₃
    · exact (M₂.mono (fun b h => .inl (.inr ⟨_, by rw [h]; exact ccell L⟩)) fun _ h => h).trans S₃
  · rintro s₁ m₁ cm₁ B₁ X₁ S₁
    rw [hvl, List.take_length] at X₁
    exact h s₁ m₁ cm₁ B₁ X₁ S₁

theorem op_list0 {env : Env} {pos : Pos} {s : Shared} {Q : Value → Shared → Prop} {E : Value → Shared → Prop} (h : ∀ D s', s'.heap.PlainList D #[] → s.heap.get? D = none → Kp s s' → Q (.ref D) s') : wpAny (model prog w) A (eval (.List [] pos) env) Q E s := by
  refine wpAny_List (wpAny_items_nil ⟨size_line (by simp), ?_⟩)
  exact h _ _ ⟨0, Heap.get?_push_size _ rfl⟩ (Heap.get?_none_of_le (Nat.le_refl _)) Kp.push'

theorem op_list1 {env : Env} {e : Expr} {pos : Pos} {s : Shared} {Q : Value → Shared → Prop} {E : Value → Shared → Prop} (h : wpAny (model prog w) A (eval e env) (fun v s₁ => ∀ D s', s'.heap.PlainList D #[v] → s₁.heap.get? D = none → Kp s₁ s' → Q (.ref D) s') E s)
    (he : starEach [e] env = (false, eval e env) :: starEach [] env := by with_unfolding_all rfl) : wpAny (model prog w) A (eval (.List [e] pos) env) Q E s := by
  refine wpAny_List (wpAny_items_cons (wpAny_mono h (fun v s₁ h₁ => wpAny_items_nil ⟨size_line (by simp), ?_⟩) fun _ _ x => x) he)
  exact h₁ _ _ ⟨0, Heap.get?_push_size _ rfl⟩ (Heap.get?_none_of_le (Nat.le_refl _)) Kp.push'
theorem op_tupleE {env : Env} {k : Nat} {pos : Pos} {s : Shared} {Q : Value → Shared → Prop} {E : Value → Shared → Prop} (h : ∀ a s', IsTup s'.heap a #[] → s.heap.get? a = none → Kp s s' → Q (.ref a) s') :
    wpAny (model prog w) A (eval (.Tuple [] k pos) env) Q E s := by
  refine wpAny_Tuple (wpAny_items_nil ⟨size_line (by simp), ?_⟩)
  exact h _ _ (IsTup.new ..) (Heap.get?_none_of_le (Nat.le_refl _)) Kp.push'

structure OkB (bs : List Int) : Prop where
  good : GoodBs bs
  chain : ∀ i, i ≤ bs.length → (chainsOf (bs.take i)).length ≤ 90000 ∧ ∀ c ∈ chainsOf (bs.take i), okChain c = true

theorem chainsOf_succ {bs : List Int} {i : Nat} {b : Int} (h : bs[i]? = some b) : chainsOf (bs.take (i + 1)) = growAll b (chainsOf (bs.take i)) := by
  rw [List.take_add_one, h]
  simp [chainsOf, chainsFrom]

theorem chains_call {fa : Addr} {cd : Value} {s : Shared} {k : Nat} (hA : OkA (k + 8) A) (G : Glo mg mb s.heap) (X : FnAt mg s.heap chns fa cd) {l : Addr} {vs : List Value} {bs : List Int} (hl : s.heap.IsList l vs.toArray) (hi : IntsAre vs bs) (hok : OkB bs)
    {Q : Value → Shared → Prop} {E : Value → Shared → Prop} (h : ∀ D s', RowssIs s'.heap (.ref D) (chainsOf bs) → Ext s s' → Q (.ref D) s') :
    wpAny (model prog w) A (call (.ref fa) [.ref l]) Q E s := by
  refine enter (k := k + 7) hA G X (binds := [(Str.ofString "bounds", .ref l)]) (fun pm doc => by rfl) ?_ fun L s₁ hL B hA' => ?_
  · intro x hx
    obtain rfl := List.mem_singleton.mp hx
    exact .inl (by rfl)
  have hm1 : (bindL (envOfC chns.name chns.scope L fa cd).kindOf [(Str.ofString "bounds", .ref l)] fun _ => none) "bounds" = some (.ref l) := by rfl
  generalize (bindL (envOfC chns.name chns.scope L fa cd).kindOf [(Str.ofString "bounds", .ref l)] fun _ => none) = m at hm1 B
  generalize (bindC (envOfC chns.name chns.scope L fa cd).kindOf [(Str.ofString "bounds", .ref l)] fun _ => none) = cm at B
  clear hL
  generalize hA2 : A.deeper (envOfC chns.name chns.scope L fa cd) = A₁ at hA'
  have hvl : vs.length = bs.length := hi.length
  -- chains = [[()]]
  refine wpAny_execs_cons (st_let s L (csH L) (op_list1 (op_list1 (op_tupleE fun a₁ s₂ ht hd₁ k₂ D₁ s₃ hD₁ hdD₁ k₃ D₂ s₄ hD₂ hdD₂ k₄ => ?_))))
  have K₄ := (k₂.trans k₃).trans k₄
  refine ⟨m, cm, B.kp K₄, fun s₅ m₅ e₅ n₅ B₅ x₅ M₅ => ?_⟩
  have h0 : RowssIs s₅.heap (.ref D₂) (chainsOf (bs.take 0)) := by
    refine sol_rowss x₅ ⟨D₂, [.ref D₁], rfl, hD₂.isList, .cons ⟨D₁, [.ref a₁], rfl, k₄.list hD₁.isList, .cons ⟨a₁, [], rfl, k₄.tup (k₃.tup ht), .nil⟩ .nil⟩ .nil⟩
  have hl₅ := ext_list B₅.ext hl
  refine wpAny_execs_cons (for_list hA'.handled B₅ (fun _ => False) (fun _ h => False.elim h) hl₅ (fun h => h)
    (fun i m' cm' s' => ∃ C, m' "chains" = some (.ref C) ∧ RowssIs s'.heap (.ref C) (chainsOf (bs.take i))) ?_ ?_ ?_ ?_ ?_ (by intro _; rfl) (by intro _ _; rfl))
  · rintro i m' cm' s₁ s₂ ⟨C, h1, h2⟩ x
    exact ⟨C, h1, sol_rowss x h2⟩
  · intro Q' hq
    exact nm_local (env := envH L fa cd) B₅.ns ((n₅ _ (by decide)).trans hm1) (hq _ .refl)
  · exact ⟨D₂, e₅, h0⟩
  · rintro i v s₆ m₆ cm₆ hi₆ hv B₆ ⟨C, h1, h2⟩ S₆
    obtain ⟨b, tb, rfl, hb⟩ := ints_get hi hv
    have hbr := hok.good.rng b (List.mem_of_getElem? hb)
    have hok₁ := hok.chain i (by omega)
    have hok₂ := hok.chain (i + 1) (by omega)
    rw [chainsOf_succ hb] at hok₂
    refine st_name B₆ fun s₇ m₇ e₇ n₇ B₇ x₇ M₇ => ?_
    have h2₇ := sol_rowss x₇ h2
    refine wpAny_execs_cons (st_let s L (csH L) (op_list0 fun F s₈ hF hdF k₈ => ⟨_, _, B₇.kp k₈, fun s₉ m₉ e₉ n₉ B₉ x₉ M₉ => ?_⟩))
    have X₉ : Grow s₇ s₉ m₉ F b [] := ⟨e₉, ⟨tb, (n₉ _ (by decide)).trans e₇⟩, hdF, sol_trans (sol_kp k₈) x₉, [], plainL_of (sol_plain x₉ hF), .nil⟩
    refine wpAny_execs_cons (mid_grow hA'.handled G B₉ ((n₉ _ (by decide)).trans ((n₇ _ (by decide)).trans h1)) hok₁.2 s₇ h2₇ hbr.1 (by omega) (ext_dead B₇.ext hdF) X₉ hok₂.1 fun s₁₀ m₁₀ cm₁₀ B₁₀ X₁₀ S₁₀ => ?_)
    refine wpAny_execs_cons (st_let s L (csH L) (nm_local (env := envH L fa cd) B₁₀.ns X₁₀.after ⟨_, _, B₁₀, fun s₁₁ m₁₁ e₁₁ n₁₁ B₁₁ x₁₁ M₁₁ => wpAny_execs_nil ⟨_, _, B₁₁, ⟨F, e₁₁, ?_⟩, ?_⟩⟩))
    · rw [chainsOf_succ hb]
      obtain ⟨ws, hw1, hw2⟩ := X₁₀.acc
      exact sol_rowss x₁₁ ⟨F, ws, rfl, hw1.isList, prd_map hw2 fun _ _ _ r => r.1⟩
    · have st : ∀ {s s' : Shared}, Mvd (fun b => b = L) (fun _ => False) s s' → Stp L (csH L) (fun _ => False) s s' := fun x => x.mono (fun b h => .inl (.inl h)) fun _ h => h
      have M := ((st M₇).trans (Mvd.of_kp k₈)).trans (st M₉)
      refine (M.then S₁₀ (fun b hb => ?_) fun _ h => h.elim).trans (st M₁₁)
      rcases hb with hb | rfl
      · exact .inl (.inl hb)
      · right
        cases e : s₆.heap.get? b with
        | none => rfl
        | some o =>
          obtain ⟨o', he⟩ : ∃ o', s₇.heap.get? b = some o' := by
            by_cases hbL : b = L
            · obtain ⟨o', _, _, ho, _⟩ := B₇.ns
              exact ⟨o', by rw [hbL]; exact ho⟩
            · exact ⟨o, M₇.heap b o hbL e⟩
          rw [hdF] at he; cases he
  · rintro s₆ m₆ cm₆ B₆ ⟨C, h1, h2⟩ S₆
    rw [hvl, List.take_length] at h2
    exact wpAny_execs_cons (wpAny_Return_some (nm_local (env := envH L fa cd) B₆.ns h1 (h C s₆ h2 B₆.ext)))
end
end Mine

namespace Mine
set_option maxRecDepth 100000
open Sem (wp)

def mask (h : Heap) (L : Addr) : Heap := { h with objs := h.objs.setIfInBounds L ⟨.none, none, .freed, #[]⟩ }
theorem mask_self (h : Heap) (L : Addr) : (mask h L).get? L = none := by
  unfold mask Heap.get?
  by_cases hL : L < h.objs.size
  · simp [hL]
  · simp [hL]
theorem mask_other (h : Heap) {L b : Addr} (hb : b ≠ L) : (mask h L).get? b = h.get? b := by
  unfold mask Heap.get?
  simp [Array.getElem?_setIfInBounds_ne (Ne.symm hb)]
theorem mask_some {h : Heap} {L b : Addr} {o : Obj} (e : (mask h L).get? b = some o) : h.get? b = some o := by
  by_cases hb : b = L
  · subst hb; rw [mask_self] at e; cases e
  · rwa [mask_other h hb] at e
theorem mask_none {h : Heap} {L b : Addr} (e : h.get? b = none) : (mask h L).get? b = none := by
  cases e' : (mask h L).get? b with
  | none => rfl
  | some o => rw [mask_some e'] at e; cases e

section
variable {prog : Program} {w : World} {A : Around} {mg mb : Str → Option Value} {E : Value → Shared → Prop} {s : Shared}

/-- a call of the generator function: a fresh generator -/
theorem call_gen {k : Nat} (hA : OkA (k + 1) A) (G : Glo mg mb s.heap) {fa : Addr} {cd : Value} (X : FnAt mg s.heap fivi fa cd) {t : Addr} {n : Int} {u : Tok} {Q : Value → Shared → Prop} 
    (hQ : ∀ I g L m s', s'.heap.IsGen I g → s'.gens[g]? = some (.fresh (.func fivi.body (genv L fa cd))) → s'.heap.Ns L m → m "vector_sum" = some (.int n u) → s.heap.get? L = none → s.heap.get? I = none → g = s.gens.size → Ext s s' → Q (.ref I) s') :
    wpAny (model prog w) A (call (.ref fa) [.ref t, .int n u]) Q E s := by
  obtain ⟨o, pm, doc, ho, hdat⟩ := X.obj
  refine wpAny_call ?_
  refine codeAny_call_generator hA.room ho hdat (by rfl) (by rfl) (by rfl) X.code ?_
  refine wpAny_of_eq (a := [(Str.ofString "max_vector", Value.ref t), (Str.ofString "vector_sum", Value.int n u)]) (by rfl) ?_
  have hc : ∀ x ∈ fivi.scope.names, x.2 ≠ .cell := by decide
  have hl1 : fivi.scope.names.lookup (Str.ofString "max_vector") = some .local := by rfl
  have hl2 : fivi.scope.names.lookup (Str.ofString "vector_sum") = some .local := by rfl
  refine wpAny_newFunctionEnv hc (fun x hx => ?_) (fun h₁ hn₁ hs₁ => ?_) (by rfl)
  · rcases List.mem_cons.mp hx with rfl | hx
    · exact hl1
    · rcases List.mem_cons.mp hx with rfl | hx
      · exact hl2
      · cases hx
  have hkeep : ∀ b o, s.heap.get? b = some o → h₁.get? b = some o := fun b o e => hs₁.extBut b o (Nat.ne_of_lt (Heap.lt_size e)) (Heap.get?_push_of_some _ e)
  have hdL : s.heap.get? s.heap.objs.size = none := Heap.get?_none_of_le (Nat.le_refl _)
  refine ⟨G.lim.keeps hkeep, ?_⟩
  have hsz1 : h₁.objs.size = s.heap.objs.size + 1 := by rw [hs₁.1, Heap.size_push]
  have hdI0 : s.heap.get? h₁.objs.size = none := Heap.get?_none_of_le (by omega)
  have hm2 : List.lookup (Str.ofString "vector_sum") ([(Str.ofString "max_vector", Value.ref t), (Str.ofString "vector_sum", Value.int n u)] : List (Str × Value)).reverse = some (.int n u) := by rfl
  refine hQ h₁.objs.size s.gens.size s.heap.objs.size _ _ ⟨_, _, _, Heap.get?_push_size _ rfl, rfl, rfl, rfl⟩ (Array.getElem?_push_size ..) (hn₁.at' fun o e => Heap.get?_push_of_some _ e) hm2 hdL hdI0 rfl ?_
  refine ⟨fun b o _ e => Heap.get?_push_of_some _ (hkeep b o e), fun i x _ e => ?_, ?_, fun h y hy => ?_, rfl⟩
  · show (s.gens.push _)[i]? = some x
    have := (Array.getElem?_eq_some_iff.mp e).1
    rw [Array.getElem?_push]
    rw [if_neg (by omega)]; exact e
  · show s.gens.size ≤ (s.gens.push _).size
    simp
  · rcases Array.mem_push.mp hy with hy | rfl
    · exact h y hy
    · rfl

/-- the run of a generator that refuses -/
theorem boom_seg {base : Heap} {outer : List Env} {k : Nat} (hA : OkA (k + 3) A) (hfr : A.frames = some outer) (G : Glo mg mb s.heap) {L fa : Addr} {cd : Value} {m : Str → Option Value} {n : Int} {u : Tok} (hn : s.heap.Ns L m) (hm : m "vector_sum" = some (.int n u)) (hneg : n < 0)
    (hst : base.StaysIn s.heap) (hff : s.heap.FunFrames base (genv L fa cd :: outer)) :
    SegP (model prog w) A (.func fivi.body (genv L fa cd)) ((model prog w).den (.func fivi.body (genv L fa cd))) [] s
      (fun e s' => ∃ x t, e = .ret (.error (.ref x)) ∧ Heap.FlyingW base outer x (.type "ValueError") (.ref t) s'.heap ∧ s.heap.UpToSlots s'.heap ∧ s'.gens = s.gens ∧ s'.os = s.os) := by
  show SegP _ A (.func fivi.body (genv L fa cd)) (.point [] fun _ => ((execs fivi.body (genv L fa cd)).onRaise (leaving (genv L fa cd))) >>= _) [] s _
  refine segp_point (segp_bind (wpAny_onRaise ?_))
  have hAo : OkA 1 (A.over (.func fivi.body (genv L fa cd)) []) := OkA.over (hA.mono (by omega)) .nil weight_func units_func
  have hfo : (A.over (.func fivi.body (genv L fa cd)) []).frames = some (genv L fa cd :: outer) := by
    have e : ∀ (c : Code) (fs : List Frame), (A.over c fs).frames = pushEnvs c.envs (pushEnvs (envsOf (fs.map Frame.where_)) A.frames) := fun _ _ => rfl
    rw [e, hfr]; rfl
  refine wpAny_execs_cons (wpAny_If (wpAny_isTrue_Compare1 (nm_local (env := genv L fa cd) hn hm (wpAny_Constant_int (lt_int (wpAny_truthy_bool ?_))))))
  rw [if_pos (decide_eq_true (by omega))]
  refine wpAny_execs_cons (Raise_madeB PySem.F.excCall_ValueError PySem.F.excRaise_ValueError hAo.handled (nm_builtin (env := genv L fa cd) (v := .type "ValueError") (G.keeps fun _ _ e => e) (by decide) PyProof.Rows.Boot.«ValueError» ⟨rfl, ?_⟩))
  refine wpAny_items_cons (wpAny_Constant_str (wpAny_items_nil ⟨size_line (by simp), fun h' e hm => ?_⟩)) (by with_unfolding_all rfl)
  refine wpAny_leaves_madeW (h := s.heap) hfo rfl hst hff hm.of fun h'' t hfl htup hbt hup => ?_
  exact segp_end (.error (.ref e)) ⟨e, t, rfl, hfl, (Heap.UpToSlots.of_keeps hm.keeps).trans hup, rfl, rfl⟩

theorem sub_ve_stop : isSubtype (.type "ValueError") (.type "StopIteration") = pure false := by rw [isSubtype_type]; kernel_rfl

theorem pyNext_boom {a : Addr} {g : Nat} {c : Code} {P : Addr → Shared → Prop} {Q : Option Value → Shared → Prop} (hh : A.handled = none) (hl : s.heap.NoLimit) (hroom : A.depth < recursionLimit)
    (hg : s.heap.IsGen a g) (hgs : s.gens[g]? = some (.fresh c))
    (hgo : SegP (model prog w) A.in1 c ((model prog w).den c) [] (s.setGen g .running) (fun e s' => ∃ x, e = .ret (.error (.ref x)) ∧ P x s'))
    (hend : ∀ x s₁, P x s₁ → s₁.heap.IsGen a g ∧ (∃ o, s₁.heap.get? x = some o ∧ o.cls = .type "ValueError") ∧ E (.ref x) (s₁.setGen g .finished)) :
    wpAny (model prog w) A (pyNext (.ref a)) Q E s := by
  unfold pyNext
  refine wpAny_bind (wpAny_attempt (wpAny_callSpecial?_slot (name := Str.ofString "__next__") hg.typeIs slot_gen_next
    (wpAny_call_entry slot_gen_next hg.typeIs entry_gen_next ?_ (args_gen_next _))))
  show wpAny _ A.in1 (Builtin.Generator.genWake (.ref a) (.send .none)) _ _ s
  unfold Builtin.Generator.genWake
  refine wpAny_bind (wpAny_holding (wpAny_genNumber hg (wpAny_bind (wpAny_genState hgs ?_))))
  refine wpAny_bind (wpAny_roomToWake hl hroom ?_)
  show wpAny _ A.in1 (.resume g (.send .none) [] _) _ _ s
  refine wpAny_resumeP (A := A.in1) hgs ⟨rfl, hgo⟩ (fun e s₁ he => ?_)
  obtain ⟨x, rfl, hp⟩ := he
  obtain ⟨hg₁, ⟨o, ho, hc⟩, hE⟩ := hend x s₁ hp
  refine ⟨rfl, ?_⟩
  show wpAny _ A.in1 (Builtin.Generator.genLeft (.ref a) (.ref x)) _ _ _
  unfold Builtin.Generator.genLeft Builtin.Generator.madeByALambda Builtin.Generator.genEscaped
  obtain ⟨og, nm, qn, hog, hgc, hgd, _⟩ := hg₁
  have hT : ∀ gs, (s₁.setGen g gs).TypeIs (.ref x) "ValueError" := fun _ => ⟨o, ho, hc⟩
  refine wpAny_bind (wpAny_bind (wpAny_load (s := s₁.setGen g .finished) hog (wpAny_pure ?_)))
  refine wpAny_bind (wpAny_isInstance (T := "ValueError") (b := false) (hT _) sub_ve_stop ?_)
  rw [hgd]
  simp only [Bool.and_false, Bool.false_eq_true, if_false]
  refine wpAny_bind (wpAny_isInstance (T := "ValueError") (b := false) (hT _) sub_ve_stop ?_)
  simp only [Bool.not_false, if_true]
  refine wpAny_throw ?_
  refine wpAny_bind (wpAny_isInstance (T := "ValueError") (b := false) (hT _) sub_ve_stop ?_)
  exact wpAny_throw hE

theorem op_list_boom {k : Nat} {I g : Nat} (hA : OkA (k + 6) A) {Q : Value → Shared → Prop} (hI : s.heap.IsGen I g)
    (hnext : ∀ (A' : Around) s', A'.frames = A.frames → OkA k A' → Kp s s' → ∀ Q : Option Value → Shared → Prop, wpAny (model prog w) A' (pyNext (.ref I)) Q E s') :
    wpAny (model prog w) A (call (.type "list") [.ref I]) Q E s := by
  have hdS : s.heap.get? s.heap.objs.size = none := Heap.get?_none_of_le (Nat.le_refl _)
  have hIS : I ≠ s.heap.objs.size := by
    rintro rfl
    obtain ⟨o, _, _, e, _⟩ := hI
    rw [hdS] at e; cases e
  refine callType_codes (Q₁ := fun obj s₁ => obj = .ref s.heap.objs.size ∧ s₁ = { s with heap := s.heap.push { cls := .type "list", data := .seq #[] } }) PySem.F.called_list (PySem.F.typeCall_list_1 _) PySem.F.entry_list_init
    (code_list_new _ ⟨rfl, rfl⟩) fun obj s₁ h₁ => ?_
  obtain ⟨rfl, rfl⟩ := h₁
  have hS : (s.heap.push { cls := .type "list", data := .seq #[] }).get? s.heap.objs.size = some { cls := .type "list", data := .seq #[] } := Heap.get?_push_size _ rfl
  refine ⟨⟨_, hS, rfl⟩, PySem.F.args_list_init_2 _ _, ?_⟩
  generalize hD : s.heap.objs.size = D at *
  show wpAny _ A.in1.in1 (do let old ← Builtin.List.listItems (.ref D); Builtin.List.listUpdate (.ref D) (fun _ => #[]); letGo old.toList.reverse; Builtin.List.listExtendWith (.ref D) (.ref I) .none) _ _ _
  refine wpAny_bind ?_
  unfold Builtin.List.listItems
  refine wpAny_bind (wpAny_seqItems hS rfl (wpAny_pure ?_))
  show wpAny _ A.in1.in1 (updateSeq D (fun _ => #[]) >>= fun _ => letGo (#[] : Array Value).toList.reverse >>= fun _ => Builtin.List.listExtendWith (.ref D) (.ref I) .none) _ _ _
  refine wpAny_bind (wpAny_updateSeq hS rfl ?_)
  have hS₂ := Heap.get?_update_self (Obj.mapSeq (fun _ => (#[] : Array Value))) hS rfl
  refine wpAny_bind (wpAny_letGo ?_)
  have oth : ∀ b o, s.heap.get? b = some o → ((s.heap.push { cls := .type "list", data := .seq #[] }).update D (Obj.mapSeq (fun _ => (#[] : Array Value)))).get? b = some o :=
    fun b o e => (Heap.get?_update_other _ _ (by rintro rfl; rw [hdS] at e; cases e)).trans (Heap.get?_push_of_some _ e)
  have K : Kp s { s with heap := (s.heap.push { cls := .type "list", data := .seq #[] }).update D (Obj.mapSeq (fun _ => (#[] : Array Value))) } := Kp.heap oth
  have hS₃ : ∃ c₀, ({ s with heap := (s.heap.push { cls := .type "list", data := .seq #[] }).update D (Obj.mapSeq (fun _ => (#[] : Array Value))) } : Shared).heap.get? D = some { cls := .type "list", data := .seq #[] c₀ } := ⟨_, hS₂⟩
  generalize ({ s with heap := (s.heap.push { cls := .type "list", data := .seq #[] }).update D (Obj.mapSeq (fun _ => (#[] : Array Value))) } : Shared) = s₂ at K hS₃ ⊢
  clear hS hS₂ oth
  obtain ⟨c₀, hS₂⟩ := hS₃
  have X₂ : s₂.heap.IsGen I g := hI.keeps fun _ _ e => K.get e
  unfold Builtin.List.listExtendWith
  refine wpAny_bind (wpAny_typeOf X₂.typeIs ?_)
  have h1 : Builtin.List.listSameRef (.ref D) (.ref I) = false := by simp [Builtin.List.listSameRef, Ne.symm hIS]
  have h2 : (Value.type "generator" == Value.type "list") = false := by decide
  have h3 : (Value.type "generator" == Value.type "tuple") = false := by decide
  simp only [h1, h2, h3, Bool.or_false, Bool.false_eq_true, if_false]
  refine wpAny_bind (wpAny_pyIter_gen X₂ ?_)
  refine wpAny_bind (wpAny_holding ?_)
  unfold Builtin.List.listLengthHint
  refine wpAny_bind (wpAny_specialOf X₂.typeIs PySem.F.gen_no_len ?_)
  show wpAny _ A.in1.in1 (specialOf (Value.ref I) (Str.ofString "__length_hint__") >>= _) _ _ _
  refine wpAny_bind (wpAny_specialOf X₂.typeIs PySem.F.gen_no_hint ?_)
  refine wpAny_pure ?_
  show wpAny _ A.in1.in1 (rule "list.extend.makes-room" >>= fun _ => Builtin.List.listTouch (.ref D) >>= fun _ =>
    again (.builtin "list.extend.loop" ⟨[.ref D, .ref I, .none], []⟩)) _ _ _
  refine wpAny_bind (wpAny_rule ?_)
  refine wpAny_bind ?_
  show wpAny _ A.in1.in1 (updateSeq D (·.push .none) >>= fun _ => updateSeq D (·.pop)) _ _ _
  refine wpAny_bind (wpAny_updateSeq hS₂ rfl ?_)
  have hS₃ := Heap.get?_update_self (Obj.mapSeq (·.push Value.none)) hS₂ rfl
  refine wpAny_updateSeq (hz := by seq_fits) hS₃ rfl ?_
  have oth : ∀ b o, b ≠ D → s₂.heap.get? b = some o → ((s₂.heap.update D (Obj.mapSeq (·.push Value.none))).update D (Obj.mapSeq (·.pop))).get? b = some o :=
    fun b o hb e => (Heap.get?_update_other _ _ (Ne.symm hb)).trans ((Heap.get?_update_other _ _ (Ne.symm hb)).trans e)
  refine wpAny_pure ⟨plainId_quiet PySem.F.plain_extend_loop _, ?_⟩
  refine codeAny_builtin PySem.F.entry_extend_loop ?_
  rw [Around.under_plainId PySem.F.plain_extend_loop _]
  show wpAny _ A.in1.in1 (pyNext (.ref I) >>= _) _ _ _
  have KK : Kp s { s₂ with heap := (s₂.heap.update D (Obj.mapSeq (·.push Value.none))).update D (Obj.mapSeq (·.pop)) } := ⟨fun {b o} e => oth b o (by intro hb; rw [hb, hdS] at e; cases e) (K.get e), K.gens, K.os⟩
  exact wpAny_bind (wpAny_mono (hnext A.in1.in1 _ rfl ((hA.mono (by omega) : OkA (k + 1 + 1) A).in1.in1) KK _) (fun _ _ h => h) fun _ _ h => h)
end
end Mine

namespace Mine
set_option maxRecDepth 100000
open Sem (wp)
section
variable {prog : Program} {w : World} {A : Around} {mg mb : Str → Option Value} {E : Value → Shared → Prop} {s : Shared}
abbrev rfsd : DefRec := defAt 6
abbrev envR (L fa : Addr) (cd : Value) : Env := envOfC rfsd.name rfsd.scope L fa cd

theorem ns_get {h : Heap} {L : Addr} {m : Str → Option Value} (hn : h.Ns L m) : ∃ o, h.get? L = some o ∧ ∀ vs, o.data ≠ .fields vs := by
  obtain ⟨o, es, ep, ho, hd, _⟩ := hn
  exact ⟨o, ho, fun vs q => by rw [hd] at q; cases q⟩

theorem refused_call {H : Heap} {fa ff : Addr} {cd cf : Value} {k : Nat} (hA : OkA (k + 30) A) {Lw : Addr} {mw : Str → Option Value} {envw : Env} (hfr : A.frames = some [envw]) (hkw : envw.scope.kind ≠ .module) (hfw : envw.frame = some Lw) (hnw : s.heap.Ns Lw mw)
    (GH : Glo mg mb H) (hb : ∀ b o, H.get? b = some o → s.heap.get? b = some o) (hHw : H.get? Lw = none) (X : FnAt mg H rfsd fa cd) (Xf : FnAt mg H fivi ff cf) {l : Addr} {vs : List Value} (hl : s.heap.IsList l vs.toArray) (hz : vs.length ≤ 100) {Q : Value → Shared → Prop}
    (h : ∀ s', Mvd (fun b => b = Lw) (fun _ => False) s s' → s'.heap.Ns Lw mw → Q (.bool true) s') :
    wpAny (model prog w) A (call (.ref fa) [.ref l]) Q E s := by
  refine enter (k := k + 29) hA (GH.keeps hb) (X.keeps hb) (binds := [(Str.ofString "bounds", .ref l)]) (fun pm doc => by rfl) ?_ fun L s₁ hL B hA' => ?_
  · intro x hx
    obtain rfl := List.mem_singleton.mp hx
    exact .inl (by rfl)
  have hcs : cellsFrom (L + 1) rfsd.scope.names [] = [] := by rfl
  rw [hcs] at B
  have hm1 : (bindL (envOfC rfsd.name rfsd.scope L fa cd).kindOf [(Str.ofString "bounds", .ref l)] fun _ => none) "bounds" = some (.ref l) := by rfl
  generalize (bindL (envOfC rfsd.name rfsd.scope L fa cd).kindOf [(Str.ofString "bounds", .ref l)] fun _ => none) = m at hm1 B
  generalize (bindC (envOfC rfsd.name rfsd.scope L fa cd).kindOf [(Str.ofString "bounds", .ref l)] fun _ => none) = cm at B
  clear hL
  have hfrR : (A.deeper (envR L fa cd)).frames = some [envR L fa cd, envw] := Around.frames_deeper hfr
  generalize hA2 : A.deeper (envOfC rfsd.name rfsd.scope L fa cd) = A₁ at hA'
  rw [hA2] at hfrR
  have hGlo : ∀ s', Ext s s' → Glo mg mb s'.heap := fun s' x => GH.keeps fun b o e => ext_get x (hb b o e)
  refine wpAny_execs_cons (wpAny_Try_except (wpAny_execs_cons (wpAny_Expr_any (ct1 (hGlo _ B.ext) PyProof.Rows.Boot.«list» (cd2 (d := fivi) (hGlo _ B.ext) ((Xf.keeps hb).keeps fun _ _ e => ext_get B.ext e)
    (ct1 (hGlo _ B.ext) PyProof.Rows.Boot.«tuple» (nm_local (env := envR L fa cd) B.ns hm1 (op_tuple_list (ext_list B.ext hl) (by rw [List.size_toArray]; omega) fun t s₂ ht hdt k₂ => wpAny_UnaryOp (wpAny_Constant_int (neg_int ⟨fun e => k₂.get e, ?_⟩)))))))))) 
  have B₃ := ((B.kp k₂).kp (Kp.tok (tk := s₂.toks + 1))).kp (Kp.tok (tk := s₂.toks + 1 + 1))
  refine call_gen (k := 5) (hA'.mono (by omega)) (hGlo _ B₃.ext) ((Xf.keeps hb).keeps fun _ _ e => ext_get B₃.ext e) fun I g Lg mgn s₄ hI hg hng hmn hdLg hdI hgs X₄ => ?_
  have B₄ := B₃.ext' X₄
  refine op_list_boom (k := 12) (hA'.mono (by omega)) hI fun A' s₅ hfr' hA5 k₅ Q' => ?_
  have B₅ := B₄.kp k₅
  have hI₅ : s₅.heap.IsGen I g := hI.keeps fun _ _ e => k₅.get e
  have hg₅ : s₅.gens[g]? = some (.fresh (.func fivi.body (genv Lg ff cf))) := by rw [k₅.gens]; exact hg
  have hnL := B₅.ns
  have hng₅ := k₅.ns hng
  have hnw₅ : s₅.heap.Ns Lw mw := ext_ns B₅.ext hnw
  obtain ⟨oL, hoL, hoLd⟩ := ns_get hnL
  obtain ⟨oG, hoG, hoGd⟩ := ns_get hng₅
  obtain ⟨oW, hoW, hoWd⟩ := ns_get hnw₅
  generalize hbase : mask (mask (mask s₅.heap Lw) L) Lg = base
  have hst : base.StaysIn s₅.heap := fun b o e => by
    rw [← hbase] at e
    exact mask_some (mask_some (mask_some e))
  have hbW : base.get? Lw = none := by rw [← hbase]; exact mask_none (mask_none (mask_self _ _))
  have hbL : base.get? L = none := by rw [← hbase]; exact mask_none (mask_self _ _)
  have hbG : base.get? Lg = none := by rw [← hbase]; exact mask_self _ _
  have hkeep : ∀ b o, b ≠ Lw → b ≠ L → b ≠ Lg → s₅.heap.get? b = some o → base.get? b = some o := fun b o h1 h2 h3 e => by
    rw [← hbase, mask_other _ h3, mask_other _ h2, mask_other _ h1]; exact e
  have hff : s₅.heap.FunFrames base [genv Lg ff cf, envR L fa cd, envw] :=
    ⟨(by show fivi.scope.kind ≠ .module; decide), ⟨Lg, oG, rfl, hbG, hoG, hoGd⟩, (by show rfsd.scope.kind ≠ .module; decide), ⟨L, oL, rfl, hbL, hoL, hoLd⟩, hkw, ⟨Lw, oW, hfw, hbW, hoW, hoWd⟩, trivial⟩
  have hG₅ := hGlo _ B₅.ext
  have hXdead : ∀ b o, s.heap.get? b = some o → b ≠ Lw → base.get? b = some o := fun b o e hbw => by
    refine hkeep b o hbw ?_ ?_ (ext_get B₅.ext e)
    · rintro rfl; rw [B.dL] at e; cases e
    · rintro rfl
      have := ext_get B₃.ext e
      rw [hdLg] at this; cases this
  refine pyNext_boom (P := fun x s₁ => ∃ t, Heap.FlyingW base [envR L fa cd, envw] x (.type "ValueError") (.ref t) s₁.heap ∧ s₅.heap.UpToSlots s₁.heap ∧ s₁.gens = (s₅.setGen g .running).gens ∧ s₁.os = s₅.os) hA5.handled hG₅.lim hA5.room hI₅ hg₅ ?_ ?_
  · have := boom_seg (prog := prog) (w := w) (A := A'.in1) (s := s₅.setGen g .running) (k := 8) (base := base) (outer := [envR L fa cd, envw]) (hA5.mono (by omega) : OkA 12 A').in1 (by rw [Around.in1_frames, hfr', hfrR]) hG₅ hng₅ hmn (by decide) hst hff
    rintro Γ p hc hw
    obtain ⟨e, s', hr, x, t, he, h1, h2, h3, h4⟩ := this Γ p hc hw
    exact ⟨e, s', hr, x, he, t, h1, h2, h3, h4⟩
  · rintro x s₆ ⟨t, hfl, hup, hgn, hos⟩
    refine ⟨?_, hfl.there, ?_⟩
    · obtain ⟨o, nm, qn, ho, r⟩ := id hI₅
      exact ⟨o, nm, qn, hfl.1 I o (hkeep I o (ns_ne_gen hnw₅ hI₅) (ns_ne_gen hnL hI₅) (ns_ne_gen hng₅ hI₅) ho), r⟩
    · have hfl' : Heap.FlyingW base [envR L fa cd, envw] x (.type "ValueError") (.ref t) (s₆.setGen g .finished).heap := hfl
      refine wpAny_looks_onW hfrR rfl hfl' fun h₇ hheld₇ hup₇ => wpAny_landsW hheld₇ fun h₈ hfl₈ hup₈ => ?_
      have hG₈ : Glo mg mb h₈ := GH.keeps fun b o e => hfl₈.1 b o (hXdead b o (hb b o e) (by rintro rfl; rw [hHw] at e; cases e))
      obtain ⟨ob, hob, hobc⟩ := hfl₈.there
      refine wpAny_handleBy_builtin (X := "ValueError") (T := "ValueError") (b := true) PySem.F.isExc_ValueError PySem.F.notTuple_ValueError (by rw [isSubtype_type]; kernel_rfl) (nm_builtin (env := envR L fa cd) hG₈ (by decide) PyProof.Rows.Boot.«ValueError» ⟨rfl, ⟨ob, hob, hobc⟩, ?_⟩)
      rw [if_pos rfl]
      refine lands_againW hfl₈ fun h₉ hfl₉ hup₉ => ?_
      refine wpAny_execs_cons (wpAny_Return_some (wpAny_Constant_bool ?_))
      refine h _ ⟨fun b o hbw e => hfl₉.1 b o (hXdead b o e hbw), fun i z hi e => ?_, ?_, fun hbare => ?_, ?_⟩ ?_
      · show (s₆.setGen g .finished).gens[i]? = some z
        have h1 : i ≠ g := by
          rintro rfl
          have h2 := (Array.getElem?_eq_some_iff.mp e).1
          have h3 := B₃.ext.gsize
          omega
        rw [setGen_other h1, hgn, setGen_other h1]
        exact B₅.ext.gens i z (fun h => h) e
      · show s.gens.size ≤ (s₆.setGen g .finished).gens.size
        rw [setGen_size, hgn, setGen_size]
        exact B₅.ext.gsize
      · show AllBare (s₆.setGen g .finished).gens
        refine setGen_bare rfl ?_
        rw [hgn]
        exact setGen_bare rfl (B₅.ext.bare hbare)
      · show s₆.os = s.os
        rw [hos]; exact B₅.ext.os
      · exact (((hup.trans hup₇).trans hup₈).trans hup₉).ns hnw₅
end
end Mine

namespace Mine
set_option maxRecDepth 100000
open PySem.SeqAt
open Sem (wp)

/-- the run of the sort's tree of questions under an order -/
def kasGo {α : Type} (n : Nat) (lt : Nat → Nat → Bool) : KasT α → Option α
  | .ret a => some a
  | .ask i j k => if i < n ∧ j < n then kasGo n lt (k (lt i j)) else none
def lexLt : List Int → List Int → Bool
  | a :: as, b :: bs => if a = b then lexLt as bs else decide (a < b)
  | as, bs => decide (as.length < bs.length)
def sortRows (rs : List (List Int)) : Option (List (List Int)) :=
  if rs.length < 2 then some rs else
  match kasGo rs.length (fun i j => lexLt (rs.getD i []) (rs.getD j [])) (kas_sort rs.length) with
  | none => none
  | some p => if p.toList.all (fun i => decide (i < rs.length)) then some (p.toList.map fun i => rs.getD i []) else none

section
variable {prog : Program} {w : World} {A : Around} {E : Value → Shared → Prop} {s : Shared}

theorem kas_pure {α : Type} {cmp : Nat → Nat → (Bool → Shared → Prop) → Shared → Prop} {n : Nat} {lt : Nat → Nat → Bool} (hc : ∀ i j C, i < n → j < n → C (lt i j) s → cmp i j C s) {G : α → Shared → Prop} : ∀ (t : KasT α) {a : α}, kasGo n lt t = some a → G a s → t.kasWp cmp G s
  | .ret _, a, h, hg => by cases h; exact hg
  | .ask i j k, a, h, hg => by
    unfold kasGo at h
    split at h
    · rename_i hij
      exact hc i j _ hij.1 hij.2 (kas_pure hc (k (lt i j)) h hg)
    · cases h

theorem lex_walk : ∀ {vs ws : List Value} {r q : List Int} {b fin : Bool} {i : Nat} {Q : Bool → Shared → Prop}, IntsAre vs r → IntsAre ws q → fin = decide (r.length < q.length) → (b = true ∨ 0 < i ∨ True) → Q (lexLt r q) s → KatLex prog w A b fin Q (vs.zip ws) i s
  | _, _, _, _, b, fin, i, Q, .nil, hq, hf, _, h => by
    cases hq <;> (refine kat_nil ?_; rw [hf]; simpa [lexLt] using h)
  | _, _, _, _, b, fin, i, Q, .cons n u hr, .nil, hf, _, h => by
    refine kat_nil ?_
    rw [hf]; simpa [lexLt] using h
  | _, _, _, _, b, fin, i, Q, .cons n u hr, .cons m v hq, hf, _, h => by
    refine kat_cons (wpAny_eqBool_int ?_)
    by_cases he : n = m
    · rw [show (n == m) = true by simpa using he]
      refine kat_yes (lex_walk hr hq (by simpa using hf) (.inr (.inr trivial)) ?_)
      simpa [lexLt, he] using h
    · rw [show (n == m) = false by simpa using he]
      have h' : Q (decide (n < m)) s := by simpa [lexLt, he] using h
      refine kat_no ?_
      cases hb : (b && i == 0) with
      | true => exact oneLt_int h'
      | false => exact kat_one _ _ (lt_int h')

theorem row_lt {v v' : Value} {r q : List Int} {b : Bool} {Q : Bool → Shared → Prop} (hv : RowIs s.heap v r) (hv' : RowIs s.heap v' q) (h : Q (lexLt r q) s) : wpAny (model prog w) A (keyLt' (tuples' b) v v') Q E s := by
  obtain ⟨a, vs, rfl, ⟨o, ho, _, n, hd⟩, hi⟩ := hv
  obtain ⟨a', vs', rfl, ⟨o', ho', _, n', hd'⟩, hi'⟩ := hv'
  refine kat_lt ho hd ho' hd' (lex_walk hi hi' ?_ (.inr (.inr trivial)) h)
  rw [List.size_toArray, List.size_toArray, hi.length, hi'.length]

theorem firsts_of {h : Heap} : ∀ {vs : List Value} {rs : List (List Int)}, Paired (RowIs h) vs rs → (∀ r ∈ rs, r ≠ []) → ∃ fs, KatTups h vs fs ∧ fs.length = vs.length ∧ ∀ v ∈ fs, ∃ n t, v = Value.int n t
  | _, _, .nil, _ => ⟨[], KatTups.nil, rfl, fun v hv => nomatch hv⟩
  | _, _, .cons (b := r) hr hrest, hne => by
    obtain ⟨fs, h1, h2, h3⟩ := firsts_of hrest fun r hr => hne r (List.mem_cons_of_mem _ hr)
    obtain ⟨a, us, rfl, ⟨o, ho, hc, n, hd⟩, hi⟩ := hr
    cases hi with
    | nil => exact absurd rfl (hne [] List.mem_cons_self)
    | cons k u hi =>
      refine ⟨.int k u :: fs, KatTups.cons ho hc hd rfl h1, by simp [h2], fun v hv => ?_⟩
      rcases List.mem_cons.mp hv with rfl | hv
      · exact ⟨_, _, rfl⟩
      · exact h3 v hv

/-- the built-in sorted over a list of rows, two or more -/
theorem sorted_rows2 {l L : Addr} {m : Str → Option Value} (hns : s.heap.Ns L m) {vs : List Value} {rs ys : List (List Int)} (hl : s.heap.IsList l vs.toArray) (hp : Paired (RowIs s.heap) vs rs) (h2 : 2 ≤ rs.length) (h64 : rs.length < 64) (hne : ∀ r ∈ rs, r ≠ [])
    (hs : sortRows rs = some ys) {Q : Value → Shared → Prop} (h : ∀ D us s', s'.heap.IsList D (List.toArray us) → Paired (RowIs s'.heap) us ys → s'.heap.Ns L m → Mvd (fun b => b = L) (fun _ => False) s s' → Q (.ref D) s') :
    wpAny (model prog w) A (call (.builtin "sorted") [.ref l]) Q E s := by
  have hvl := prd_len hp
  generalize hnews : (List.range s.heap.objs.size).filterMap (fun b => if b = L then none else (s.heap.get? b).map fun o => (b, o)) = news
  have hmem : ∀ b o, b ≠ L → s.heap.get? b = some o → (b, o) ∈ news := fun b o hb e => by
    rw [← hnews]
    refine List.mem_filterMap.mpr ⟨b, List.mem_range.mpr (Heap.lt_size e), ?_⟩
    rw [if_neg hb, e]; rfl
  have hmem' : ∀ p ∈ news, s.heap.get? p.1 = some p.2 ∧ p.1 ≠ L := fun p hp => by
    rw [← hnews] at hp
    obtain ⟨b, _, e⟩ := List.mem_filterMap.mp hp
    split at e
    · cases e
    · rename_i hb
      cases e' : s.heap.get? b with
      | none => rw [e'] at e; cases e
      | some o => rw [e'] at e; cases e; exact ⟨e', hb⟩
  have hem : ∀ b, ({ s.heap with objs := #[] } : Heap).get? b = none := fun b => by simp [Heap.get?]
  have F : Fr { s.heap with objs := #[] } L s.heap m := ⟨hns, (fun b o e => by rw [hem] at e; cases e), Nat.zero_le _⟩
  have N : News { s.heap with objs := #[] } L s.heap news := fun p hp => ⟨(hmem' p hp).1, (hmem' p hp).2, hem _⟩
  refine kat_sorted F N hl (by omega) (by omega) fun D e1 h' F' N' hlt => ?_
  have keep : ∀ {h'' : Heap} {o' : Obj}, News { s.heap with objs := #[] } L h'' ((D, o') :: news) → ∀ b o, b ≠ L → s.heap.get? b = some o → h''.get? b = some o := fun N'' b o hb e => (N'' _ (List.mem_cons_of_mem _ (hmem b o hb e))).1
  have rowk : ∀ {h'' : Heap} {v : Value} {r : List Int}, (∀ b o, b ≠ L → s.heap.get? b = some o → h''.get? b = some o) → RowIs s.heap v r → RowIs h'' v r := fun k hr => by
    obtain ⟨a, us, rfl, ht, hi⟩ := hr
    have hne := ns_ne_tup hns ht
    obtain ⟨o, e, r⟩ := ht
    exact ⟨a, us, rfl, ⟨o, k a o hne e, r⟩, hi⟩
  have hp' : Paired (RowIs h') vs rs := prd_map hp fun _ _ _ r => rowk (keep N') r
  obtain ⟨fs, hfs, hfsl, hfi⟩ := firsts_of hp' hne
  refine kat_kind (s := { s with heap := h' }) (T := .type "int") hfs (by omega) (fun v hv => ?_) (by decide) ?_
  · obtain ⟨n, t, rfl⟩ := hfi v hv
    exact Looks.of_pure rfl
  unfold sortRows at hs
  rw [if_neg (by omega)] at hs
  split at hs
  · cases hs
  rename_i p hgo
  by_cases hall : (p.toList.all fun i => decide (i < rs.length)) = true
  rotate_left
  · rw [if_neg hall] at hs; cases hs
  rw [if_pos hall] at hs
  cases hs
  rw [List.all_eq_true] at hall
  rw [hvl]
  refine kas_pure (n := rs.length) (lt := fun i j => lexLt (rs.getD i []) (rs.getD j [])) (fun i j C hi hj hC => ?_) _ hgo ?_
  · have row : ∀ k, k < rs.length → RowIs h' (vs.getD k Value.none) (rs.getD k []) := fun k hk => by
      obtain ⟨v, hv, hr⟩ := prd_get' hp' (List.getElem?_eq_getElem hk)
      rw [List.getD_eq_getElem?_getD, hv, List.getD_eq_getElem?_getD, List.getElem?_eq_getElem hk]
      exact hr
    exact row_lt (s := { s with heap := h' }) (row i hi) (row j hj) hC
  · refine KasFin.intro F' N' (UpdF.head fun p hp => Nat.ne_of_lt (hlt p hp)) fun h'' c F'' N'' => ?_
    have k := keep N''
    refine h D _ _ ⟨_, (N'' (D, _) (List.mem_cons_self ..)).1, rfl, c, rfl⟩ ?_ F''.ns ⟨k, fun _ _ _ e => e, Nat.le_refl _, fun e => e, rfl⟩
    refine prd_of (by simp) fun i a ha => ?_
    rw [List.getElem?_map] at ha
    cases hq : p.toList[i]? with
    | none => rw [hq] at ha; cases ha
    | some j =>
      rw [hq] at ha
      have hj : j < rs.length := of_decide_eq_true (hall j (List.mem_of_getElem? hq))
      obtain ⟨v, hv, hr⟩ := prd_get' hp (List.getElem?_eq_getElem hj)
      refine ⟨rs.getD j [], by rw [List.getElem?_map, hq]; rfl, ?_⟩
      have : a = v := by
        have : vs.getD j Value.none = a := by simpa using ha
        rw [← this, List.getD_eq_getElem?_getD, hv]; rfl
      subst this
      rw [List.getD_eq_getElem?_getD, List.getElem?_eq_getElem hj]
      exact rowk k hr
end
end Mine

namespace Mine
set_option maxRecDepth 100000
open PySem.SeqAt
open Sem (wp)
section
variable {prog : Program} {w : World} {A : Around} {E : Value → Shared → Prop} {s : Shared}

/-- list.sort of no items or of one -/
theorem sort_small {a : Addr} {vs : List Value} {n : Nat} {P : PySem.Fin → Shared → Prop} (ho : s.heap.get? a = some (seqObj "list" vs.toArray n)) (hlen : vs.length < 2)
    (h : P (.done (.ret .none)) { s with heap := sortedHeap s.heap a vs vs.toArray }) : wpAny (model prog w) A (Builtin.«list.sort» ⟨[.ref a], []⟩) P E s := by
  rw [list_sort_plain]
  have ha : a < s.heap.objs.size := Heap.lt_size ho
  refine wpAny_bind (listItems_at ho rfl ?_)
  refine wpAny_bind (listUpdate_at ho rfl ?_ (by rw [List.size_toArray, sizeLine_eq]; omega) (Nat.zero_le _))
  obtain ⟨e1, ho1⟩ : ∃ e1, (s.heap.update a (Obj.mapSeq fun _ => #[])).get? a = some (seqObj "list" #[] e1) := ⟨_, get?_update_seq ho (fun _ => #[])⟩
  refine wpAny_bind (seqEpoch_at ho1 rfl ?_)
  refine wpAny_bind (wpAny_newTuple ?_ (by show vs.length ≤ _; rw [sizeLine_eq]; omega))
  refine wpAny_bind (wpAny_newList ?_ (Nat.zero_le _))
  refine wpAny_holding ?_
  have ho6 : (((s.heap.update a (Obj.mapSeq fun _ => #[])).push (seqObj "tuple" vs.toArray 0)).push (seqObj "list" #[] 0)).get? a = some (seqObj "list" #[] e1) := by
    rw [Heap.get?_push_ne _ _ _ (by rw [size_push', Heap.size_update]; exact Nat.ne_of_lt (Nat.lt_succ_of_lt ha)), Heap.get?_push_ne _ _ _ (by rw [Heap.size_update]; exact Nat.ne_of_lt ha)]
    exact ho1
  show wpAny (model prog w) A _ P E { s with heap := ((s.heap.update a (Obj.mapSeq fun _ => #[])).push (seqObj "tuple" vs.toArray 0)).push (seqObj "list" #[] 0) }
  dsimp only
  have h2 : vs.toArray.size < 2 := by rw [List.size_toArray]; exact hlen
  rw [if_pos h2, if_pos h2]
  refine wpAny_bind (wpAny_pure ?_)
  rw [StateT.run_pure]
  refine wpAny_bind (wpAny_pure ?_)
  dsimp only
  have hout : (vs.toArray.zip vs.toArray).map (·.2) = vs.toArray := by
    apply Array.toList_inj.mp
    simp only [Array.toList_map, Array.toList_zip]
    exact List.map_snd_zip (Nat.le_refl _)
  refine wpAny_bind (seqEpoch_at ho6 rfl ?_)
  have harr : arrOf (SortSt.mk' general' (vs.toArray.zip vs.toArray) #[] 7 none) = vs.toArray.zip vs.toArray := rfl
  rw [harr, hout]
  refine wpAny_bind (listUpdate_at ho6 rfl ?_ (Nat.zero_le _) (by rw [List.size_toArray, sizeLine_eq]; omega))
  simp only [bne_self_eq_false, Bool.false_eq_true, if_false]
  exact wpAny_pure h

theorem sorted_small {l : Addr} {vs : List Value} {Q : Value → Shared → Prop} (hl : s.heap.IsList l vs.toArray) (hlen : vs.length < 2) (h : ∀ D s', s'.heap.IsList D vs.toArray → Kp s s' → Q (.ref D) s') :
    wpAny (model prog w) A (call (.builtin "sorted") [.ref l]) Q E s := by
  refine Calls.call_function_entry kind_sorted plain_sorted entry_sorted (args_sorted1 _) ?_
  unfold Builtin.«sorted»
  refine wpAny_bind (m := checkCount "sorted" 1 1 _) (wpAny_pure ?_)
  refine wpAny_bind (collect_list hl ?_ (by rw [sizeLine_eq]; omega))
  refine wpAny_bind (wpAny_newList ?_ (by rw [sizeLine_eq]; omega))
  have hsz : ((s.heap.push (seqObj "list" #[] 0)).update s.heap.objs.size (Obj.mapSeq (· ++ vs.toArray))).objs.size = s.heap.objs.size + 1 := by
    rw [Heap.size_update, size_push']
  have hoL : (((s.heap.push (seqObj "list" #[] 0)).update s.heap.objs.size (Obj.mapSeq (· ++ vs.toArray))).push (seqObj "list" vs.toArray 0)).get? (s.heap.objs.size + 1) = some (seqObj "list" vs.toArray 0) := by
    rw [← hsz]; exact Heap.get?_push_size _ rfl
  show wpAny _ _ _ _ _ { s with heap := ((s.heap.push (seqObj "list" #[] 0)).update s.heap.objs.size (Obj.mapSeq (· ++ vs.toArray))).push (seqObj "list" vs.toArray 0) }
  rw [hsz]
  refine wpAny_bind (wpAny_holding (wpAny_call_entry slot_list_sort ⟨_, hoL, rfl⟩ entry_list_sort (sort_small hoL hlen ⟨_, rfl, ?_⟩) (args_list_sort _)))
  refine wpAny_pure ⟨_, rfl, ?_⟩
  obtain ⟨e, he⟩ := sortedAll_at s.heap vs vs.toArray
  exact h _ { s with heap := sortedAll s.heap vs vs.toArray } ⟨_, he, rfl, e, rfl⟩ (Kp.heap fun b o e => sortedAll_old e)

/-- the built-in sorted over a list of rows -/
theorem sorted_rows {L : Addr} {m : Str → Option Value} (hns : s.heap.Ns L m) {v : Value} {rs ys : List (List Int)} (hv : RowsIs s.heap v rs) (h64 : rs.length < 64) (hne : ∀ r ∈ rs, r ≠ [])
    (hs : sortRows rs = some ys) {Q : Value → Shared → Prop} (h : ∀ D s', RowsIs s'.heap (.ref D) ys → s'.heap.Ns L m → Mvd (fun b => b = L) (fun _ => False) s s' → Q (.ref D) s') :
    wpAny (model prog w) A (call (.builtin "sorted") [v]) Q E s := by
  obtain ⟨l, vs, rfl, hl, hp⟩ := hv
  have hvl := prd_len hp
  by_cases h2 : rs.length < 2
  · unfold sortRows at hs
    rw [if_pos h2] at hs
    cases hs
    exact sorted_small hl (by omega) fun D s' hD k => h D s' ⟨D, vs, rfl, hD, prd_map hp fun _ _ _ r => sol_row (sol_kp k) r⟩ (k.ns hns) (Mvd.of_kp k)
  · exact sorted_rows2 hns hl hp (by omega) h64 hne hs fun D us s' h1 h2 h3 h4 => h D s' ⟨D, us, rfl, h1, h2⟩ h3 h4

theorem sorted_nums {l : Addr} {vs : List Value} {ns tgt : List Int} {Q : Value → Shared → Prop} (hl : s.heap.IsList l vs.toArray) (hi : IntsAre vs ns) (h64 : ns.length < 64) (hp : ns.Perm tgt) (ho : tgt.Pairwise (· ≤ ·))
    (h : ∀ D us s', s'.heap.IsList D (List.toArray us) → IntsAre us tgt → Kp s s' → Q (.ref D) s') : wpAny (model prog w) A (call (.builtin "sorted") [.ref l]) Q E s := by
  refine sorted_ints hl hi (by rw [hi.length]; exact h64) fun out ns' h1 h2 h3 => ?_
  have e : ns' = tgt := ksm_same (h2.trans hp) h3 ho
  subst e
  obtain ⟨e, he⟩ := sortedAll_at s.heap vs out
  exact h _ out.toList _ ⟨_, he, rfl, e, by simp⟩ h1 (Kp.heap fun b o e => sortedAll_old e)

theorem row_eq {v v' : Value} {r : List Int} (hu : A.units + 2 < cLine) (hv : RowIs s.heap v r) (hv' : RowIs s.heap v' r) : EqAt A s v v' true := by
  obtain ⟨a, vs, rfl, ht, hi⟩ := hv
  obtain ⟨a', vs', rfl, ht', hi'⟩ := hv'
  by_cases e : a = a'
  · subst e; exact EqAt.same _
  · have hl := hi.length
    have hl' := hi'.length
    have := RcAt.tuples (A := A) (s := s) (e := fun _ => true) ht ht' (by omega) fun j h1 h2 => by
      obtain ⟨n, t, e1, e2⟩ := ints_get hi (i := j) (v := vs.toArray[j]) (by simp)
      obtain ⟨n', t', e3, e4⟩ := ints_get hi' (i := j) (v := vs'.toArray[j]) (by simp)
      rw [e1, e3]
      rw [e2] at e4; cases e4
      have := EqAt.int_int (A := A.in1) (s := s) n t n t'
      rwa [show (n == n) = true by simp] at this
    refine EqAt.of_refs e ?_
    have e2 : ((List.range (min vs.toArray.size vs'.toArray.size)).all (fun _ => true) && vs.toArray.size == vs'.toArray.size) = true := by
      simp; omega
    rwa [e2] at this
theorem rows_ne {v v' : Value} {rs : List (List Int)} (hu : A.units + 4 < cLine) (hv : RowsIs s.heap v rs) (hv' : RowsIs s.heap v' rs) {Q : Value → Shared → Prop} (h : Q (.bool false) s) : wpAny (model prog w) A (compareOp .NotEq v v') Q E s := by
  obtain ⟨l, vs, rfl, hl, hp⟩ := hv
  obtain ⟨l', vs', rfl, hl', hp'⟩ := hv'
  have h1 := prd_len hp
  have h2 := prd_len hp'
  refine RcNeAt.lists (A := A) (s := s) (e := fun _ => true) hl hl' (by simp; omega) (by omega) (fun j h3 h4 => ?_) prog w E Q ?_
  · obtain ⟨r, e1, e2⟩ := prd_get hp (i := j) (a := vs.toArray[j]) (by simp)
    obtain ⟨r', e3, e4⟩ := prd_get hp' (i := j) (a := vs'.toArray[j]) (by simp)
    rw [e1] at e3; cases e3
    exact row_eq (by show A.units + 1 + 2 < cLine; omega) e2 e4
  · rw [show (!(List.range vs.toArray.size).all fun _ => true) = false by simp]
    exact h
theorem nums_ne {l l' : Addr} {vs vs' : List Value} {ns : List Int} (hu : A.units + 4 < cLine) (hl : s.heap.IsList l vs.toArray) (hl' : s.heap.IsList l' vs'.toArray) (hi : IntsAre vs ns) (hi' : IntsAre vs' ns) {Q : Value → Shared → Prop} (h : Q (.bool false) s) : wpAny (model prog w) A (compareOp .NotEq (.ref l) (.ref l')) Q E s := by
  have h1 := hi.length
  have h2 := hi'.length
  refine RcNeAt.lists (A := A) (s := s) (e := fun _ => true) hl hl' (by simp; omega) (by omega) (fun j h3 h4 => ?_) prog w E Q ?_
  · obtain ⟨n, t, e1, e2⟩ := ints_get hi (i := j) (v := vs.toArray[j]) (by simp)
    obtain ⟨n', t', e3, e4⟩ := ints_get hi' (i := j) (v := vs'.toArray[j]) (by simp)
    rw [e1, e3]
    rw [e2] at e4; cases e4
    have := EqAt.int_int (A := A.in1) (s := s) n t n t'
    rwa [show (n == n) = true by simp] at this
  · rw [show (!(List.range vs.toArray.size).all fun _ => true) = false by simp]
    exact h
end
end Mine

namespace Mine
set_option maxRecDepth 100000
open Sem (wp)
section
variable {prog : Program} {w : World} {A : Around} {env : Env} {s : Shared} {R : Result → Shared → Prop}

theorem comp2_outer {elt t0 i0 t1 i1 : Expr} {ifs1 : List Expr} {scope : Scope} {pos : Pos} {it acc : Value} (I : Nat → Shared → Prop)
    (turn : ∀ n s, I n s → wpAny (model prog w) A (pyNext it) (fun r s₁ => match r with
      | none => R (.ok .next) s₁
      | some v => wpAny (model prog w) A (assign t0 env v) (fun _ s₂ => wpAny (model prog w) A (eval i1 env) (fun x s₃ => wpAny (model prog w) A (pyIter x) (fun it' s₄ =>
          codeAny (model prog w) A (.compStart (.ListComp elt [⟨t0, i0, [], 0⟩, ⟨t1, i1, ifs1, 0⟩] scope pos) 1 it' acc env) (fun r s₅ => match r with | .ok _ => ∃ m, m < n ∧ I m s₅ | .error _ => False) s₄) (fun _ _ => False) s₃) (fun _ _ => False) s₂) (fun _ _ => False) s₁) (fun _ _ => False) s)
    (n : Nat) (h : I n s) (ht : ∀ v, letOwnedTupleGo t0 it v = pure () := by intro _; rfl) (hf : ∀ x, foldedSetIterable i1 env x = pure x := by intro _; rfl) :
    codeAny (model prog w) A (.compLoop (.ListComp elt [⟨t0, i0, [], 0⟩, ⟨t1, i1, ifs1, 0⟩] scope pos) 0 it acc env) R s := by
  refine codeAny_loop rfl I (fun n s hI => ?_) n h
  show wpAny _ A ((compTurn (.ListComp elt [⟨t0, i0, [], 0⟩, ⟨t1, i1, ifs1, 0⟩] scope pos) 0 it acc env).onRaise (fun x => do noteFrame x env; theTreesLotGoes x)) _ _ s
  refine wpAny_noted ?_
  show wpAny _ A (do
      standAt i0.pos
      match ← pyNext it with
      | none => pure (.done .next)
      | some v =>
        letOwnedTupleGo t0 it v
        assign t0 env v
        let x ← eval i1 env
        standAt i1.pos
        let x ← foldedSetIterable i1 env x
        let it' ← holding [x] (pyIter x)
        let _ ← runOwn (.compStart (.ListComp elt [⟨t0, i0, [], 0⟩, ⟨t1, i1, ifs1, 0⟩] scope pos) 1 it' acc env) env
        again (.compLoop (.ListComp elt [⟨t0, i0, [], 0⟩, ⟨t1, i1, ifs1, 0⟩] scope pos) 0 it acc env)) _ _ s
  refine wpAny_bind (wpAny_standAt (wpAny_bind (wpAny_mono (turn n s hI) (fun r s₁ h₁ => ?_) fun _ _ h' => h'.elim)))
  cases r with
  | none => exact wpAny_pure h₁
  | some v =>
    refine wpAny_bind (wpAny_of_eq (ht v) ?_)
    refine wpAny_bind (wpAny_mono h₁ (fun _ s₂ h₂ => ?_) fun _ _ h' => h'.elim)
    refine wpAny_bind (wpAny_mono h₂ (fun x s₃ h₃ => ?_) fun _ _ h' => h'.elim)
    refine wpAny_bind (wpAny_standAt (wpAny_bind (wpAny_of_eq (hf x) ?_)))
    refine wpAny_bind (wpAny_holding (wpAny_mono h₃ (fun it' s₄ h₄ => ?_) fun _ _ h' => h'.elim))
    refine wpAny_bind (wpAny_runOwn (codeAny_mono h₄ fun r s₅ hr => ?_))
    cases r with
    | ok f => exact wpAny_pure ⟨rfl, hr⟩
    | error e => exact hr.elim

theorem comp2_inner {elt t0 i0 t1 i1 c : Expr} {scope : Scope} {pos : Pos} {it acc : Value} (I : Nat → Shared → Prop)
    (turn : ∀ n s, I n s → wpAny (model prog w) A (pyNext it) (fun r s₁ => match r with
      | none => R (.ok .next) s₁
      | some v => wpAny (model prog w) A (assign t1 env v) (fun _ s₂ => wpAny (model prog w) A (isTrue c env (eval c env)) (fun ok s₃ =>
            if ok = true then wpAny (model prog w) A (eval elt env) (fun x s₄ =>
              wpAny (model prog w) A (call (.builtin "list.append") [acc, x]) (fun _ s₅ => ∃ m, m < n ∧ I m s₅) (fun _ _ => False) s₄) (fun _ _ => False) s₃
            else ∃ m, m < n ∧ I m s₃) (fun _ _ => False) s₂) (fun _ _ => False) s₁) (fun _ _ => False) s)
    (n : Nat) (h : I n s) (ht : ∀ v, letOwnedTupleGo t1 it v = pure () := by intro _; rfl) :
    codeAny (model prog w) A (.compLoop (.ListComp elt [⟨t0, i0, [], 0⟩, ⟨t1, i1, [c], 0⟩] scope pos) 1 it acc env) R s := by
  refine codeAny_loop rfl I (fun n s hI => ?_) n h
  show wpAny _ A ((compTurn (.ListComp elt [⟨t0, i0, [], 0⟩, ⟨t1, i1, [c], 0⟩] scope pos) 1 it acc env).onRaise (fun x => do noteFrame x env; theTreesLotGoes x)) _ _ s
  refine wpAny_noted ?_
  have e : compTurn (.ListComp elt [⟨t0, i0, [], 0⟩, ⟨t1, i1, [c], 0⟩] scope pos) 1 it acc env = (do
      standAt i1.pos
      match ← pyNext it with
      | none => pure (.done .next)
      | some v =>
        letOwnedTupleGo t1 it v
        assign t1 env v
        let mut ok := true
        for c in [c] do
          if ok then ok ← isTrue c env (eval c env)
        if ok then
          (do let _ ← call (.builtin "list.append") [acc, ← eval elt env])
        again (.compLoop (.ListComp elt [⟨t0, i0, [], 0⟩, ⟨t1, i1, [c], 0⟩] scope pos) 1 it acc env)) := rfl
  rw [e]
  refine wpAny_bind (wpAny_standAt (wpAny_bind (wpAny_mono (turn n s hI) (fun r s₁ h₁ => ?_) fun _ _ h' => h'.elim)))
  cases r with
  | none => exact wpAny_pure h₁
  | some v =>
    refine wpAny_bind (wpAny_of_eq (ht v) ?_)
    refine wpAny_bind (wpAny_mono h₁ (fun _ s₂ h₂ => wpAny_bind (wpAny_tests_one (wpAny_mono h₂ (fun ok s₃ h₃ => ?_) fun _ _ h' => h'.elim))) fun _ _ h' => h'.elim)
    cases ok with
    | false => exact wpAny_pure ⟨rfl, h₃⟩
    | true =>
      exact wpAny_bind (wpAny_bind (wpAny_mono h₃ (fun x s₄ h₄ => wpAny_bind (wpAny_mono h₄ (fun _ s₅ h₅ => wpAny_pure (wpAny_pure ⟨rfl, h₅⟩)) fun _ _ h' => h'.elim)) fun _ _ h' => h'.elim))

theorem comp2_start {elt t0 i0 t1 i1 : Expr} {ifs1 : List Expr} {scope : Scope} {pos : Pos} {it acc : Value}
    (h0 : codeAny (model prog w) A (.compLoop (.ListComp elt [⟨t0, i0, [], 0⟩, ⟨t1, i1, ifs1, 0⟩] scope pos) 1 it acc env) R s)
    (h : wpAny (model prog w) A (pyIter it) (fun it' s' => codeAny (model prog w) A (.compLoop (.ListComp elt [⟨t0, i0, [], 0⟩, ⟨t1, i1, ifs1, 0⟩] scope pos) 1 it' acc env) R s') (fun _ _ => False) s) :
    codeAny (model prog w) A (.compStart (.ListComp elt [⟨t0, i0, [], 0⟩, ⟨t1, i1, ifs1, 0⟩] scope pos) 1 it acc env) R s := by
  refine codeAny_of_tree ?_
  show wpAny _ _ ((compStart (.ListComp elt [⟨t0, i0, [], 0⟩, ⟨t1, i1, ifs1, 0⟩] scope pos) 1 it acc env).onRaise (fun x => do noteFrame x env; standAt theWindowsPlace)) _ _ s
  refine wpAny_notedAt ?_
  unfold compStart
  show wpAny _ _ (ask >>= _) _ _ s
  refine wpAny_bind (wpAny_askSetting (wpAny_ite ?_))
  split
  · first
      | exact wpAny_bind (wpAny_pure (wpAny_pure (And.intro rfl h0)))
      | exact wpAny_pure (And.intro rfl h0)
  · exact wpAny_bind (wpAny_rule (wpAny_bind (wpAny_standAt (wpAny_bind (wpAny_mono h (fun it' s' h' => wpAny_pure (And.intro rfl h')) fun _ _ x => x.elim)))))
end
end Mine

namespace Mine
set_option maxRecDepth 100000
open Sem (wp)

/-- a two-level comprehension under way -/
structure Mid (s₁ : Shared) (D C : Addr) (acc : List (List Int)) (m : Str → Option Value) (s : Shared) : Prop where
  ext : Ext s₁ s
  ns : s.heap.Ns C m
  rows : ∃ ds, s.heap.PlainList D (List.toArray ds) ∧ Paired (RowIs s.heap) ds acc
  dD : s₁.heap.get? D = none
  dC : s₁.heap.get? C = none

theorem Mid.ne {s₁ s : Shared} {D C : Addr} {acc : List (List Int)} {m : Str → Option Value} (X : Mid s₁ D C acc m s) : D ≠ C := by
  rintro rfl
  obtain ⟨ds, ⟨n, e⟩, _⟩ := X.rows
  obtain ⟨o, es, ep, ho, hd, _⟩ := X.ns
  rw [e] at ho; cases ho
  cases hd
theorem Mid.iter {s₁ s : Shared} {D C b : Addr} {acc : List (List Int)} {m : Str → Option Value} (X : Mid s₁ D C acc m s) (hb : s₁.heap.get? b = none) (hbf : ∃ o vs, s.heap.get? b = some o ∧ o.data = .fields vs) {h' : Heap} {tk : Nat} (hk : ∀ c o, c ≠ b → s.heap.get? c = some o → h'.get? c = some o) : Mid s₁ D C acc m { s with heap := h', toks := tk } := by
  obtain ⟨ob, vs, eb, db⟩ := hbf
  have sol : Sol s.heap h' := fun c o xs n e d => hk c o (by rintro rfl; rw [eb] at e; cases e; rw [db] at d; cases d) e
  refine ⟨ext_same X.ext hb hk, X.ns.at' fun o e => hk C o ?_ e, ?_, X.dD, X.dC⟩
  · rintro rfl
    obtain ⟨o', es, ep, ho, hd, _⟩ := X.ns
    rw [eb] at ho; cases ho
    rw [db] at hd; cases hd
  · obtain ⟨ds, h1, h2⟩ := X.rows
    exact ⟨ds, sol_plain sol h1, prd_map h2 fun _ _ _ r => sol_row sol r⟩
theorem Mid.store {s₁ s : Shared} {D C : Addr} {acc : List (List Int)} {m m' : Str → Option Value} (X : Mid s₁ D C acc m s) {h' : Heap} {tk : Nat} (hn : h'.Ns C m') (hs : Heap.SameBut C s.heap h') : Mid s₁ D C acc m' { s with heap := h', toks := tk } := by
  have sol : Sol s.heap h' := sol_ns X.ns fun b o hb e => hs.extBut b o hb e
  refine ⟨ext_same X.ext X.dC fun b o hb e => hs.extBut b o hb e, hn, ?_, X.dD, X.dC⟩
  obtain ⟨ds, h1, h2⟩ := X.rows
  exact ⟨ds, sol_plain sol h1, prd_map h2 fun _ _ _ r => sol_row sol r⟩
theorem Mid.ext' {s₁ s s' : Shared} {D C : Addr} {acc : List (List Int)} {m : Str → Option Value} (X : Mid s₁ D C acc m s) (x : Ext s s') : Mid s₁ D C acc m s' :=
  ⟨ext_trans X.ext x, ext_ns x X.ns, let ⟨ds, h1, h2⟩ := X.rows; ⟨ds, sol_plain (sol_ext x) h1, prd_map h2 fun _ _ _ r => ext_row x r⟩, X.dD, X.dC⟩

section
variable {prog : Program} {w : World} {A : Around} {env : Env} {s : Shared}

theorem mid_append {s₁ : Shared} {D C : Addr} {acc : List (List Int)} {m : Str → Option Value} (X : Mid s₁ D C acc m s) (hz : acc.length ≤ 90000) {v : Value} {r : List Int} (hv : RowIs s.heap v r) {Q : Value → Shared → Prop} {E : Value → Shared → Prop}
    (h : ∀ h', Heap.SameBut D s.heap h' → Mid s₁ D C (acc ++ [r]) m { s with heap := h' } → Q .none { s with heap := h' }) : wpAny (model prog w) A (call (.builtin "list.append") [.ref D, v]) Q E s := by
  obtain ⟨ds, h1, h2⟩ := X.rows
  have hl := prd_len h2
  refine wpAny_list_append_plain (hsz := size_line (by rw [List.size_toArray]; omega)) h1 fun h' hD' hs' => h h' hs' ?_
  have hsb : SolBut D s.heap h' := fun b o xs k hb e _ => hs'.extBut b o hb e
  refine ⟨ext_same (tk := s.toks) X.ext X.dD fun b o hb e => hs'.extBut b o hb e, X.ns.at' fun o e => hs'.extBut C o X.ne.symm e, ⟨ds ++ [v], ?_, prd_append (prd_map h2 fun _ _ _ r => solb_row hsb h1.isList r) (.cons (solb_row hsb h1.isList hv) .nil)⟩, X.dD, X.dC⟩
  have e : (ds ++ [v]).toArray = ds.toArray.push v := by simp
  rw [e]; exact hD'

/-- the inner loop of the comprehension, over one chain -/
theorem comp3_inner {t0 i0 i1 c : Expr} {x : Str} {px px' : Pos} {scope : Scope} {pos : Pos} {cl : List (Str × Addr)} {s₁ : Shared} {D C l : Addr} {p : List Int → Bool} (hh : A.handled = none) (hkind : scope.kind = .function) (hx : scope.names.lookup x = some .local)
    (hd : (x == ("__debug__" : Str)) = false)
    (htest : ∀ s' m' v r, Ext s₁ s' → s'.heap.Ns C m' → m' x = some v → RowIs s'.heap v r → wpAny (model prog w) A (isTrue c (compEnvC scope cl C env) (eval c (compEnvC scope cl C env))) (fun b s'' => b = p r ∧ Ext s' s'') (fun _ _ => False) s')
    {us : List Value} {chain acc : List (List Int)} {m : Str → Option Value} (X : Mid s₁ D C acc m s) (hl : s₁.heap.IsList l us.toArray) (hp : Paired (RowIs s₁.heap) us chain) (hz : acc.length + chain.length ≤ 90000)
    {F : Addr → Prop} (hF : ∀ b, F b → ∃ o, s.heap.get? b = some o) (hFD : ¬ F D) (hFC : ¬ F C) {R : Result → Shared → Prop}
    (hR : ∀ s' m', Mid s₁ D C (acc ++ chain.filter p) m' s' → (∀ b o, F b → s.heap.get? b = some o → s'.heap.get? b = some o) → R (.ok .next) s') :
    wpAny (model prog w) A (pyIter (.ref l)) (fun it' s₄ => codeAny (model prog w) A (.compStart (.ListComp (.Name x px) [⟨t0, i0, [], 0⟩, ⟨.Name x px', i1, [c], 0⟩] scope pos) 1 it' (.ref D) (compEnvC scope cl C env)) R s₄) (fun _ _ => False) s := by
  have hul := prd_len hp
  have hlI := ext_list X.ext hl
  refine wpAny_pyIter_list hlI ?_
  have hdI : s.heap.get? s.heap.objs.size = none := Heap.get?_none_of_le (Nat.le_refl _)
  have hne : l ≠ s.heap.objs.size := by
    rintro rfl
    obtain ⟨o, e, _⟩ := hlI
    rw [hdI] at e; cases e
  have W : ∀ A' : Around, A'.handled = none → Walks prog w A' s.heap.objs.size [s.heap.objs.size, l] [s.heap.objs.size] us.length (fun i v => us[i]? = some v) (fun i h => h.IsListIter s.heap.objs.size l i ∧ h.IsList l us.toArray) := fun A' hh' => by
    have := Walks.list (prog := prog) (w := w) hh' s.heap.objs.size l hne us.toArray
    simpa using this
  have hst0 : (s.heap.push { cls := .type "list_iterator", data := .fields #[.ref l, .int 0 0] }).IsListIter s.heap.objs.size l 0 ∧ (s.heap.push { cls := .type "list_iterator", data := .fields #[.ref l, .int 0 0] }).IsList l us.toArray := ⟨⟨_, Heap.get?_push_size _ rfl, rfl, rfl⟩, hlI.push _⟩
  have hE : Ext s { s with heap := s.heap.push { cls := .type "list_iterator", data := .fields #[.ref l, .int 0 0] } } := ext_kp Kp.push'
  have hIk : ∀ i h, (Heap.IsListIter h s.heap.objs.size l i ∧ h.IsList l us.toArray) → ∃ o vs, h.get? s.heap.objs.size = some o ∧ o.data = .fields vs := by
    rintro i h ⟨⟨o, e, _, d⟩, _⟩
    exact ⟨o, _, e, d⟩
  generalize hs₂ : ({ s with heap := s.heap.push { cls := .type "list_iterator", data := .fields #[.ref l, .int 0 0] } } : Shared) = s₂ at hE
  have hst : s₂.heap.IsListIter s.heap.objs.size l 0 ∧ s₂.heap.IsList l us.toArray := by rw [← hs₂]; exact hst0
  have hld : l ≠ D ∧ l ≠ C := by
    obtain ⟨o, e, _⟩ := hl
    refine ⟨?_, ?_⟩
    · rintro rfl; rw [X.dD] at e; cases e
    · rintro rfl; rw [X.dC] at e; cases e
  generalize hI0 : s.heap.objs.size = I at *
  generalize hSt : (fun (i : Nat) (h : Heap) => h.IsListIter I l i ∧ h.IsList l us.toArray) = St at W
  replace hst : St 0 s₂.heap := by rw [← hSt]; exact hst
  replace hIk : ∀ i h, St i h → ∃ o vs, h.get? I = some o ∧ o.data = .fields vs := by rw [← hSt]; exact hIk
  have hdI₁ : s₁.heap.get? I = none := ext_dead X.ext hdI
  have hID : I ≠ D := by
    rintro rfl
    obtain ⟨ds, ⟨n, e⟩, _⟩ := X.rows
    rw [e] at hdI; cases hdI
  have hIC : I ≠ C := by
    rintro rfl
    obtain ⟨o, _, _, e, _⟩ := X.ns
    rw [e] at hdI; cases hdI
  have hFI : ¬ F I := fun h => by
    obtain ⟨o, e⟩ := hF I h
    rw [hdI] at e; cases e
  have X₂ := X.ext' hE
  have hfpD : ∀ b ∈ [I, l], b ≠ D := fun b hb => by
    rcases List.mem_cons.mp hb with rfl | hb
    · exact hID
    · rw [List.mem_singleton.mp hb]; exact hld.1
  have hfpC : ∀ b ∈ [I, l], b ≠ C := fun b hb => by
    rcases List.mem_cons.mp hb with rfl | hb
    · exact hIC
    · rw [List.mem_singleton.mp hb]; exact hld.2
  have loop : ∀ s₃ : Shared, Mid s₁ D C acc m s₃ → St 0 s₃.heap → (∀ b o, F b → s.heap.get? b = some o → s₃.heap.get? b = some o) →
      codeAny (model prog w) A (.compLoop (.ListComp (.Name x px) [⟨t0, i0, [], 0⟩, ⟨.Name x px', i1, [c], 0⟩] scope pos) 1 (.ref I) (.ref D) (compEnvC scope cl C env)) R s₃ := by
    intro s₃ X₃ hst₃ hF₃
    refine comp2_inner (fun nn s' => ∃ i m', Mid s₁ D C (acc ++ (chain.take i).filter p) m' s' ∧ St i s'.heap ∧ (∀ b o, F b → s.heap.get? b = some o → s'.heap.get? b = some o) ∧ i ≤ us.length ∧ nn = us.length + 1 - i) ?_ _ ⟨0, m, by simpa using X₃, hst₃, hF₃, Nat.zero_le _, rfl⟩
    rintro nn s₄ ⟨i, m', X₄, hst₄, hF₄, hi, rfl⟩
    by_cases hlt : i < us.length
    · refine (W A hh).item i s₄ _ _ hlt hst₄ fun v h' tk hP hst₅ hk => ?_
      have hk' : ∀ b o, b ≠ I → s₄.heap.get? b = some o → h'.get? b = some o := fun b o hb e => hk b o (by simpa using hb) e
      obtain ⟨o', vs', e', d'⟩ := hIk i _ hst₄
      have X₅ := X₄.iter (tk := tk) hdI₁ ⟨o', vs', e', d'⟩ hk'
      have hF₅ : ∀ b o, F b → s.heap.get? b = some o → h'.get? b = some o := fun b o hb e => hk' b o (by rintro rfl; exact hFI hb) (hF₄ b o hb e)
      obtain ⟨r, hr, hri⟩ := prd_get hp hP
      refine wpAny_assign_Name (wpAny_storeName_local (lookup_relabel_local hx) X₅.ns (fun h₆ hn₆ hs₆ => ?_) (by simp [compEnvC, relabel, hkind]))
      have hC0 : (compEnvC scope cl C env).locals = C := rfl
      rw [hC0] at hn₆ hs₆
      have X₆ := X₅.store (tk := tk + 1) hn₆ hs₆
      have hst₆ : St (i + 1) h₆ := (W A hh).frame _ _ _ hst₅ fun b hb o e => hs₆.extBut b o (hfpC b hb) e
      have hF₆ : ∀ b o, F b → s.heap.get? b = some o → h₆.get? b = some o := fun b o hb e => hs₆.extBut b o (by rintro rfl; exact hFC hb) (hF₅ b o hb e)
      have hri₆ : RowIs h₆ v r := ext_row X₆.ext hri
      refine wpAny_mono (htest _ _ v r X₆.ext hn₆ (if_pos rfl) hri₆) (fun b s₇ h₇ => ?_) fun _ _ e => e
      obtain ⟨rfl, x₇⟩ := h₇
      have X₇ := X₆.ext' x₇
      have hst₇ : St (i + 1) s₇.heap := (W A hh).frame _ _ _ hst₆ fun b hb o e => ext_get x₇ (show h₆.get? b = some o from e)
      have hF₇ : ∀ b o, F b → s.heap.get? b = some o → s₇.heap.get? b = some o := fun b o hb e => ext_get x₇ (show h₆.get? b = some o from hF₆ b o hb e)
      have htk : (chain.take (i + 1)).filter p = (chain.take i).filter p ++ (if p r = true then [r] else []) := by
        rw [List.take_add_one, hr, List.filter_append]
        by_cases hpr : p r = true <;> simp [hpr]
      by_cases hpr : p r = true
      · rw [if_pos hpr]
        refine nm_local (env := compEnvC scope cl C env) X₇.ns (if_pos rfl) ?_ hkind (lookup_relabel_local hx) hd
        refine mid_append X₇ ?_ (ext_row x₇ hri₆) fun h₈ hs₈ X₈ => ⟨us.length + 1 - (i + 1), by omega, i + 1, _, (by rw [htk, if_pos hpr, ← List.append_assoc]; exact X₈), ?_, ?_, hlt, rfl⟩
        · have h1 : ((chain.take i).filter p).length ≤ (chain.take i).length := List.length_filter_le ..
          rw [List.length_append]
          simp at h1
          omega
        · exact (W A hh).frame _ _ _ hst₇ fun b hb o e => hs₈.extBut b o (hfpD b hb) e
        · exact fun b o hb e => hs₈.extBut b o (by rintro rfl; exact hFD hb) (hF₇ b o hb e)
      · rw [if_neg hpr]
        refine ⟨us.length + 1 - (i + 1), by omega, i + 1, _, (by rw [htk, if_neg hpr, List.append_nil]; exact X₇), hst₇, hF₇, hlt, rfl⟩
    · have hin : i = us.length := by omega
      subst hin
      refine (W A hh).done s₄ _ _ hst₄ fun h' tk hk => ?_
      have hk' : ∀ b o, b ≠ I → s₄.heap.get? b = some o → h'.get? b = some o := fun b o hb e => hk b o (by simpa using hb) e
      obtain ⟨o', vs', e', d'⟩ := hIk _ _ hst₄
      have X₅ := X₄.iter (tk := tk) hdI₁ ⟨o', vs', e', d'⟩ hk'
      rw [hul, List.take_length] at X₅
      exact hR _ m' X₅ fun b o hb e => hk' b o (by rintro rfl; exact hFI hb) (hF₄ b o hb e)
  have hF₂ : ∀ b o, F b → s.heap.get? b = some o → s₂.heap.get? b = some o := fun b o _ e => ext_get hE e
  refine comp2_start (loop s₂ X₂ hst hF₂) ?_
  exact (W A hh).self 0 _ _ _ hst (loop s₂ X₂ hst hF₂)
end
end Mine

namespace Mine
set_option maxRecDepth 100000
open Sem (wp)
section
variable {prog : Program} {w : World} {A : Around} {env : Env} {s : Shared}

/-- [x for y in iter for x in y if c] over a list of lists of rows -/
theorem comp3_eval {iter c : Expr} {x y : Str} {px px' py py' : Pos} {scope : Scope} {pos : Pos} {cl : List (Str × Addr)} {p : List Int → Bool} (hh : A.handled = none) (chains : List (List (List Int)))
    (hclos : closureFor scope env = pure cl) (hcell : ∀ y ∈ scope.names, y.2 ≠ .cell) (hkind : scope.kind = .function)
    (hnames : ∀ y ∈ scope.names, y.2 = .local → scope.names.lookup y.1 = some .local) (hx : scope.names.lookup x = some .local) (hy : scope.names.lookup y = some .local) (hdx : (x == ("__debug__" : Str)) = false) (hdy : (y == ("__debug__" : Str)) = false)
    (hz1 : chains.length ≤ 90000) (hz : chains.flatten.length ≤ 80000) {Q : Value → Shared → Prop}
    (hiter : wpAny (model prog w) A (eval iter env) (fun xv s₁ => RowssIs s₁.heap xv chains ∧
      (∀ C s' m' v r, Ext s₁ s' → s'.heap.Ns C m' → m' x = some v → RowIs s'.heap v r → wpAny (model prog w) A (isTrue c (compEnvC scope cl C env) (eval c (compEnvC scope cl C env))) (fun b s'' => b = p r ∧ Ext s' s'') (fun _ _ => False) s') ∧
      (∀ D s', RowsIs s'.heap (.ref D) (chains.flatten.filter p) → Ext s₁ s' → Q (.ref D) s')) (fun _ _ => False) s)
    (hs : ∀ x, foldedSetIterable iter env x = pure x := by intro _; rfl) :
    wpAny (model prog w) A (eval (.ListComp (.Name x px) [⟨.Name y py, iter, [], 0⟩, ⟨.Name x px', .Name y py', [c], 0⟩] scope pos) env) Q (fun _ _ => False) s := by
  rw [eval_ListComp]
  refine wpAny_comprehension_free (use := none) rfl hs hclos hkind hnames (wpAny_mono hiter (fun xv s₁ h₁ => ?_) fun _ _ e => e)
  obtain ⟨⟨l, vs, rfl, hl, hp⟩, htest, hQ⟩ := h₁
  have hvl := prd_len hp
  refine wpAny_pyIter_list hl ?_
  have hdI : s₁.heap.get? s₁.heap.objs.size = none := Heap.get?_none_of_le (Nat.le_refl _)
  have hne : l ≠ s₁.heap.objs.size := by
    rintro rfl
    obtain ⟨o, e, _⟩ := hl
    rw [hdI] at e; cases e
  have W : ∀ A' : Around, A'.handled = none → Walks prog w A' s₁.heap.objs.size [s₁.heap.objs.size, l] [s₁.heap.objs.size] vs.length (fun i v => vs[i]? = some v) (fun i h => h.IsListIter s₁.heap.objs.size l i ∧ h.IsList l vs.toArray) := fun A' hh' => by
    have := Walks.list (prog := prog) (w := w) hh' s₁.heap.objs.size l hne vs.toArray
    simpa using this
  have hst0 : (s₁.heap.push { cls := .type "list_iterator", data := .fields #[.ref l, .int 0 0] }).IsListIter s₁.heap.objs.size l 0 ∧ (s₁.heap.push { cls := .type "list_iterator", data := .fields #[.ref l, .int 0 0] }).IsList l vs.toArray := ⟨⟨_, Heap.get?_push_size _ rfl, rfl, rfl⟩, hl.push _⟩
  have hE : Ext s₁ { s₁ with heap := s₁.heap.push { cls := .type "list_iterator", data := .fields #[.ref l, .int 0 0] } } := ext_kp Kp.push'
  have hIk : ∀ i h, (Heap.IsListIter h s₁.heap.objs.size l i ∧ h.IsList l vs.toArray) → ∃ o vs, h.get? s₁.heap.objs.size = some o ∧ o.data = .fields vs := by
    rintro i h ⟨⟨o, e, _, d⟩, _⟩
    exact ⟨o, _, e, d⟩
  generalize hs₂ : ({ s₁ with heap := s₁.heap.push { cls := .type "list_iterator", data := .fields #[.ref l, .int 0 0] } } : Shared) = s₂ at hE
  have hst : s₂.heap.IsListIter s₁.heap.objs.size l 0 ∧ s₂.heap.IsList l vs.toArray := by rw [← hs₂]; exact hst0
  generalize hI0 : s₁.heap.objs.size = I at *
  generalize hSt : (fun (i : Nat) (h : Heap) => h.IsListIter I l i ∧ h.IsList l vs.toArray) = St at W
  replace hst : St 0 s₂.heap := by rw [← hSt]; exact hst
  replace hIk : ∀ i h, St i h → ∃ o vs, h.get? I = some o ∧ o.data = .fields vs := by rw [← hSt]; exact hIk
  -- the list and the comprehension's own names
  refine wpAny_newObj_type (wpAny_newFunctionEnv hcell (by intro y hy; simp at hy) (fun h₁ hns₁ hsb₁ => ?_) hkind)
  dsimp only at hns₁ hsb₁ ⊢
  generalize hH2 : s₂.heap.push { cls := .type "list", dict := none, data := .seq ([] : List Value).toArray } = H2 at hns₁ hsb₁ ⊢
  have hC : H2.objs.size = s₂.heap.objs.size + 1 := by rw [← hH2, Heap.size_push]
  generalize hDD : s₂.heap.objs.size = D at *
  generalize hCC : H2.objs.size = C at *
  have hDC : D ≠ C := by omega
  have hdD : s₂.heap.get? D = none := Heap.get?_none_of_le (by omega)
  have hdC : s₂.heap.get? C = none := Heap.get?_none_of_le (by omega)
  have old : ∀ b o, s₂.heap.get? b = some o → h₁.get? b = some o := fun b o e => hsb₁.extBut b o (by rintro rfl; rw [hdC] at e; cases e) (Heap.get?_push_of_some _ (hH2 ▸ Heap.get?_push_of_some _ e))
  have hD₁ : h₁.PlainList D #[] := ⟨0, hsb₁.extBut _ _ hDC (Heap.get?_push_of_some _ (by rw [← hH2, ← hDD]; exact Heap.get?_push_size _ rfl))⟩
  have hst₁ : St 0 h₁ := (W A hh).frame _ _ _ hst fun b _ o e => old b o e
  have hd1D : s₁.heap.get? D = none := ext_dead hE hdD
  have hd1C : s₁.heap.get? C = none := ext_dead hE hdC
  have X₁ : Mid s₁ D C [] _ { s₂ with heap := h₁, toks := s₂.toks + ([] : List (Str × Value)).length } := ⟨ext_trans hE (ext_kp (Kp.mk' old)), hns₁, ⟨[], hD₁, .nil⟩, hd1D, hd1C⟩
  have hlive : ∀ b, (b = I ∨ b = l) → ∃ o, s₂.heap.get? b = some o := by
    rintro b (rfl | rfl)
    · obtain ⟨o, _, e, _⟩ := hIk _ _ hst
      exact ⟨o, e⟩
    · obtain ⟨o, e, _⟩ := hl
      exact ⟨o, ext_get hE e⟩
  have hne2 : ∀ b, (b = I ∨ b = l) → b ≠ D ∧ b ≠ C := by
    intro b hb
    obtain ⟨o, e⟩ := hlive b hb
    refine ⟨?_, ?_⟩
    · rintro rfl; rw [hdD] at e; cases e
    · rintro rfl; rw [hdC] at e; cases e
  have loop : codeAny (model prog w) A (.compLoop (.ListComp (.Name x px) [⟨.Name y py, iter, [], 0⟩, ⟨.Name x px', .Name y py', [c], 0⟩] scope pos) 0 (.ref I) (.ref D) (compEnvC scope cl C env))
      (fun r s' => compPost (model prog w) A (fun _ _ => False) none Q (.ref D) C r s') { s₂ with heap := h₁, toks := s₂.toks + ([] : List (Str × Value)).length } := by
    refine comp2_outer (fun nn s' => ∃ i m', Mid s₁ D C ((chains.take i).flatten.filter p) m' s' ∧ St i s'.heap ∧ i ≤ vs.length ∧ nn = vs.length + 1 - i) ?_ _ ⟨0, _, by simpa using X₁, hst₁, Nat.zero_le _, rfl⟩
    rintro nn s₃ ⟨i, m', X₃, hst₃, hi, rfl⟩
    by_cases hlt : i < vs.length
    · refine (W A hh).item i s₃ _ _ hlt hst₃ fun v h' tk hP hst₄ hk => ?_
      have hk' : ∀ b o, b ≠ I → s₃.heap.get? b = some o → h'.get? b = some o := fun b o hb e => hk b o (by simpa using hb) e
      obtain ⟨o', vs', e', d'⟩ := hIk i _ hst₃
      have X₄ := X₃.iter (tk := tk) hdI ⟨o', vs', e', d'⟩ hk'
      obtain ⟨chain, hc, hcr⟩ := prd_get hp hP
      obtain ⟨a, us, rfl, ha, hap⟩ := hcr
      refine wpAny_assign_Name (wpAny_storeName_local (lookup_relabel_local hy) X₄.ns (fun h₅ hn₅ hs₅ => ?_) (by simp [compEnvC, relabel, hkind]))
      have hC0 : (compEnvC scope cl C env).locals = C := rfl
      rw [hC0] at hn₅ hs₅
      have X₅ := X₄.store (tk := tk + 1) hn₅ hs₅
      have hst₅ : St (i + 1) h₅ := (W A hh).frame _ _ _ hst₄ fun b hb o e => hs₅.extBut b o (hne2 b (by simpa using hb)).2 e
      have htk : (chains.take (i + 1)).flatten.filter p = (chains.take i).flatten.filter p ++ chain.filter p := by
        rw [List.take_add_one, hc, List.flatten_append, List.filter_append]
        simp
      have hlen : ((chains.take i).flatten.filter p).length + chain.length ≤ 90000 := by
        have h1 : ((chains.take i).flatten.filter p).length ≤ (chains.take i).flatten.length := List.length_filter_le ..
        have h2 : chains.flatten.length = (chains.take (i + 1)).flatten.length + (chains.drop (i + 1)).flatten.length := by
          conv => lhs; rw [← List.take_append_drop (i + 1) chains]
          rw [List.flatten_append, List.length_append]
        have h3 : (chains.take (i + 1)).flatten.length = (chains.take i).flatten.length + chain.length := by
          rw [List.take_add_one, hc, List.flatten_append, List.length_append]
          simp
        omega
      refine nm_local (env := compEnvC scope cl C env) X₅.ns (if_pos rfl) ?_ hkind (lookup_relabel_local hy) hdy
      refine comp3_inner hh hkind hx hdx (fun s' m'' v r => htest C s' m'' v r) X₅ ha hap hlen (F := fun b => b = I ∨ b = l) (fun b hb => ?_) (fun h => (hne2 D h).1 rfl) (fun h => (hne2 C h).2 rfl) fun s₆ m₆ X₆ hF₆ => ?_
      · rcases hb with rfl | rfl
        · obtain ⟨o, _, e, _⟩ := hIk _ _ hst₅
          exact ⟨o, e⟩
        · obtain ⟨o, e, _⟩ := hl
          exact ⟨o, ext_get X₅.ext e⟩
      · refine ⟨vs.length + 1 - (i + 1), by omega, i + 1, m₆, (by rw [htk]; exact X₆), ?_, hlt, rfl⟩
        exact (W A hh).frame _ _ _ hst₅ fun b hb o e => hF₆ b o (by simpa using hb) e
    · have hin : i = vs.length := by omega
      subst hin
      refine (W A hh).done s₃ _ _ hst₃ fun h' tk hk => ?_
      have hk' : ∀ b o, b ≠ I → s₃.heap.get? b = some o → h'.get? b = some o := fun b o hb e => hk b o (by simpa using hb) e
      obtain ⟨o', vs', e', d'⟩ := hIk _ _ hst₃
      have X₄ := X₃.iter (tk := tk) hdI ⟨o', vs', e', d'⟩ hk'
      rw [hvl, List.take_length] at X₄
      refine ⟨m', X₄.ns, fun h'' hs'' => ?_⟩
      have hs2 : Heap.SameBut C h' h'' := hs''
      have sol : Sol h' h'' := sol_ns X₄.ns fun b o hb e => hs2.extBut b o hb e
      obtain ⟨ds, h1, h2⟩ := X₄.rows
      exact hQ D _ ⟨D, ds, rfl, (sol_plain sol h1).isList, prd_map h2 fun _ _ _ r => sol_row sol r⟩ (ext_same (s := { s₃ with heap := h', toks := tk }) (tk := tk) X₄.ext hd1C fun b o hb e => hs2.extBut b o hb e)
  refine codeAny_compStart_list loop ?_
  exact (W A hh).self 0 _ _ _ hst₁ loop
end
end Mine

namespace Mine
set_option maxRecDepth 100000

/-- the sort's second half over plain lists, which the kernel runs quicker -/
def moveL (l : List Nat) (k j : Nat) : List Nat := l.take j ++ (l.getD k 0 :: (l.drop j).take (k - j)) ++ l.drop (k + 1)
def placeL (lt : Nat → Nat → Bool) (l : List Nat) (k : Nat) : Nat → Nat → Nat → Nat
  | 0, a, _ => a
  | f + 1, a, r => if a ≥ r then a else if lt (l.getD k 0) (l.getD ((a + r) / 2) 0) = true then placeL lt l k f a ((a + r) / 2) else placeL lt l k f ((a + r) / 2 + 1) r
def binL (lt : Nat → Nat → Bool) : Nat → List Nat → Nat → List Nat
  | 0, l, _ => l
  | f + 1, l, k => binL lt f (moveL l k (placeL lt l k k 0 k)) (k + 1)
def rowLt (rs : List (List Int)) (i j : Nat) : Bool := lexLt (rs.getD i []) (rs.getD j [])
def sortL (rs : List (List Int)) : Option (List (List Int)) :=
  if rs.length < 2 then some rs else
  match kasGo rs.length (rowLt rs) (kas_count rs.length (List.toArray (List.range rs.length))) with
  | none => none
  | some r => if r.2.size = rs.length ∧ (r.2.toList.all fun i => decide (i < rs.length)) = true then
      some ((if r.1 < rs.length then binL (rowLt rs) (rs.length - max r.1 1) r.2.toList (max r.1 1) else r.2.toList).map fun i => rs.getD i []) else none

theorem kasGo_bind {α β : Type} {n : Nat} {lt : Nat → Nat → Bool} {f : α → KasT β} : ∀ (t : KasT α), kasGo n lt (t.bind f) = (kasGo n lt t).bind fun a => kasGo n lt (f a)
  | .ret a => rfl
  | .ask i j k => by
    show (if i < n ∧ j < n then kasGo n lt ((k (lt i j)).bind f) else none) = (if i < n ∧ j < n then kasGo n lt (k (lt i j)) else none).bind _
    split
    · exact kasGo_bind (k (lt i j))
    · rfl
theorem getD_list (p : Array Nat) (i : Nat) : p.getD i 0 = p.toList.getD i 0 := by
  rw [List.getD_eq_getElem?_getD, Array.getElem?_toList, Array.getD_eq_getD_getElem?]
theorem getD_lt {l : List Nat} {n i : Nat} (h : ∀ x ∈ l, x < n) (hn : 0 < n) : l.getD i 0 < n := by
  rw [List.getD_eq_getElem?_getD]
  cases e : l[i]? with
  | none => exact hn
  | some x => exact h x (List.mem_of_getElem? e)
theorem place_eq {n : Nat} {lt : Nat → Nat → Bool} {p : Array Nat} {k : Nat} (h : ∀ x ∈ p.toList, x < n) (hn : 0 < n) : ∀ (f a r : Nat), kasGo n lt (kas_place p k f a r) = some (placeL lt p.toList k f a r)
  | 0, a, r => rfl
  | f + 1, a, r => by
    unfold kas_place placeL
    by_cases har : a ≥ r
    · rw [if_pos har, if_pos har]; rfl
    · rw [if_neg har, if_neg har]
      show (if p.getD k 0 < n ∧ p.getD ((a + r) / 2) 0 < n then kasGo n lt (if lt (p.getD k 0) (p.getD ((a + r) / 2) 0) = true then _ else _) else none) = _
      rw [getD_list, getD_list, if_pos ⟨getD_lt h hn, getD_lt h hn⟩]
      split
      · exact place_eq h hn f a _
      · exact place_eq h hn f _ r
theorem place_le {lt : Nat → Nat → Bool} {l : List Nat} {k : Nat} : ∀ (f a r : Nat), a ≤ r → placeL lt l k f a r ≤ r
  | 0, a, r, h => h
  | f + 1, a, r, h => by
    unfold placeL
    split
    · exact h
    · split
      · exact Nat.le_trans (place_le f a _ (by omega)) (by omega)
      · exact place_le f _ r (by omega)
theorem move_eq {p : Array Nat} {k j : Nat} (hk : k < p.size) (hj : j ≤ k) : (bubble p k (k - j)).toList = moveL p.toList k j := by
  refine List.ext_getElem? fun i => ?_
  rw [Array.getElem?_toList, getElem?_bubble hk (k - j) (by omega) i]
  have hkl : k < p.toList.length := by simpa using hk
  have hjl : (p.toList.take j).length = j := by rw [List.length_take]; omega
  have hml : ((p.toList.drop j).take (k - j)).length = k - j := by rw [List.length_take, List.length_drop]; omega
  have e0 : p.toList.getD k 0 = p.toList[k] := by rw [List.getD_eq_getElem?_getD, List.getElem?_eq_getElem hkl]; rfl
  unfold moveL
  rw [show k - (k - j) = j by omega]
  rcases Nat.lt_or_ge i j with h1 | h1
  · rw [if_neg (by omega), if_neg (by omega), List.append_assoc, List.getElem?_append_left (by omega), List.getElem?_take_of_lt h1, Array.getElem?_toList]
  · rw [List.append_assoc, List.getElem?_append_right (by omega), hjl]
    rcases Nat.eq_or_lt_of_le h1 with h2 | h2
    · rw [if_pos h2.symm, show i - j = 0 by omega, e0]
      simp [hk]
    · rw [if_neg (by omega)]
      rcases Nat.lt_or_ge k i with h3 | h3
      · rw [if_neg (by omega), List.getElem?_append_right (by simp; omega)]
        rw [List.getElem?_drop, ← Array.getElem?_toList]
        congr 1
        simp
        omega
      · rw [if_pos ⟨h2, h3⟩, List.getElem?_append_left (by simp; omega)]
        rw [show i - j = (i - j - 1) + 1 by omega, List.getElem?_cons_succ, List.getElem?_take_of_lt (by omega), List.getElem?_drop, ← Array.getElem?_toList]
        congr 1
        omega
theorem move_lt {l : List Nat} {n k j : Nat} (h : ∀ x ∈ l, x < n) (hn : 0 < n) : ∀ x ∈ moveL l k j, x < n := by
  intro x hx
  unfold moveL at hx
  rcases List.mem_append.mp hx with hx | hx
  · rcases List.mem_append.mp hx with hx | hx
    · exact h x (List.mem_of_mem_take hx)
    · rcases List.mem_cons.mp hx with rfl | hx
      · exact getD_lt h hn
      · exact h x (List.mem_of_mem_drop (List.mem_of_mem_take hx))
  · exact h x (List.mem_of_mem_drop hx)
theorem bin_eq {n : Nat} {lt : Nat → Nat → Bool} (hn : 0 < n) : ∀ (f : Nat) (p : Array Nat) (k : Nat), (∀ x ∈ p.toList, x < n) → k + f ≤ p.size → ∃ q, kasGo n lt (kas_bin f p k) = some q ∧ q.toList = binL lt f p.toList k ∧ ∀ x ∈ q.toList, x < n
  | 0, p, k, h, _ => ⟨p, rfl, rfl, h⟩
  | f + 1, p, k, h, hs => by
    unfold kas_bin binL
    rw [kasGo_bind, place_eq h hn]
    have hle : placeL lt p.toList k k 0 k ≤ k := place_le k 0 k (Nat.zero_le _)
    have hm := move_eq (p := p) (k := k) (by omega) hle
    have hlt : ∀ x ∈ (bubble p k (k - placeL lt p.toList k k 0 k)).toList, x < n := by rw [hm]; exact move_lt h hn
    obtain ⟨q, h1, h2, h3⟩ := bin_eq hn f (bubble p k (k - placeL lt p.toList k k 0 k)) (k + 1) hlt (by rw [bubble_size]; omega)
    exact ⟨q, h1, by rw [h2, hm], h3⟩
theorem sortL_rows {rs ys : List (List Int)} (h : sortL rs = some ys) : sortRows rs = some ys := by
  unfold sortL at h
  unfold sortRows
  by_cases h2 : rs.length < 2
  · rw [if_pos h2] at h ⊢; exact h
  · rw [if_neg h2] at h ⊢
    have hlt : (fun i j => lexLt (rs.getD i []) (rs.getD j [])) = rowLt rs := rfl
    rw [hlt]
    cases e : kasGo rs.length (rowLt rs) (kas_count rs.length (List.toArray (List.range rs.length))) with
    | none => rw [e] at h; cases h
    | some r =>
      rw [e] at h
      dsimp only at h
      by_cases hok : r.2.size = rs.length ∧ (r.2.toList.all fun i => decide (i < rs.length)) = true
      · rw [if_pos hok] at h
        obtain ⟨hsz, hall⟩ := hok
        have hall' : ∀ x ∈ r.2.toList, x < rs.length := fun x hx => of_decide_eq_true (List.all_eq_true.mp hall x hx)
        have run : kasGo rs.length (rowLt rs) (kas_sort rs.length) = kasGo rs.length (rowLt rs) (if r.1 < rs.length then kas_bin (rs.length - max r.1 1) r.2 (max r.1 1) else .ret r.2) := by
          unfold kas_sort
          rw [kasGo_bind, e]; rfl
        rw [run]
        by_cases hr : r.1 < rs.length
        · rw [if_pos hr] at h ⊢
          obtain ⟨q, q1, q2, q3⟩ := bin_eq (n := rs.length) (lt := rowLt rs) (by omega) (rs.length - max r.1 1) r.2 (max r.1 1) hall' (by omega)
          rw [q1]
          dsimp only
          rw [if_pos (List.all_eq_true.mpr fun x hx => decide_eq_true (q3 x hx)), q2]
          exact h
        · rw [if_neg hr] at h ⊢
          show (if (r.2.toList.all fun i => decide (i < rs.length)) = true then some (r.2.toList.map fun i => rs.getD i []) else none) = some ys
          rw [if_pos hall]
          exact h
      · rw [if_neg hok] at h; cases h
end Mine

namespace Mine
set_option maxRecDepth 100000

def sumN (bs : List Int) : Nat := bs.sum.toNat
def toldAt (bs : List Int) (i : Nat) : List (List Int) := rows bs (i : Int)
def midRows (cs : List (List (List Int))) (i : Nat) : List (List Int) := cs.flatten.filter fun r => decide (r.sum = (i : Int))
def sumOk (bs : List Int) (cs : List (List (List Int))) (i : Nat) : Bool :=
  decide ((toldAt bs i).length < 64) && decide ((midRows cs i).length < 64) && (toldAt bs i).all (fun r => !r.isEmpty) && (midRows cs i).all (fun r => !r.isEmpty) &&
  (sortL (toldAt bs i)).isSome && (sortL (toldAt bs i) == sortL (midRows cs i)) && decide ((toldAt bs i).length = (toldAt bs (sumN bs - i)).length) &&
  !(decide (2 * i < sumN bs) && decide ((toldAt bs (i + 1)).length < (toldAt bs i).length))
def diffs (n : Nat) (r q : List Int) : List Int := (List.range n).map fun j => r.getD j 0 - q.getD j 0
def target (n : Nat) : List Int := List.replicate (n - 1) 0 ++ [1]
def chainOk (bs : List Int) (chain : List (List Int)) : Bool :=
  okChain chain && chain.all (fun r => decide (r.length = bs.length)) && decide ((chain.getD 0 []).sum + (chain.getD (chain.length - 1) []).sum = bs.sum) &&
  (List.range (chain.length - 1)).all fun k => (diffs bs.length (chain.getD (k + 1) []) (chain.getD k [])).isPerm (target bs.length)
def prefixOk (bs : List Int) : Bool := (List.range (bs.length + 1)).all fun i => decide ((chainsOf (bs.take i)).length ≤ 90000) && (chainsOf (bs.take i)).all okChain
def checkBs (bs : List Int) : Bool :=
  prefixOk bs && (rows bs (bs.sum + 1)).isEmpty && (List.range (sumN bs + 1)).all (sumOk bs (chainsOf bs)) && (chainsOf bs).all (chainOk bs) &&
  decide ((chainsOf bs).length = (toldAt bs (sumN bs / 2)).length) && decide ((chainsOf bs).flatten.length ≤ 80000)


theorem c1_0 : checkBs [0] = true := by decide +kernel
theorem c1_1 : checkBs [1] = true := by decide +kernel
theorem c1_2 : checkBs [2] = true := by decide +kernel
theorem c1_3 : checkBs [3] = true := by decide +kernel
theorem c2_00 : checkBs [0, 0] = true := by decide +kernel
theorem c2_01 : checkBs [0, 1] = true := by decide +kernel
theorem c2_02 : checkBs [0, 2] = true := by decide +kernel
theorem c2_03 : checkBs [0, 3] = true := by decide +kernel
theorem c2_10 : checkBs [1, 0] = true := by decide +kernel
theorem c2_11 : checkBs [1, 1] = true := by decide +kernel
theorem c2_12 : checkBs [1, 2] = true := by decide +kernel
theorem c2_13 : checkBs [1, 3] = true := by decide +kernel
theorem c2_20 : checkBs [2, 0] = true := by decide +kernel
theorem c2_21 : checkBs [2, 1] = true := by decide +kernel
theorem c2_22 : checkBs [2, 2] = true := by decide +kernel
theorem c2_23 : checkBs [2, 3] = true := by decide +kernel
theorem c2_30 : checkBs [3, 0] = true := by decide +kernel
theorem c2_31 : checkBs [3, 1] = true := by decide +kernel
theorem c2_32 : checkBs [3, 2] = true := by decide +kernel
theorem c2_33 : checkBs [3, 3] = true := by decide +kernel
theorem c3_000 : checkBs [0, 0, 0] = true := by decide +kernel
theorem c3_001 : checkBs [0, 0, 1] = true := by decide +kernel
theorem c3_002 : checkBs [0, 0, 2] = true := by decide +kernel
theorem c3_003 : checkBs [0, 0, 3] = true := by decide +kernel
theorem c3_010 : checkBs [0, 1, 0] = true := by decide +kernel
theorem c3_011 : checkBs [0, 1, 1] = true := by decide +kernel
theorem c3_012 : checkBs [0, 1, 2] = true := by decide +kernel
theorem c3_013 : checkBs [0, 1, 3] = true := by decide +kernel
theorem c3_020 : checkBs [0, 2, 0] = true := by decide +kernel
theorem c3_021 : checkBs [0, 2, 1] = true := by decide +kernel
theorem c3_022 : checkBs [0, 2, 2] = true := by decide +kernel
theorem c3_023 : checkBs [0, 2, 3] = true := by decide +kernel
theorem c3_030 : checkBs [0, 3, 0] = true := by decide +kernel
theorem c3_031 : checkBs [0, 3, 1] = true := by decide +kernel
theorem c3_032 : checkBs [0, 3, 2] = true := by decide +kernel
theorem c3_033 : checkBs [0, 3, 3] = true := by decide +kernel
theorem c3_100 : checkBs [1, 0, 0] = true := by decide +kernel
theorem c3_101 : checkBs [1, 0, 1] = true := by decide +kernel
theorem c3_102 : checkBs [1, 0, 2] = true := by decide +kernel
theorem c3_103 : checkBs [1, 0, 3] = true := by decide +kernel
theorem c3_110 : checkBs [1, 1, 0] = true := by decide +kernel
theorem c3_111 : checkBs [1, 1, 1] = true := by decide +kernel
theorem c3_112 : checkBs [1, 1, 2] = true := by decide +kernel
theorem c3_113 : checkBs [1, 1, 3] = true := by decide +kernel
theorem c3_120 : checkBs [1, 2, 0] = true := by decide +kernel
theorem c3_121 : checkBs [1, 2, 1] = true := by decide +kernel
theorem c3_122 : checkBs [1, 2, 2] = true := by decide +kernel
theorem c3_123 : checkBs [1, 2, 3] = true := by decide +kernel
theorem c3_130 : checkBs [1, 3, 0] = true := by decide +kernel
theorem c3_131 : checkBs [1, 3, 1] = true := by decide +kernel
theorem c3_132 : checkBs [1, 3, 2] = true := by decide +kernel
theorem c3_133 : checkBs [1, 3, 3] = true := by decide +kernel
theorem c3_200 : checkBs [2, 0, 0] = true := by decide +kernel
theorem c3_201 : checkBs [2, 0, 1] = true := by decide +kernel
theorem c3_202 : checkBs [2, 0, 2] = true := by decide +kernel
theorem c3_203 : checkBs [2, 0, 3] = true := by decide +kernel
theorem c3_210 : checkBs [2, 1, 0] = true := by decide +kernel
theorem c3_211 : checkBs [2, 1, 1] = true := by decide +kernel
theorem c3_212 : checkBs [2, 1, 2] = true := by decide +kernel
theorem c3_213 : checkBs [2, 1, 3] = true := by decide +kernel
theorem c3_220 : checkBs [2, 2, 0] = true := by decide +kernel
theorem c3_221 : checkBs [2, 2, 1] = true := by decide +kernel
theorem c3_222 : checkBs [2, 2, 2] = true := by decide +kernel
theorem c3_223 : checkBs [2, 2, 3] = true := by decide +kernel
theorem c3_230 : checkBs [2, 3, 0] = true := by decide +kernel
theorem c3_231 : checkBs [2, 3, 1] = true := by decide +kernel
theorem c3_232 : checkBs [2, 3, 2] = true := by decide +kernel
theorem c3_233 : checkBs [2, 3, 3] = true := by decide +kernel
theorem c3_300 : checkBs [3, 0, 0] = true := by decide +kernel
theorem c3_301 : checkBs [3, 0, 1] = true := by decide +kernel
theorem c3_302 : checkBs [3, 0, 2] = true := by decide +kernel
theorem c3_303 : checkBs [3, 0, 3] = true := by decide +kernel
theorem c3_310 : checkBs [3, 1, 0] = true := by decide +kernel
theorem c3_311 : checkBs [3, 1, 1] = true := by decide +kernel
theorem c3_312 : checkBs [3, 1, 2] = true := by decide +kernel
theorem c3_313 : checkBs [3, 1, 3] = true := by decide +kernel
theorem c3_320 : checkBs [3, 2, 0] = true := by decide +kernel
theorem c3_321 : checkBs [3, 2, 1] = true := by decide +kernel
theorem c3_322 : checkBs [3, 2, 2] = true := by decide +kernel
theorem c3_323 : checkBs [3, 2, 3] = true := by decide +kernel
theorem c3_330 : checkBs [3, 3, 0] = true := by decide +kernel
theorem c3_331 : checkBs [3, 3, 1] = true := by decide +kernel
theorem c3_332 : checkBs [3, 3, 2] = true := by decide +kernel
theorem c3_333 : checkBs [3, 3, 3] = true := by decide +kernel
theorem c4_0000 : checkBs [0, 0, 0, 0] = true := by decide +kernel
theorem c4_0001 : checkBs [0, 0, 0, 1] = true := by decide +kernel
theorem c4_0002 : checkBs [0, 0, 0, 2] = true := by decide +kernel
theorem c4_0010 : checkBs [0, 0, 1, 0] = true := by decide +kernel
theorem c4_0011 : checkBs [0, 0, 1, 1] = true := by decide +kernel
theorem c4_0012 : checkBs [0, 0, 1, 2] = true := by decide +kernel
theorem c4_0020 : checkBs [0, 0, 2, 0] = true := by decide +kernel
theorem c4_0021 : checkBs [0, 0, 2, 1] = true := by decide +kernel
theorem c4_0022 : checkBs [0, 0, 2, 2] = true := by decide +kernel
theorem c4_0100 : checkBs [0, 1, 0, 0] = true := by decide +kernel
theorem c4_0101 : checkBs [0, 1, 0, 1] = true := by decide +kernel
theorem c4_0102 : checkBs [0, 1, 0, 2] = true := by decide +kernel
theorem c4_0110 : checkBs [0, 1, 1, 0] = true := by decide +kernel
theorem c4_0111 : checkBs [0, 1, 1, 1] = true := by decide +kernel
theorem c4_0112 : checkBs [0, 1, 1, 2] = true := by decide +kernel
theorem c4_0120 : checkBs [0, 1, 2, 0] = true := by decide +kernel
theorem c4_0121 : checkBs [0, 1, 2, 1] = true := by decide +kernel
theorem c4_0122 : checkBs [0, 1, 2, 2] = true := by decide +kernel
theorem c4_0200 : checkBs [0, 2, 0, 0] = true := by decide +kernel
theorem c4_0201 : checkBs [0, 2, 0, 1] = true := by decide +kernel
theorem c4_0202 : checkBs [0, 2, 0, 2] = true := by decide +kernel
theorem c4_0210 : checkBs [0, 2, 1, 0] = true := by decide +kernel
theorem c4_0211 : checkBs [0, 2, 1, 1] = true := by decide +kernel
theorem c4_0212 : checkBs [0, 2, 1, 2] = true := by decide +kernel
theorem c4_0220 : checkBs [0, 2, 2, 0] = true := by decide +kernel
theorem c4_0221 : checkBs [0, 2, 2, 1] = true := by decide +kernel
theorem c4_0222 : checkBs [0, 2, 2, 2] = true := by decide +kernel
theorem c4_1000 : checkBs [1, 0, 0, 0] = true := by decide +kernel
theorem c4_1001 : checkBs [1, 0, 0, 1] = true := by decide +kernel
theorem c4_1002 : checkBs [1, 0, 0, 2] = true := by decide +kernel
theorem c4_1010 : checkBs [1, 0, 1, 0] = true := by decide +kernel
theorem c4_1011 : checkBs [1, 0, 1, 1] = true := by decide +kernel
theorem c4_1012 : checkBs [1, 0, 1, 2] = true := by decide +kernel
theorem c4_1020 : checkBs [1, 0, 2, 0] = true := by decide +kernel
theorem c4_1021 : checkBs [1, 0, 2, 1] = true := by decide +kernel
theorem c4_1022 : checkBs [1, 0, 2, 2] = true := by decide +kernel
theorem c4_1100 : checkBs [1, 1, 0, 0] = true := by decide +kernel
theorem c4_1101 : checkBs [1, 1, 0, 1] = true := by decide +kernel
theorem c4_1102 : checkBs [1, 1, 0, 2] = true := by decide +kernel
theorem c4_1110 : checkBs [1, 1, 1, 0] = true := by decide +kernel
theorem c4_1111 : checkBs [1, 1, 1, 1] = true := by decide +kernel
theorem c4_1112 : checkBs [1, 1, 1, 2] = true := by decide +kernel
theorem c4_1120 : checkBs [1, 1, 2, 0] = true := by decide +kernel
theorem c4_1121 : checkBs [1, 1, 2, 1] = true := by decide +kernel
theorem c4_1122 : checkBs [1, 1, 2, 2] = true := by decide +kernel
theorem c4_1200 : checkBs [1, 2, 0, 0] = true := by decide +kernel
theorem c4_1201 : checkBs [1, 2, 0, 1] = true := by decide +kernel
theorem c4_1202 : checkBs [1, 2, 0, 2] = true := by decide +kernel
theorem c4_1210 : checkBs [1, 2, 1, 0] = true := by decide +kernel
theorem c4_1211 : checkBs [1, 2, 1, 1] = true := by decide +kernel
theorem c4_1212 : checkBs [1, 2, 1, 2] = true := by decide +kernel
theorem c4_1220 : checkBs [1, 2, 2, 0] = true := by decide +kernel
theorem c4_1221 : checkBs [1, 2, 2, 1] = true := by decide +kernel
theorem c4_1222 : checkBs [1, 2, 2, 2] = true := by decide +kernel
theorem c4_2000 : checkBs [2, 0, 0, 0] = true := by decide +kernel
theorem c4_2001 : checkBs [2, 0, 0, 1] = true := by decide +kernel
theorem c4_2002 : checkBs [2, 0, 0, 2] = true := by decide +kernel
theorem c4_2010 : checkBs [2, 0, 1, 0] = true := by decide +kernel
theorem c4_2011 : checkBs [2, 0, 1, 1] = true := by decide +kernel
theorem c4_2012 : checkBs [2, 0, 1, 2] = true := by decide +kernel
theorem c4_2020 : checkBs [2, 0, 2, 0] = true := by decide +kernel
theorem c4_2021 : checkBs [2, 0, 2, 1] = true := by decide +kernel
theorem c4_2022 : checkBs [2, 0, 2, 2] = true := by decide +kernel
theorem c4_2100 : checkBs [2, 1, 0, 0] = true := by decide +kernel
theorem c4_2101 : checkBs [2, 1, 0, 1] = true := by decide +kernel
theorem c4_2102 : checkBs [2, 1, 0, 2] = true := by decide +kernel
theorem c4_2110 : checkBs [2, 1, 1, 0] = true := by decide +kernel
theorem c4_2111 : checkBs [2, 1, 1, 1] = true := by decide +kernel
theorem c4_2112 : checkBs [2, 1, 1, 2] = true := by decide +kernel
theorem c4_2120 : checkBs [2, 1, 2, 0] = true := by decide +kernel
theorem c4_2121 : checkBs [2, 1, 2, 1] = true := by decide +kernel
theorem c4_2122 : checkBs [2, 1, 2, 2] = true := by decide +kernel
theorem c4_2200 : checkBs [2, 2, 0, 0] = true := by decide +kernel
theorem c4_2201 : checkBs [2, 2, 0, 1] = true := by decide +kernel
theorem c4_2202 : checkBs [2, 2, 0, 2] = true := by decide +kernel
theorem c4_2210 : checkBs [2, 2, 1, 0] = true := by decide +kernel
theorem c4_2211 : checkBs [2, 2, 1, 1] = true := by decide +kernel
theorem c4_2212 : checkBs [2, 2, 1, 2] = true := by decide +kernel
theorem c4_2220 : checkBs [2, 2, 2, 0] = true := by decide +kernel
theorem c4_2221 : checkBs [2, 2, 2, 1] = true := by decide +kernel
theorem c4_2222 : checkBs [2, 2, 2, 2] = true := by decide +kernel
theorem good1 {a : Int} (ha : 0 ≤ a ∧ a ≤ 3) : checkBs [a] = true := by
  have ea : a = 0 ∨ a = 1 ∨ a = 2 ∨ a = 3 := by omega
  rcases ea with rfl | rfl | rfl | rfl
  · exact c1_0
  · exact c1_1
  · exact c1_2
  · exact c1_3
theorem good2 {a b : Int} (ha : 0 ≤ a ∧ a ≤ 3) (hb : 0 ≤ b ∧ b ≤ 3) : checkBs [a, b] = true := by
  have ea : a = 0 ∨ a = 1 ∨ a = 2 ∨ a = 3 := by omega
  have eb : b = 0 ∨ b = 1 ∨ b = 2 ∨ b = 3 := by omega
  rcases ea with rfl | rfl | rfl | rfl
  · rcases eb with rfl | rfl | rfl | rfl
    · exact c2_00
    · exact c2_01
    · exact c2_02
    · exact c2_03
  · rcases eb with rfl | rfl | rfl | rfl
    · exact c2_10
    · exact c2_11
    · exact c2_12
    · exact c2_13
  · rcases eb with rfl | rfl | rfl | rfl
    · exact c2_20
    · exact c2_21
    · exact c2_22
    · exact c2_23
  · rcases eb with rfl | rfl | rfl | rfl
    · exact c2_30
    · exact c2_31
    · exact c2_32
    · exact c2_33
theorem good3 {a b c : Int} (ha : 0 ≤ a ∧ a ≤ 3) (hb : 0 ≤ b ∧ b ≤ 3) (hc : 0 ≤ c ∧ c ≤ 3) : checkBs [a, b, c] = true := by
  have ea : a = 0 ∨ a = 1 ∨ a = 2 ∨ a = 3 := by omega
  have eb : b = 0 ∨ b = 1 ∨ b = 2 ∨ b = 3 := by omega
  have ec : c = 0 ∨ c = 1 ∨ c = 2 ∨ c = 3 := by omega
  rcases ea with rfl | rfl | rfl | rfl
  · rcases eb with rfl | rfl | rfl | rfl
    · rcases ec with rfl | rfl | rfl | rfl
      · exact c3_000
      · exact c3_001
      · exact c3_002
      · exact c3_003
    · rcases ec with rfl | rfl | rfl | rfl
      · exact c3_010
      · exact c3_011
      · exact c3_012
      · exact c3_013
    · rcases ec with rfl | rfl | rfl | rfl
      · exact c3_020
      · exact c3_021
      · exact c3_022
      · exact c3_023
    · rcases ec with rfl | rfl | rfl | rfl
      · exact c3_030
      · exact c3_031
      · exact c3_032
      · exact c3_033
  · rcases eb with rfl | rfl | rfl | rfl
    · rcases ec with rfl | rfl | rfl | rfl
      · exact c3_100
      · exact c3_101
      · exact c3_102
      · exact c3_103
    · rcases ec with rfl | rfl | rfl | rfl
      · exact c3_110
      · exact c3_111
      · exact c3_112
      · exact c3_113
    · rcases ec with rfl | rfl | rfl | rfl
      · exact c3_120
      · exact c3_121
      · exact c3_122
      · exact c3_123
    · rcases ec with rfl | rfl | rfl | rfl
      · exact c3_130
      · exact c3_131
      · exact c3_132
      · exact c3_133
  · rcases eb with rfl | rfl | rfl | rfl
    · rcases ec with rfl | rfl | rfl | rfl
      · exact c3_200
      · exact c3_201
      · exact c3_202
      · exact c3_203
    · rcases ec with rfl | rfl | rfl | rfl
      · exact c3_210
      · exact c3_211
      · exact c3_212
      · exact c3_213
    · rcases ec with rfl | rfl | rfl | rfl
      · exact c3_220
      · exact c3_221
      · exact c3_222
      · exact c3_223
    · rcases ec with rfl | rfl | rfl | rfl
      · exact c3_230
      · exact c3_231
      · exact c3_232
      · exact c3_233
  · rcases eb with rfl | rfl | rfl | rfl
    · rcases ec with rfl | rfl | rfl | rfl
      · exact c3_300
      · exact c3_301
      · exact c3_302
      · exact c3_303
    · rcases ec with rfl | rfl | rfl | rfl
      · exact c3_310
      · exact c3_311
      · exact c3_312
      · exact c3_313
    · rcases ec with rfl | rfl | rfl | rfl
      · exact c3_320
      · exact c3_321
      · exact c3_322
      · exact c3_323
    · rcases ec with rfl | rfl | rfl | rfl
      · exact c3_330
      · exact c3_331
      · exact c3_332
      · exact c3_333
theorem good4 {a b c d : Int} (ha : 0 ≤ a ∧ a ≤ 2) (hb : 0 ≤ b ∧ b ≤ 2) (hc : 0 ≤ c ∧ c ≤ 2) (hd : 0 ≤ d ∧ d ≤ 2) : checkBs [a, b, c, d] = true := by
  have ea : a = 0 ∨ a = 1 ∨ a = 2 := by omega
  have eb : b = 0 ∨ b = 1 ∨ b = 2 := by omega
  have ec : c = 0 ∨ c = 1 ∨ c = 2 := by omega
  have ed : d = 0 ∨ d = 1 ∨ d = 2 := by omega
  rcases ea with rfl | rfl | rfl
  · rcases eb with rfl | rfl | rfl
    · rcases ec with rfl | rfl | rfl
      · rcases ed with rfl | rfl | rfl
        · exact c4_0000
        · exact c4_0001
        · exact c4_0002
      · rcases ed with rfl | rfl | rfl
        · exact c4_0010
        · exact c4_0011
        · exact c4_0012
      · rcases ed with rfl | rfl | rfl
        · exact c4_0020
        · exact c4_0021
        · exact c4_0022
    · rcases ec with rfl | rfl | rfl
      · rcases ed with rfl | rfl | rfl
        · exact c4_0100
        · exact c4_0101
        · exact c4_0102
      · rcases ed with rfl | rfl | rfl
        · exact c4_0110
        · exact c4_0111
        · exact c4_0112
      · rcases ed with rfl | rfl | rfl
        · exact c4_0120
        · exact c4_0121
        · exact c4_0122
    · rcases ec with rfl | rfl | rfl
      · rcases ed with rfl | rfl | rfl
        · exact c4_0200
        · exact c4_0201
        · exact c4_0202
      · rcases ed with rfl | rfl | rfl
        · exact c4_0210
        · exact c4_0211
        · exact c4_0212
      · rcases ed with rfl | rfl | rfl
        · exact c4_0220
        · exact c4_0221
        · exact c4_0222
  · rcases eb with rfl | rfl | rfl
    · rcases ec with rfl | rfl | rfl
      · rcases ed with rfl | rfl | rfl
        · exact c4_1000
        · exact c4_1001
        · exact c4_1002
      · rcases ed with rfl | rfl | rfl
        · exact c4_1010
        · exact c4_1011
        · exact c4_1012
      · rcases ed with rfl | rfl | rfl
        · exact c4_1020
        · exact c4_1021
        · exact c4_1022
    · rcases ec with rfl | rfl | rfl
      · rcases ed with rfl | rfl | rfl
        · exact c4_1100
        · exact c4_1101
        · exact c4_1102
      · rcases ed with rfl | rfl | rfl
        · exact c4_1110
        · exact c4_1111
        · exact c4_1112
      · rcases ed with rfl | rfl | rfl
        · exact c4_1120
        · exact c4_1121
        · exact c4_1122
    · rcases ec with rfl | rfl | rfl
      · rcases ed with rfl | rfl | rfl
        · exact c4_1200
        · exact c4_1201
        · exact c4_1202
      · rcases ed with rfl | rfl | rfl
        · exact c4_1210
        · exact c4_1211
        · exact c4_1212
      · rcases ed with rfl | rfl | rfl
        · exact c4_1220
        · exact c4_1221
        · exact c4_1222
  · rcases eb with rfl | rfl | rfl
    · rcases ec with rfl | rfl | rfl
      · rcases ed with rfl | rfl | rfl
        · exact c4_2000
        · exact c4_2001
        · exact c4_2002
      · rcases ed with rfl | rfl | rfl
        · exact c4_2010
        · exact c4_2011
        · exact c4_2012
      · rcases ed with rfl | rfl | rfl
        · exact c4_2020
        · exact c4_2021
        · exact c4_2022
    · rcases ec with rfl | rfl | rfl
      · rcases ed with rfl | rfl | rfl
        · exact c4_2100
        · exact c4_2101
        · exact c4_2102
      · rcases ed with rfl | rfl | rfl
        · exact c4_2110
        · exact c4_2111
        · exact c4_2112
      · rcases ed with rfl | rfl | rfl
        · exact c4_2120
        · exact c4_2121
        · exact c4_2122
    · rcases ec with rfl | rfl | rfl
      · rcases ed with rfl | rfl | rfl
        · exact c4_2200
        · exact c4_2201
        · exact c4_2202
      · rcases ed with rfl | rfl | rfl
        · exact c4_2210
        · exact c4_2211
        · exact c4_2212
      · rcases ed with rfl | rfl | rfl
        · exact c4_2220
        · exact c4_2221
        · exact c4_2222
theorem check_good : ∀ {bs : List Int}, GoodBs bs → checkBs bs = true
  | [], h => absurd h.pos (by simp)
  | [a], h => good1 (h.rng a (by simp))
  | [a, b], h => good2 (h.rng a (by simp)) (h.rng b (by simp))
  | [a, b, c], h => good3 (h.rng a (by simp)) (h.rng b (by simp)) (h.rng c (by simp))
  | [a, b, c, d], h =>
    have k : ∀ x ∈ [a, b, c, d], 0 ≤ x ∧ x ≤ 2 := fun x hx => ⟨(h.rng x hx).1, h.four rfl x hx⟩
    good4 (k a (by simp)) (k b (by simp)) (k c (by simp)) (k d (by simp))
  | a :: b :: c :: d :: e :: r, h => absurd h.len (by simp)
end Mine

namespace Mine
set_option maxRecDepth 100000
open Sem (wp)

structure SumFacts (bs : List Int) (cs : List (List (List Int))) (i : Nat) : Prop where
  big : (toldAt bs i).length < 64
  bigm : (midRows cs i).length < 64
  ne : ∀ r ∈ toldAt bs i, r ≠ []
  nem : ∀ r ∈ midRows cs i, r ≠ []
  same : ∃ ys, sortRows (toldAt bs i) = some ys ∧ sortRows (midRows cs i) = some ys
  sym : (toldAt bs i).length = (toldAt bs (sumN bs - i)).length
  grow : 2 * i < sumN bs → (toldAt bs i).length ≤ (toldAt bs (i + 1)).length
structure ChainFacts (bs : List Int) (chain : List (List Int)) : Prop where
  ok : okChain chain = true
  len : ∀ r ∈ chain, r.length = bs.length
  ends : (chain.getD 0 []).sum + (chain.getD (chain.length - 1) []).sum = bs.sum
  step : ∀ k, k < chain.length - 1 → (diffs bs.length (chain.getD (k + 1) []) (chain.getD k [])).Perm (target bs.length)
structure Facts (bs : List Int) : Prop where
  ok : OkB bs
  none : rows bs (bs.sum + 1) = []
  sums : ∀ i, i ≤ sumN bs → SumFacts bs (chainsOf bs) i
  chains : ∀ c ∈ chainsOf bs, ChainFacts bs c
  count : (chainsOf bs).length = (toldAt bs (sumN bs / 2)).length
  flat : (chainsOf bs).flatten.length ≤ 80000

theorem facts_of {bs : List Int} (h : GoodBs bs) : Facts bs := by
  have hc := check_good h
  simp only [checkBs, Bool.and_eq_true, decide_eq_true_eq, List.all_eq_true, List.mem_range, List.isEmpty_iff] at hc
  obtain ⟨⟨⟨⟨⟨h1, h2⟩, h3⟩, h4⟩, h5⟩, h6⟩ := hc
  refine ⟨⟨h, fun i hi => ?_⟩, h2, fun i hi => ?_, fun c hc => ?_, h5, h6⟩
  · have := List.all_eq_true.mp h1 i (List.mem_range.mpr (by omega))
    simp only [Bool.and_eq_true, decide_eq_true_eq, List.all_eq_true] at this
    exact this
  · have := h3 i (by omega)
    simp only [sumOk, Bool.and_eq_true, decide_eq_true_eq, List.all_eq_true, Bool.not_eq_true', Bool.and_eq_false_iff, decide_eq_false_iff_not, beq_iff_eq, List.isEmpty_eq_false_iff] at this
    obtain ⟨⟨⟨⟨⟨⟨⟨a1, a2⟩, a3⟩, a4⟩, a5⟩, a6⟩, a7⟩, a8⟩ := this
    refine ⟨a1, a2, a3, a4, ?_, a7, fun hlt => ?_⟩
    · obtain ⟨ys, hys⟩ := Option.isSome_iff_exists.mp a5
      exact ⟨ys, sortL_rows hys, sortL_rows (a6 ▸ hys)⟩
    · rcases a8 with a8 | a8
      · exact absurd hlt a8
      · omega
  · have := h4 c hc
    simp only [chainOk, Bool.and_eq_true, decide_eq_true_eq, List.all_eq_true, List.mem_range, List.isPerm_iff] at this
    exact ⟨this.1.1.1, this.1.1.2, this.1.2, this.2⟩
end Mine

namespace Mine
set_option maxRecDepth 100000
open Sem (wp)

/-- lists of rows, item by item -/
def RowsAt (rss : List (List (List Int))) (i : Nat) (y : Value) (s : Shared) : Prop := ∃ rs, rss[i]? = some rs ∧ RowsIs s.heap y rs
theorem rowsAt_stable (rss : List (List (List Int))) : FStable (RowsAt rss) := fun _ _ _ _ _ _ ⟨r, h1, h2⟩ hD hne hs => ⟨r, h1, solb_rows hs hD h2 hne⟩
def toldOf (bs : List Int) : List (List (List Int)) := (List.range (sumN bs + 2)).map (toldAt bs)

abbrev lawD : DefRec := defAt 7
abbrev envW (L fa : Addr) (cd : Value) : Env := envOfC lawD.name lawD.scope L fa cd
abbrev csW (L : Addr) : List (Str × Addr) := cellsFrom (L + 1) lawD.scope.names []
theorem bcell (L : Addr) : (csW L).lookup (Str.ofString "bounds") = some (L + 1) := by rfl
theorem scell (L : Addr) : (csW L).lookup (Str.ofString "s") = some (L + 1 + 1) := by rfl
theorem chcell (L : Addr) : (csW L).lookup (Str.ofString "chain") = some (L + 1 + 1 + 1) := by rfl
theorem kkcell (L : Addr) : (csW L).lookup (Str.ofString "k") = some (L + 1 + 1 + 1 + 1) := by rfl
abbrev lb (i : Nat) : Stmt := StmtAt lawD.body i

theorem sum_nonneg' {bs : List Int} (h : ∀ x ∈ bs, 0 ≤ x ∧ x ≤ 3) : 0 ≤ bs.sum ∧ bs.sum ≤ 3 * (bs.length : Int) := by
  induction bs with
  | nil => simp
  | cons b bs ih =>
    have h1 := h b List.mem_cons_self
    have h2 := ih fun x hx => h x (List.mem_cons_of_mem _ hx)
    simp only [List.sum_cons, List.length_cons]
    push_cast
    omega
theorem GoodBs.sum {bs : List Int} (h : GoodBs bs) : (sumN bs : Int) = bs.sum ∧ sumN bs ≤ 12 := by
  have h1 := sum_nonneg' h.rng
  have h2 := h.len
  unfold sumN
  omega

section
variable {prog : Program} {w : World} {A : Around} {mg mb : Str → Option Value}

theorem told_stmt {fa ff : Addr} {cd cf : Value} {s₀ s : Shared} {L l : Addr} {m cm : Str → Option Value} (hA : OkA 70 A) (G : Glo mg mb s₀.heap) (Xf : FnAt mg s₀.heap fivi ff cf) (B : Bd s₀ L (csW L) m cm s) {bs : List Int} (hf : Facts bs) {vs : List Value} {tt : Tok}
    (hc : cm "bounds" = some (.ref l)) (hl : s.heap.IsList l vs.toArray) (hi : IntsAre vs bs) (hm : m "total" = some (.int bs.sum tt)) {Q : Flow → Shared → Prop}
    (h : ∀ D s' m', Bd s₀ L (csW L) m' cm s' → m' "told" = some (.ref D) → (∀ y : Str, y ≠ "told" → m' y = m y) → RowssIs s'.heap (.ref D) (toldOf bs) → Sol s.heap s'.heap → Q .next s') :
    wpAny (model prog w) A (exec (lb 3) (envW L fa cd)) Q (fun _ _ => False) s := by
  have hgs := hf.ok.good.sum
  have hlen := hf.ok.good.len
  have hko : kOf bs ≤ 60 := by unfold kOf; omega
  have hvl : vs.length = bs.length := hi.length
  have hGlo : ∀ s', Ext s₀ s' → Glo mg mb s'.heap := fun s' x => G.keeps fun _ _ e => ext_get x e
  have htl : (toldOf bs).length = sumN bs + 2 := by simp [toldOf]
  refine comp_assign (cl := [(Str.ofString "bounds", L + 1)]) hA.handled (sumN bs + 2) (fun i v => ∃ t, v = .int (0 + (i : Int)) t) (by omega) (RowsAt (toldOf bs)) (rowsAt_stable _) (by rfl) (by rfl) (by decide) (by rfl) (by decide) (by rfl) (by rfl) (by rfl) ?_ (by intro _; rfl)
  refine ct1 (hGlo _ B.ext) PyProof.Rows.Boot.«range» (wpAny_BinOp (nm_local (env := envW L fa cd) B.ns hm (wpAny_Constant_int (add_int (op_range1 fun R t u s₁ hR hdR k₁ => ?_)))))
  have B₁ := ((B.kp (Kp.tok (tk := s.toks + 1))).kp (Kp.tok (tk := s.toks + 1 + 1))).kp k₁
  have K₁ : Kp s s₁ := ((Kp.tok (tk := s.toks + 1)).trans (Kp.tok (tk := s.toks + 1 + 1))).trans k₁
  refine src_range hR (by omega) (by omega) (by omega) (by omega) (by omega) fun I s₂ S₂ => ⟨I, m, rfl, S₂, B₁.ns, ?_, ?_⟩
  · rintro i v C D acc s₃ m₃ hi₃ ⟨t, rfl⟩ hx hD hDl hn hmx
    rw [Int.zero_add] at hmx
    have X₃ : Ext s₀ s₃ := ext_trans B₁.ext hx
    have hlb : s₃.heap.IsList l vs.toArray := ext_list (ext_trans (ext_kp K₁) hx) hl
    refine ct1 (env := compEnvC _ _ C _) (hGlo _ X₃) PyProof.Rows.Boot.«list» (cd2 (env := compEnvC _ _ C _) (d := fivi) (hGlo _ X₃) (Xf.keeps fun _ _ e => ext_get X₃ e)
      (ct1 (env := compEnvC _ _ C _) (hGlo _ X₃) PyProof.Rows.Boot.«tuple» (nm_cell (env := compEnvC _ _ C _) (ext_cell hx (B₁.cell (bcell L) hc)) (by rfl) (op_tuple_list hlb (by rw [List.size_toArray]; omega) fun tp s₄ ht hdt k₄ =>
        nm_local (env := compEnvC _ _ C _) (k₄.ns hn) hmx ⟨fun e => k₄.get e, ?_⟩))))
    have X₄ : Ext s₀ s₄ := ext_trans X₃ (ext_kp k₄)
    have hdead : ∀ b, s₃.heap.get? b = none → s₀.heap.get? b = none := fun b hb => ext_dead X₃ hb
    refine call_tells G Xf bs (by omega) (fun x hx => ⟨(hf.ok.good.rng x hx).1, by have := (hf.ok.good.rng x hx).2; omega⟩) A s₄ tp vs i t _ _ (hA.mono (by omega)) (fun _ _ e => ext_get X₄ e) ht hi (by omega) (by omega) (hdead _ hdt) fun J g Lg s₅ hgen hdJ hdLg hg hm₅ => ?_
    have X₅ : Ext s₀ s₅ := ext_trans X₄ hm₅
    have hb : (toldAt bs i).length < 64 ∨ toldAt bs i = [] := by
      by_cases hle : i ≤ sumN bs
      · exact .inl (hf.sums i hle).big
      · right
        have : (i : Int) = bs.sum + 1 := by omega
        show rows bs (i : Int) = []
        rw [this]; exact hf.none
    refine op_list_gen G (k := kOf bs) (hA.mono (by omega)) hgen (fun _ _ e => ext_get X₅ e) (fun b hb => ?_) ?_ fun D' s₆ hrs hdD' hm₆ => ?_
    · rcases hb with rfl | rfl
      · exact hdead _ (k₄.dead hdLg)
      · exact hdead _ hdt
    · show (toldAt bs i).length ≤ 100000
      rcases hb with hb | hb
      · omega
      · rw [hb]; simp
    · have X₆ : Ext s₃ s₆ := ext_then (ext_trans (ext_kp k₄) hm₅) hm₆ (fun b hb => by
        rcases hb with rfl | rfl
        · exact k₄.dead hdLg
        · exact hdt) fun j hj => by
          rcases hj with hj | rfl
          · exact hj.elim
          · rw [hg, k₄.gens]; exact Nat.le_refl _
      refine ⟨X₆, ⟨toldAt bs i, ?_, hrs⟩, ?_⟩
      · rw [toldOf, List.getElem?_map, List.getElem?_range (by omega)]; rfl
      · intro e
        cases e
        have hD₅ := ext_list (ext_trans (ext_kp k₄) hm₅) hDl
        obtain ⟨o, e, _⟩ := hD₅
        rw [hdD'] at e; cases e
  · intro D s₄ hM hn₄
    have B₄ := B₁.madeL hM hn₄
    have hMm : Mvd (fun b => b = L) (fun _ => False) s₁ s₄ := by obtain ⟨_, _, _, _, _, e⟩ := hM; exact e
    have sol : Sol s.heap s₄.heap := sol_trans (sol_kp K₁) (sol_ns B₁.ns fun b o hb e => hMm.heap b o hb e)
    obtain ⟨ys, h1, h2, h3, h4, h5⟩ := hM
    refine h D s₄ _ B₄ (if_pos rfl) (fun y hy => if_neg hy) ⟨D, ys, rfl, h1.isList, prd_of (by omega) fun i a ha => (h3 i a ha).1⟩ sol
end
end Mine

namespace Mine
set_option maxRecDepth 100000
open Sem (wp)

theorem Bd.mvdL {s₀ s s' : Shared} {L : Addr} {cs : List (Str × Addr)} {m m' cm : Str → Option Value} (B : Bd s₀ L cs m cm s) (hm : Mvd (fun b => b = L) (fun _ => False) s s') (hn : s'.heap.Ns L m') : Bd s₀ L cs m' cm s' := by
  refine ⟨ext_then B.ext hm (by rintro b rfl; exact B.dL) (fun _ h => False.elim h), hn, ⟨fun nn c e => ?_, B.X.apart, B.X.above⟩, B.dL, B.dC⟩
  obtain ⟨o, ho, hd⟩ := B.X.cell nn c e
  exact ⟨o, hm.heap c o (Nat.ne_of_gt (B.X.above nn c (mem_of_lookup e))) ho, hd⟩
theorem sol_mvdL {s s' : Shared} {L : Addr} {m : Str → Option Value} (hn : s.heap.Ns L m) (hm : Mvd (fun b => b = L) (fun _ => False) s s') : Sol s.heap s'.heap := sol_ns hn fun b o hb e => hm.heap b o hb e

section
variable {prog : Program} {w : World} {A : Around} {mg mb : Str → Option Value}

theorem rowss_item {h : Heap} {a : Addr} {rss : List (List (List Int))} {vs : List Value} (hp : Paired (RowsIs h) vs rss) {i : Nat} {rs : List (List Int)} (hr : rss[i]? = some rs) : ∃ v, vs.toArray[i]? = some v ∧ RowsIs h v rs := by
  obtain ⟨v, hv, hrs⟩ := prd_get' hp hr
  exact ⟨v, by simpa using hv, hrs⟩
theorem told_get {bs : List Int} {i : Nat} (h : i < sumN bs + 2) : (toldOf bs)[i]? = some (toldAt bs i) := by
  rw [toldOf, List.getElem?_map, List.getElem?_range h]; rfl

theorem refuse_stmt {fa fr ff : Addr} {cd cr cf : Value} {s₀ s : Shared} {L l T : Addr} {m cm : Str → Option Value} (hA : OkA 70 A) (hfr : A.frames = some [envW L fa cd]) (G : Glo mg mb s₀.heap) (Xr : FnAt mg s₀.heap rfsd fr cr) (Xf : FnAt mg s₀.heap fivi ff cf) (B : Bd s₀ L (csW L) m cm s)
    {bs : List Int} (hf : Facts bs) {vs : List Value} {tt : Tok} (hc : cm "bounds" = some (.ref l)) (hl : s.heap.IsList l vs.toArray) (hi : IntsAre vs bs) (hm : m "total" = some (.int bs.sum tt)) (hmt : m "told" = some (.ref T)) (ht : RowssIs s.heap (.ref T) (toldOf bs)) {Q : Flow → Shared → Prop}
    (h : ∀ s', Bd s₀ L (csW L) m cm s' → Sol s.heap s'.heap → Q .next s') :
    wpAny (model prog w) A (exec (lb 4) (envW L fa cd)) Q (fun _ _ => False) s := by
  have hgs := hf.ok.good.sum
  have hlen := hf.ok.good.len
  have hvl : vs.length = bs.length := hi.length
  have hGlo : ∀ s', Ext s₀ s' → Glo mg mb s'.heap := fun s' x => G.keeps fun _ _ e => ext_get x e
  obtain ⟨T', ts, e, hT, htp⟩ := ht
  cases e
  have htl : ts.length = sumN bs + 2 := by rw [prd_len htp]; simp [toldOf]
  obtain ⟨v0, hv0, hr0⟩ := rowss_item (a := T) htp (told_get (bs := bs) (i := sumN bs + 1) (by omega))
  have hu : A.units + 4 < cLine := by have := hA.units; show A.units + 4 < 9900; omega
  have hno : toldAt bs (sumN bs + 1) = [] := by
    have : ((sumN bs + 1 : Nat) : Int) = bs.sum + 1 := by omega
    show rows bs ((sumN bs + 1 : Nat) : Int) = []
    rw [this]; exact hf.none
  rw [hno] at hr0
  refine wpAny_If (isTrue_or (wpAny_isTrue_Compare1 (Subscript_ (nm_local (env := envW L fa cd) B.ns hmt (wpAny_BinOp (nm_local (env := envW L fa cd) B.ns hm (wpAny_Constant_int (add_int ?_))))))))
  have hidx : bs.sum + 1 = ((sumN bs + 1 : Nat) : Int) := by omega
  rw [hidx]
  refine op_sub_list hT (by omega) (x := v0) (by rw [Int.toNat_natCast]; exact hv0) (by rw [List.size_toArray]; omega) ?_
  refine op_list0 fun D s₁ hD hdD k₁ => ?_
  have K₁ : Kp s s₁ := ((Kp.tok (tk := s.toks + 1)).trans (Kp.tok (tk := s.toks + 1 + 1))).trans k₁
  have B₁ := B.kp K₁
  refine rows_ne hu (sol_rows (sol_kp K₁) hr0) ⟨D, [], rfl, hD.isList, .nil⟩ (wpAny_truthy_bool ?_)
  rw [if_neg (by decide)]
  refine isTrue_or (isTrue_not (isTrue_plain (cd1 (d := rfsd) (hGlo _ B₁.ext) (Xr.keeps fun _ _ e => ext_get B₁.ext e) (nm_cell (env := envW L fa cd) (B₁.cell (bcell L) hc) (bcell L) ⟨fun e => e, ?_⟩)) (by rfl)))
  refine refused_call (k := 40) hA hfr (by show lawD.scope.kind ≠ .module; decide) rfl B₁.ns G (fun _ _ e => ext_get B₁.ext e) B.dL Xr Xf (K₁.list hl) (by omega) fun s₂ hm₂ hn₂ => wpAny_truthy_bool ?_
  have B₂ := B₁.mvdL hm₂ hn₂
  rw [if_neg (by decide)]
  refine isTrue_or_nil ?_
  rw [if_neg (by decide)]
  exact wpAny_execs_nil (h s₂ B₂ (sol_trans (sol_kp K₁) (sol_mvdL B₁.ns hm₂)))
end
end Mine

namespace Mine
set_option maxRecDepth 100000
open Sem (wp)

/-- what the names of the law stand for once told and chains are made -/
structure LV (bs : List Int) (l T Ch : Addr) (m cm : Str → Option Value) (s : Shared) : Prop where
  total : ∃ t, m "total" = some (.int bs.sum t)
  told : m "told" = some (.ref T)
  chains : m "chains" = some (.ref Ch)
  bounds : cm "bounds" = some (.ref l)
  list : ∃ vs, s.heap.IsList l (List.toArray vs) ∧ IntsAre vs bs
  rowsT : RowssIs s.heap (.ref T) (toldOf bs)
  rowsC : RowssIs s.heap (.ref Ch) (chainsOf bs)
theorem LV.sol {bs : List Int} {l T Ch : Addr} {m m' cm cm' : Str → Option Value} {s s' : Shared} (X : LV bs l T Ch m cm s) (x : Sol s.heap s'.heap) (h1 : m' = m) (h2 : cm' "bounds" = cm "bounds") : LV bs l T Ch m' cm' s' := by
  subst h1
  exact ⟨X.total, X.told, X.chains, h2.trans X.bounds, let ⟨vs, a, b⟩ := X.list; ⟨vs, sol_list x a, b⟩, sol_rowss x X.rowsT, sol_rowss x X.rowsC⟩

def sumB : List Stmt := forBody' (StmtAt lawD.body 6)

section
variable {prog : Program} {w : World} {A : Around} {mg mb : Str → Option Value}

theorem told_at {bs : List Int} {T : Addr} {h : Heap} (ht : RowssIs h (.ref T) (toldOf bs)) : ∃ ts : List Value, h.IsList T ts.toArray ∧ ts.length = sumN bs + 2 ∧ ∀ i, i < sumN bs + 2 → ∃ v, ts.toArray[i]? = some v ∧ RowsIs h v (toldAt bs i) := by
  obtain ⟨T', ts, e, hT, htp⟩ := ht
  cases e
  refine ⟨ts, hT, by rw [prd_len htp]; simp [toldOf], fun i hi => rowss_item (a := T) htp (told_get hi)⟩

theorem sum_if1 {fa : Addr} {cd : Value} {s₀ s : Shared} {L l T Ch : Addr} {m cm : Str → Option Value} (hA : OkA 70 A) (G : Glo mg mb s₀.heap) (B : Bd s₀ L (csW L) m cm s) {bs : List Int} (hf : Facts bs) (V : LV bs l T Ch m cm s) {i : Nat} {ti : Tok} (hi : i ≤ sumN bs) (hc : cm "s" = some (.int i ti)) {Q : Flow → Shared → Prop}
    (h : ∀ s', Bd s₀ L (csW L) m cm s' → Mvd (fun b => b = L) (fun _ => False) s s' → Q .next s') :
    wpAny (model prog w) A (exec (StmtAt sumB 0) (envW L fa cd)) Q (fun _ _ => False) s := by
  have hgs := hf.ok.good.sum
  have hu : A.units + 4 < cLine := by have := hA.units; show A.units + 4 < 9900; omega
  have hGlo : ∀ s', Ext s₀ s' → Glo mg mb s'.heap := fun s' x => G.keeps fun _ _ e => ext_get x e
  have S := hf.sums i hi
  obtain ⟨ys, hy1, hy2⟩ := S.same
  obtain ⟨ts, hT, htl, hti⟩ := told_at V.rowsT
  obtain ⟨v0, hv0, hr0⟩ := hti i (by omega)
  refine wpAny_If (wpAny_isTrue_Compare1 (cb1 (hGlo _ B.ext) PyProof.Rows.Boot.«sorted» (Subscript_ (nm_local (env := envW L fa cd) B.ns V.told (nm_cell (env := envW L fa cd) (B.cell (scell L) hc) (scell L)
    (op_sub_list hT (by omega) (x := v0) (by rw [Int.toNat_natCast]; exact hv0) (by rw [List.size_toArray]; omega) (sorted_rows B.ns hr0 S.big S.ne hy1 fun D₁ s₁ hD₁ hn₁ hm₁ => ?_)))))))
  have B₁ := B.mvdL hm₁ hn₁
  have sol₁ := sol_mvdL B.ns hm₁
  have hcl := (hf.ok.chain bs.length (Nat.le_refl _))
  rw [List.take_length] at hcl
  refine cb1 (hGlo _ B₁.ext) PyProof.Rows.Boot.«sorted» ?_
  refine comp3_eval (p := fun r => decide (r.sum = (i : Int))) (cl := [(Str.ofString "s", L + 1 + 1)]) hA.handled (chainsOf bs) (by rfl) (by decide) (by rfl) (by decide) (by rfl) (by rfl) (by decide) (by decide) hcl.1 hf.flat ?_ (by intro _; rfl)
  refine nm_local (env := envW L fa cd) B₁.ns V.chains ⟨sol_rowss sol₁ V.rowsC, fun C s' m' v r hx hn hmx hri => ?_, fun D₂ s₂ hD₂ hx₂ => ?_⟩
  · obtain ⟨a, us, rfl, hta, hia⟩ := hri
    refine wpAny_isTrue_Compare1 (cb1 (env := compEnvC _ _ C _) (hGlo _ (ext_trans B₁.ext hx)) PyProof.Rows.Boot.«sum» (nm_local (env := compEnvC _ _ C _) hn hmx (op_sum_tup hA.handled hta hia fun t2 s₃ k₃ => nm_cell (env := compEnvC _ _ C _) ((ext_cell hx (B₁.cell (scell L) hc)).keeps fun _ _ e => k₃.get e) (by rfl) (eq_int (wpAny_truthy_bool ⟨?_, ext_kp k₃⟩)))))
    rfl
  · have B₂ := B₁.ext' hx₂
    refine sorted_rows B₂.ns hD₂ S.bigm S.nem hy2 fun D₃ s₃ hD₃ hn₃ hm₃ => ?_
    have hD₁' : RowsIs s₃.heap (.ref D₁) ys := sol_rows (sol_trans (sol_ext hx₂) (sol_mvdL B₂.ns hm₃)) hD₁
    refine rows_ne hu hD₁' hD₃ (wpAny_truthy_bool ?_)
    rw [if_neg (by decide)]
    refine wpAny_execs_nil (h s₃ (B₂.mvdL hm₃ hn₃) (hm₁.trans (Mvd.trans (hx₂.mono (fun _ h => False.elim h) fun _ h => h) hm₃)))

theorem sum_if2 {fa : Addr} {cd : Value} {s₀ s : Shared} {L l T Ch : Addr} {m cm : Str → Option Value} (hA : OkA 70 A) (G : Glo mg mb s₀.heap) (B : Bd s₀ L (csW L) m cm s) {bs : List Int} (hf : Facts bs) (V : LV bs l T Ch m cm s) {i : Nat} {ti : Tok} (hi : i ≤ sumN bs) (hc : cm "s" = some (.int i ti)) {Q : Flow → Shared → Prop}
    (h : ∀ s', Kp s s' → Q .next s') :
    wpAny (model prog w) A (exec (StmtAt sumB 1) (envW L fa cd)) Q (fun _ _ => False) s := by
  have hgs := hf.ok.good.sum
  have hGlo : ∀ s', Ext s₀ s' → Glo mg mb s'.heap := fun s' x => G.keeps fun _ _ e => ext_get x e
  have S := hf.sums i hi
  obtain ⟨ts, hT, htl, hti⟩ := told_at V.rowsT
  obtain ⟨tt, htot⟩ := V.total
  have item : ∀ {k : Nat} {t : Tok} {s' : Shared} (_ : Kp s s') {Q' : Value → Shared → Prop} {value slice : Expr}, k < sumN bs + 2 → (∀ v us, v = .ref us → (∃ a : List Value, s'.heap.IsList us a.toArray ∧ a.length = (toldAt bs k).length) → Q' v s') →
      (subscripted slice false (.ref T) (.int (k : Int) t) = operate [.ref T, .int (k : Int) t] (getItem (.ref T) (.int (k : Int) t))) → wpAny (model prog w) A (subscriptTail value slice (.ref T) (.int (k : Int) t)) Q' (fun _ _ => False) s' := by
    intro k t s' K Q' value slice hk hq hs
    obtain ⟨v, hv, hr⟩ := hti k hk
    obtain ⟨a, us, rfl, hl, hp⟩ := hr
    exact op_sub_list (K.list hT) (by omega) (x := .ref a) (by rw [Int.toNat_natCast]; exact hv) (by rw [List.size_toArray]; omega) (hq _ a rfl ⟨us, K.list hl, prd_len hp⟩) hs
  have big : ∀ k, k ≤ sumN bs + 1 → (toldAt bs k).length < 64 := fun k hk => by
    by_cases hle : k ≤ sumN bs
    · exact (hf.sums k hle).big
    · have : ((k : Nat) : Int) = bs.sum + 1 := by omega
      have e : toldAt bs k = [] := by show rows bs (k : Int) = []; rw [this]; exact hf.none
      rw [e]; simp
  refine wpAny_If (isTrue_or (wpAny_isTrue_Compare1 (cb1 (hGlo _ B.ext) boot_len (Subscript_ (nm_local (env := envW L fa cd) B.ns V.told (nm_cell (env := envW L fa cd) (B.cell (scell L) hc) (scell L) (item Kp.refl (by omega) ?_ (by with_unfolding_all rfl))))))))
  rintro _ us rfl ⟨a, ha, hal⟩
  refine op_len_list ha (by rw [List.size_toArray]; have := big i (by omega); omega) fun t1 s₁ k₁ => ?_
  have B₁ := B.kp k₁
  refine cb1 (hGlo _ B₁.ext) boot_len (Subscript_ (nm_local (env := envW L fa cd) B₁.ns V.told (wpAny_BinOp (nm_local (env := envW L fa cd) B₁.ns htot (nm_cell (env := envW L fa cd) (B₁.cell (scell L) hc) (scell L) (sub_int ?_))))))
  rw [show bs.sum - (i : Int) = ((sumN bs - i : Nat) : Int) by omega]
  refine item (k₁.trans (Kp.tok (tk := s₁.toks + 1))) (by omega) ?_ (by with_unfolding_all rfl)
  rintro _ us₂ rfl ⟨a₂, ha₂, hal₂⟩
  refine op_len_list ha₂ (by rw [List.size_toArray]; have := big (sumN bs - i) (by omega); omega) fun t2 s₂ k₂ => ?_
  have K₂ : Kp s s₂ := (k₁.trans (Kp.tok (tk := s₁.toks + 1))).trans k₂
  have B₂ := B.kp K₂
  refine ne_int (wpAny_truthy_bool ?_)
  have hsym := S.sym
  rw [if_neg (by rw [List.size_toArray, List.size_toArray, hal, hal₂, hsym]; simp)]
  refine isTrue_or (isTrue_and (wpAny_isTrue_Compare1 (wpAny_BinOp (wpAny_Constant_int (nm_cell (env := envW L fa cd) ((B₂.kp (Kp.tok (tk := s₂.toks + 1))).cell (scell L) hc) (scell L) (mul_int ?_ (mulOk (by omega) (by omega))))))))
  have B₃ := (B₂.kp (Kp.tok (tk := s₂.toks + 1))).kp (Kp.tok (tk := s₂.toks + 1 + 1))
  have K₃ : Kp s _ := (K₂.trans (Kp.tok (tk := s₂.toks + 1))).trans (Kp.tok (tk := s₂.toks + 1 + 1))
  refine nm_local (env := envW L fa cd) B₃.ns htot (lt_int (wpAny_truthy_bool ?_))
  by_cases hlt : 2 * i < sumN bs
  · rw [if_pos (decide_eq_true (by omega))]
    refine isTrue_and (wpAny_isTrue_Compare1 (cb1 (hGlo _ B₃.ext) boot_len (Subscript_ (nm_local (env := envW L fa cd) B₃.ns V.told (nm_cell (env := envW L fa cd) (B₃.cell (scell L) hc) (scell L) (item K₃ (by omega) ?_ (by with_unfolding_all rfl)))))))
    rintro _ us₃ rfl ⟨a₃, ha₃, hal₃⟩
    refine op_len_list ha₃ (by rw [List.size_toArray]; have := big i (by omega); omega) fun t4 s₄ k₄ => ?_
    have B₄ := B₃.kp k₄
    have K₄ := K₃.trans k₄
    refine cb1 (hGlo _ B₄.ext) boot_len (Subscript_ (nm_local (env := envW L fa cd) B₄.ns V.told (wpAny_BinOp (nm_cell (env := envW L fa cd) (B₄.cell (scell L) hc) (scell L) (wpAny_Constant_int (add_int ?_))))))
    rw [show (i : Int) + 1 = ((i + 1 : Nat) : Int) by omega]
    refine item ((K₄.trans (Kp.tok (tk := s₄.toks + 1))).trans (Kp.tok (tk := s₄.toks + 1 + 1))) (by omega) ?_ (by with_unfolding_all rfl)
    rintro _ us₅ rfl ⟨a₅, ha₅, hal₅⟩
    refine op_len_list ha₅ (by rw [List.size_toArray]; have := big (i + 1) (by omega); omega) fun t5 s₅ k₅ => ?_
    refine PyProof.Rows.gt_int (wpAny_truthy_bool ?_)
    have hg := S.grow hlt
    rw [if_neg (by rw [List.size_toArray, List.size_toArray, hal₃, hal₅, decide_eq_true_eq]; omega)]
    rw [if_neg (by decide)]
    refine isTrue_or_nil ?_
    rw [if_neg (by decide)]
    exact wpAny_execs_nil (h _ (((K₄.trans (Kp.tok (tk := s₄.toks + 1))).trans (Kp.tok (tk := s₄.toks + 1 + 1))).trans k₅))
  · rw [if_neg (by rw [decide_eq_true_eq]; omega)]
    rw [if_neg (by decide)]
    refine isTrue_or_nil ?_
    rw [if_neg (by decide)]
    exact wpAny_execs_nil (h _ K₃)
end
end Mine

namespace Mine
set_option maxRecDepth 100000
open Sem (wp)

theorem foldl_rep (v : Value) : ∀ (k : Nat) (acc : Array Value), List.foldl (fun x1 x2 => x1 ++ x2) acc (List.replicate k #[v]) = acc ++ (List.replicate k v).toArray
  | 0, acc => by simp
  | k + 1, acc => by
    rw [List.replicate_succ, List.foldl_cons, foldl_rep v k, List.replicate_succ]
    apply Array.toList_inj.mp
    simp

section
variable {prog : Program} {w : World} {A : Around} {mg mb : Str → Option Value}

theorem op_mul_list {s : Shared} {l : Addr} {v : Value} {x : Int} {u : Tok} {Q : Value → Shared → Prop} {E : Value → Shared → Prop} (hl : s.heap.PlainList l #[v]) (hx0 : 0 ≤ x) (hx1 : x ≤ 1000)
    (h : ∀ D s', s'.heap.IsList D (List.toArray (List.replicate x.toNat v)) → Kp s s' → Q (.ref D) s') : wpAny (model prog w) A (binaryOp .Mult (.ref l) (.int x u)) Q E s := by
  obtain ⟨n, e⟩ := hl
  refine wpAny_binaryOp_repeat_ref (T := "list") (U := "int") (by decide) ⟨_, e, rfl⟩ (fun s' => typeIs_int s' x u) noFill_list_mul F.fills_int_mul F.slot_int_rmul repeat_list F.slot_int_index.lookup
    (call_meets F.slot_int_rmul (typeIs_int s x u) F.entry_int_rmul (F.args_int_rmul_2 _ _) (int___rmul___int_list x u l #[v] n)
      ⟨e, rfl, ⟨_, e, rfl⟩, call_meets F.slot_list_mul ⟨_, e, rfl⟩ F.entry_list_mul (F.args_list_mul_2 _ _)
        (AutoListH.list___mul___list_int_3 l #[v] n x u (by simp [Builtin.List.listFitsIndex]; omega) (by simp; omega) (by simp [Builtin.List.listTooLong, sizeLine]; omega))
        ⟨e, ?_⟩⟩)
  refine h _ _ ?_ Kp.push'
  have e2 : List.foldl (fun x1 x2 => x1 ++ x2) #[] (List.replicate (if (#[v] : Array Value).isEmpty = true then 0 else x.toNat) #[v]) = (List.replicate x.toNat v).toArray := by
    rw [if_neg (by simp), foldl_rep]; simp
  rw [e2]
  exact ⟨_, Heap.get?_push_size _ rfl, rfl, 0, rfl⟩

theorem ints_rep (v : Int) (t : Tok) : ∀ k : Nat, IntsAre (List.replicate k (Value.int v t)) (List.replicate k v)
  | 0 => .nil
  | k + 1 => .cons v t (ints_rep v t k)
theorem ints_app : ∀ {vs ws : List Value} {ns ms : List Int}, IntsAre vs ns → IntsAre ws ms → IntsAre (vs ++ ws) (ns ++ ms)
  | _, _, _, _, .nil, h => h
  | _, _, _, _, .cons n t r, h => .cons n t (ints_app r h)

/-- the loop over the sums -/
theorem sums_stmt {fa : Addr} {cd : Value} {s₀ s : Shared} {L l T Ch : Addr} {m cm : Str → Option Value} (hA : OkA 70 A) (G : Glo mg mb s₀.heap) (B : Bd s₀ L (csW L) m cm s) {bs : List Int} (hf : Facts bs) (V : LV bs l T Ch m cm s) {Q : Flow → Shared → Prop}
    (h : ∀ s' m' cm', Bd s₀ L (csW L) m' cm' s' → LV bs l T Ch m' cm' s' → Q .next s') :
    wpAny (model prog w) A (exec (lb 6) (envW L fa cd)) Q (fun _ _ => False) s := by
  have hgs := hf.ok.good.sum
  have hGlo : ∀ s', Ext s₀ s' → Glo mg mb s'.heap := fun s' x => G.keeps fun _ _ e => ext_get x e
  obtain ⟨tt, htot⟩ := V.total
  refine for_range (a := 0) (b := bs.sum + 1) (n := sumN bs + 1) hA.handled B (fun _ => False) (fun _ h => False.elim h) (by omega) (by omega) (by omega) (by omega) (by omega) (fun _ m' cm' s' => LV bs l T Ch m' cm' s') ?_ ?_ V ?_ ?_ (by intro _; rfl) (by intro _ _; rfl)
  · intro i m' cm' s₁ s₂ X x
    exact X.sol x rfl rfl
  · intro Q' hq
    refine ct1 (hGlo _ B.ext) PyProof.Rows.Boot.«range» (wpAny_BinOp (nm_local (env := envW L fa cd) B.ns htot (wpAny_Constant_int (add_int (op_range1 fun R t u s₁ hR hdR k₁ => ?_)))))
    exact hq _ _ _ _ _ hR (ext_kp (((Kp.tok (tk := s.toks + 1)).trans (Kp.tok (tk := s.toks + 1 + 1))).trans k₁))
  · intro i t s₁ m₁ cm₁ hi B₁ V₁ S₁
    refine st_cell B₁ (scell L) fun s₂ cm₂ e₂ n₂ B₂ x₂ M₂ => ?_
    have V₂ := V₁.sol x₂ (m' := m₁) rfl (n₂ "bounds" (by decide))
    rw [Int.zero_add] at e₂
    refine wpAny_execs_cons (sum_if1 hA G B₂ hf V₂ (by omega) e₂ fun s₃ B₃ M₃ => ?_)
    have V₃ := V₂.sol (sol_mvdL B₂.ns M₃) (m' := m₁) (cm' := cm₂) rfl rfl
    refine wpAny_execs_cons (sum_if2 hA G B₃ hf V₃ (by omega) e₂ fun s₄ K₄ => wpAny_execs_nil ⟨m₁, cm₂, B₃.kp K₄, V₃.sol (sol_kp K₄) rfl rfl, ?_⟩)
    exact ((M₂.mono (fun b h => .inl (.inr ⟨_, by rw [h]; exact scell L⟩)) fun _ h => h).trans (M₃.mono (fun b h => .inl (.inl h)) fun _ h => h)).trans (Mvd.of_kp K₄)
  · intro s₁ m₁ cm₁ B₁ V₁ S₁
    exact h s₁ m₁ cm₁ B₁ V₁

def chB : List Stmt := forBody' (StmtAt lawD.body 7)
def kB : List Stmt := forBody' (StmtAt chB 1)

theorem ends_stmt {fa : Addr} {cd : Value} {s₀ s : Shared} {L l T Ch c : Addr} {m cm : Str → Option Value} (hA : OkA 70 A) (G : Glo mg mb s₀.heap) (B : Bd s₀ L (csW L) m cm s) {bs : List Int} (V : LV bs l T Ch m cm s) {chain : List (List Int)} (hf : ChainFacts bs chain) (hc : cm "chain" = some (.ref c)) (hch : RowsIs s.heap (.ref c) chain) {Q : Flow → Shared → Prop}
    (h : ∀ s', Kp s s' → Q .next s') :
    wpAny (model prog w) A (exec (StmtAt chB 0) (envW L fa cd)) Q (fun _ _ => False) s := by
  have hGlo : ∀ s', Ext s₀ s' → Glo mg mb s'.heap := fun s' x => G.keeps fun _ _ e => ext_get x e
  have hok := hf.ok
  simp only [okChain, Bool.and_eq_true, decide_eq_true_eq] at hok
  obtain ⟨⟨hlen1, hlen2⟩, _⟩ := hok
  obtain ⟨c', us, e, hl, hp⟩ := hch
  cases e
  have hul := prd_len hp
  obtain ⟨tt, htot⟩ := V.total
  have row : ∀ k, k < chain.length → ∃ v, us.toArray[k]? = some v ∧ RowIs s.heap v (chain.getD k []) := fun k hk => by
    obtain ⟨v, hv, hr⟩ := prd_get' hp (List.getElem?_eq_getElem hk)
    refine ⟨v, by simpa using hv, ?_⟩
    rw [List.getD_eq_getElem?_getD, List.getElem?_eq_getElem hk]; exact hr
  obtain ⟨v0, hv0, hr0⟩ := row 0 (by omega)
  obtain ⟨v1, hv1, hr1⟩ := row (chain.length - 1) (by omega)
  obtain ⟨a0, u0, rfl, ht0, hi0⟩ := hr0
  obtain ⟨a1, u1, rfl, ht1, hi1⟩ := hr1
  refine wpAny_If (wpAny_isTrue_Compare1 (wpAny_BinOp (cb1 (hGlo _ B.ext) PyProof.Rows.Boot.«sum» (Subscript_ (nm_cell (env := envW L fa cd) (B.cell (chcell L) hc) (chcell L) (wpAny_Constant_int
    (op_sub_list hl (Int.le_refl 0) (x := .ref a0) hv0 (by rw [List.size_toArray]; omega) (op_sum_tup hA.handled ht0 hi0 fun t1 s₁ k₁ => ?_))))))))
  have K₁ : Kp s s₁ := (Kp.tok (tk := s.toks + 1)).trans k₁
  have B₁ := B.kp K₁
  refine cb1 (hGlo _ B₁.ext) PyProof.Rows.Boot.«sum» (Subscript_ (nm_cell (env := envW L fa cd) (B₁.cell (chcell L) hc) (chcell L) (wpAny_UnaryOp (wpAny_Constant_int (PyProof.Rows.neg_int ?_)))))
  have K₂ : Kp s { s₁ with toks := s₁.toks + 1 + 1 } := (K₁.trans (Kp.tok (tk := s₁.toks + 1))).trans (Kp.tok (tk := s₁.toks + 1 + 1))
  refine op_sub_list_neg (K₂.list hl) (by decide) (by rw [List.size_toArray]; omega) (x := .ref a1) (by rw [List.size_toArray, hul, show (-1 + (chain.length : Int)).toNat = chain.length - 1 by omega]; exact hv1) (by rw [List.size_toArray]; omega) ?_
  refine op_sum_tup hA.handled (K₂.tup ht1) hi1 fun t3 s₃ k₃ => add_int ?_
  have K₃ : Kp s { s₃ with toks := s₃.toks + 1 } := (K₂.trans k₃).trans (Kp.tok (tk := s₃.toks + 1))
  refine nm_local (env := envW L fa cd) (B.kp K₃).ns htot (ne_int (wpAny_truthy_bool ?_))
  rw [if_neg (by rw [hf.ends]; simp)]
  exact wpAny_execs_nil (h _ K₃)
end
end Mine

namespace Mine
set_option maxRecDepth 100000
open Sem (wp)
section
variable {prog : Program} {w : World} {A : Around} {mg mb : Str → Option Value}

theorem step_if {fa : Addr} {cd : Value} {s₀ s : Shared} {L l T Ch c : Addr} {m cm : Str → Option Value} (hA : OkA 70 A) (G : Glo mg mb s₀.heap) (B : Bd s₀ L (csW L) m cm s) {bs : List Int} (hg : GoodBs bs) (V : LV bs l T Ch m cm s) {chain : List (List Int)} (hf : ChainFacts bs chain) (hc : cm "chain" = some (.ref c)) (hch : RowsIs s.heap (.ref c) chain)
    {k : Nat} {tk : Tok} (hk : k < chain.length - 1) (hck : cm "k" = some (.int ((k + 1 : Nat) : Int) tk)) {Q : Flow → Shared → Prop}
    (h : ∀ s', Ext s s' → Q .next s') :
    wpAny (model prog w) A (exec (StmtAt kB 0) (envW L fa cd)) Q (fun _ _ => False) s := by
  have hGlo : ∀ s', Ext s₀ s' → Glo mg mb s'.heap := fun s' x => G.keeps fun _ _ e => ext_get x e
  have hu : A.units + 4 < cLine := by have := hA.units; show A.units + 4 < 9900; omega
  have hok := hf.ok
  simp only [okChain, Bool.and_eq_true, decide_eq_true_eq] at hok
  obtain ⟨⟨hlen1, hlen2⟩, _⟩ := hok
  have hbl := hg.len
  have hbp := hg.pos
  obtain ⟨c', us, e, hl, hp⟩ := hch
  cases e
  have hul := prd_len hp
  obtain ⟨vb, hlb, hib⟩ := V.list
  have hvb : vb.length = bs.length := hib.length
  have row : ∀ i, i < chain.length → ∃ v, us.toArray[i]? = some v ∧ RowIs s.heap v (chain.getD i []) ∧ (chain.getD i []).length = bs.length := fun i hi => by
    obtain ⟨v, hv, hr⟩ := prd_get' hp (List.getElem?_eq_getElem hi)
    have e : chain.getD i [] = chain[i] := by rw [List.getD_eq_getElem?_getD, List.getElem?_eq_getElem hi]; rfl
    exact ⟨v, by simpa using hv, e ▸ hr, by rw [e]; exact hf.len _ (List.getElem_mem hi)⟩
  obtain ⟨v1, hv1, hr1, hl1⟩ := row (k + 1) (by omega)
  obtain ⟨v0, hv0, hr0, hl0⟩ := row k (by omega)
  obtain ⟨a1, u1, rfl, ht1, hi1⟩ := hr1
  obtain ⟨a0, u0, rfl, ht0, hi0⟩ := hr0
  have itm : ∀ {us : List Value} {r : List Int} {j : Nat}, IntsAre us r → j < r.length → ∃ t, us.toArray[j]? = some (.int (r.getD j 0) t) := fun hi hj => by
    obtain ⟨t, e⟩ := hi.get _ _ (List.getElem?_eq_getElem hj)
    refine ⟨t, ?_⟩
    rw [List.getD_eq_getElem?_getD, List.getElem?_eq_getElem hj]
    simpa using e
  have hdl : (diffs bs.length (chain.getD (k + 1) []) (chain.getD k [])).length = bs.length := by simp [diffs]
  refine wpAny_If (wpAny_isTrue_Compare1 (cb1 (hGlo _ B.ext) PyProof.Rows.Boot.«sorted» ?_))
  refine comp_eval (cl := [(Str.ofString "k", L + 1 + 1 + 1 + 1), (Str.ofString "chain", L + 1 + 1 + 1)]) hA.handled bs.length (fun i v => ∃ t, v = .int (0 + (i : Int)) t) (by omega) (IntAt (diffs bs.length (chain.getD (k + 1) []) (chain.getD k []))) (intAt_stable _) (by rfl) (by decide) (by rfl) (by decide) (by rfl) ?_ (by intro _; rfl)
  refine ct1 (hGlo _ B.ext) PyProof.Rows.Boot.«range» (cb1 (hGlo _ B.ext) boot_len (nm_cell (env := envW L fa cd) (B.cell (bcell L) V.bounds) (bcell L) (op_len_list hlb (by rw [List.size_toArray]; omega) fun t1 s₁ k₁ => op_range1 fun R t2 u2 s₂ hR hdR k₂ => ?_)))
  have K₂ := k₁.trans k₂
  have B₂ := B.kp K₂
  rw [List.size_toArray, hvb] at hR
  refine src_range hR (by omega) (by omega) (by omega) (by omega) (by omega) fun I s₃ S₃ => ⟨I, rfl, S₃, ?_, ?_⟩
  · rintro j v C D acc s₄ m₄ hj ⟨t, rfl⟩ hx hD hDl hn hmx
    rw [Int.zero_add] at hmx
    have X₄ : Ext s s₄ := ext_trans (ext_kp K₂) hx
    have hcc : s₄.heap.IsCell (L + 1 + 1 + 1) (some (.ref c)) := ext_cell hx (B₂.cell (chcell L) hc)
    have hkc : s₄.heap.IsCell (L + 1 + 1 + 1 + 1) (some (.int ((k + 1 : Nat) : Int) tk)) := ext_cell hx (B₂.cell (kkcell L) hck)
    obtain ⟨t1, e1⟩ := itm (j := j) hi1 (by omega)
    obtain ⟨t0, e0⟩ := itm (j := j) hi0 (by omega)
    have hlu1 := hi1.length
    have hlu0 := hi0.length
    refine wpAny_BinOp (Subscript_ (Subscript_ (nm_cell (env := compEnvC _ _ C _) hcc (by rfl) (nm_cell (env := compEnvC _ _ C _) hkc (by rfl) (op_sub_list (ext_list X₄ hl) (by omega) (x := .ref a1) (by rw [Int.toNat_natCast]; exact hv1) (by rw [List.size_toArray]; omega)
      (nm_local (env := compEnvC _ _ C _) hn hmx (op_sub_tup (ext_tup X₄ ht1) (by omega) (x := .int ((chain.getD (k + 1) []).getD j 0) t1) (by rw [Int.toNat_natCast]; exact e1) (by rw [List.size_toArray]; omega) ?_)))))))
    refine Subscript_ (Subscript_ (nm_cell (env := compEnvC _ _ C _) hcc (by rfl) (wpAny_BinOp (nm_cell (env := compEnvC _ _ C _) hkc (by rfl) (wpAny_Constant_int (sub_int ?_))))))
    rw [show ((k + 1 : Nat) : Int) - 1 = (k : Int) by omega]
    have K₅ : Kp s₄ { s₄ with toks := s₄.toks + 1 + 1 } := (Kp.tok (tk := s₄.toks + 1)).trans (Kp.tok (tk := s₄.toks + 1 + 1))
    refine op_sub_list (K₅.list (ext_list X₄ hl)) (by omega) (x := .ref a0) (by rw [Int.toNat_natCast]; exact hv0) (by rw [List.size_toArray]; omega) ?_
    refine nm_local (env := compEnvC _ _ C _) (K₅.ns hn) hmx (op_sub_tup (K₅.tup (ext_tup X₄ ht0)) (by omega) (x := .int ((chain.getD k []).getD j 0) t0) (by rw [Int.toNat_natCast]; exact e0) (by rw [List.size_toArray]; omega) (sub_int ?_))
    refine ⟨ext_kp (K₅.trans (Kp.tok (tk := s₄.toks + 1 + 1 + 1))), ⟨_, _, rfl, ?_⟩, by intro h; cases h⟩
    rw [diffs, List.getElem?_map, List.getElem?_range hj]; rfl
  · intro D s₄ hM
    have X₄ : Ext s s₄ := ext_trans (ext_kp K₂) (by obtain ⟨_, _, _, _, _, e⟩ := hM; exact e)
    obtain ⟨ys, h1, h2, h3, h4, h5⟩ := hM
    have hys : IntsAre ys (diffs bs.length (chain.getD (k + 1) []) (chain.getD k [])) := ints_of (by omega) fun i y hy => (h3 i y hy).1
    have hto : (target bs.length).Pairwise (· ≤ ·) := by
      have : bs.length = 1 ∨ bs.length = 2 ∨ bs.length = 3 ∨ bs.length = 4 := by omega
      rcases this with e | e | e | e <;> rw [e] <;> decide
    refine sorted_nums h1.isList hys (by omega) (hf.step k hk) hto fun D₂ ws s₅ hD₂ hws k₅ => ?_
    have X₅ : Ext s s₅ := ext_trans X₄ (ext_kp k₅)
    have B₅ := B.ext' X₅
    refine wpAny_BinOp (wpAny_BinOp (op_list1 (wpAny_Constant_int fun D₃ s₆ hD₃ hdD₃ k₆ => wpAny_BinOp (cb1 (hGlo _ (ext_trans B₅.ext (ext_kp ((Kp.tok (tk := s₅.toks + 1)).trans k₆)))) boot_len ?_))))
    have K₆ : Kp s₅ s₆ := (Kp.tok (tk := s₅.toks + 1)).trans k₆
    have B₆ := B₅.kp K₆
    refine nm_cell (env := envW L fa cd) (B₆.cell (bcell L) V.bounds) (bcell L) (op_len_list (K₆.list (ext_list X₅ hlb)) (by rw [List.size_toArray]; omega) fun t7 s₇ k₇ => wpAny_Constant_int (sub_int ?_))
    rw [List.size_toArray, hvb]
    have K₇ : Kp s₆ { s₇ with toks := s₇.toks + 1 + 1 } := (k₇.trans (Kp.tok (tk := s₇.toks + 1))).trans (Kp.tok (tk := s₇.toks + 1 + 1))
    have hD₃' : ({ s₇ with toks := s₇.toks + 1 + 1 } : Shared).heap.PlainList D₃ #[.int 0 s₅.toks] := let ⟨n, e⟩ := hD₃; ⟨n, K₇.get e⟩
    refine op_mul_list hD₃' (by omega) (by omega) fun D₄ s₈ hD₄ k₈ => ?_
    rw [show ((bs.length : Int) - 1).toNat = bs.length - 1 by omega] at hD₄
    refine op_list1 (wpAny_Constant_int fun D₅ s₉ hD₅ hdD₅ k₉ => ?_)
    have K₉ : Kp s₈ s₉ := (Kp.tok (tk := s₈.toks + 1)).trans k₉
    refine op_add_list (ws := [.int 1 s₈.toks]) (K₉.list hD₄) hD₅.isList (by simp; omega) fun D₆ s₁₀ hD₆ hdD₆ k₁₀ => ?_
    have Kall : Kp s₅ s₁₀ := (((K₆.trans K₇).trans k₈).trans K₉).trans k₁₀
    have htg : IntsAre (List.replicate (bs.length - 1) (Value.int 0 s₅.toks) ++ [.int 1 s₈.toks]) (target bs.length) := ints_app (ints_rep 0 _ _) (.cons 1 _ .nil)
    refine nums_ne hu (Kall.list hD₂) hD₆ hws htg (wpAny_truthy_bool ?_)
    rw [if_neg (by decide)]
    exact wpAny_execs_nil (h _ (ext_trans X₅ (ext_kp Kall)))

theorem steps_stmt {fa : Addr} {cd : Value} {s₀ s : Shared} {L l T Ch c : Addr} {m cm : Str → Option Value} (hA : OkA 70 A) (G : Glo mg mb s₀.heap) (B : Bd s₀ L (csW L) m cm s) {bs : List Int} (hg : GoodBs bs) (V : LV bs l T Ch m cm s) {chain : List (List Int)} (hf : ChainFacts bs chain) (hc : cm "chain" = some (.ref c)) (hch : RowsIs s.heap (.ref c) chain) {Q : Flow → Shared → Prop}
    (h : ∀ s' m' cm', Bd s₀ L (csW L) m' cm' s' → LV bs l T Ch m' cm' s' → Stp L (csW L) (fun _ => False) s s' → Q .next s') :
    wpAny (model prog w) A (exec (StmtAt chB 1) (envW L fa cd)) Q (fun _ _ => False) s := by
  have hGlo : ∀ s', Ext s₀ s' → Glo mg mb s'.heap := fun s' x => G.keeps fun _ _ e => ext_get x e
  have hok := hf.ok
  simp only [okChain, Bool.and_eq_true, decide_eq_true_eq] at hok
  obtain ⟨⟨hlen1, hlen2⟩, _⟩ := hok
  refine for_range (a := 1) (b := chain.length) (n := chain.length - 1) hA.handled B (fun _ => False) (fun _ h => False.elim h) (by omega) (by omega) (by omega) (by omega) (by omega) (fun _ m' cm' s' => LV bs l T Ch m' cm' s' ∧ cm' "chain" = some (.ref c) ∧ RowsIs s'.heap (.ref c) chain) ?_ ?_ ⟨V, hc, hch⟩ ?_ ?_ (by intro _; rfl) (by intro _ _; rfl)
  · rintro i m' cm' s₁ s₂ ⟨X, hX, hY⟩ x
    exact ⟨X.sol x rfl rfl, hX, sol_rows x hY⟩
  · intro Q' hq
    obtain ⟨c', us, e, hl, hp⟩ := hch
    cases e
    have hul := prd_len hp
    refine ct2 (hGlo _ B.ext) PyProof.Rows.Boot.«range» (wpAny_Constant_int (cb1 (hGlo _ (B.kp (Kp.tok (tk := s.toks + 1))).ext) boot_len (nm_cell (env := envW L fa cd) ((B.kp (Kp.tok (tk := s.toks + 1))).cell (chcell L) hc) (chcell L) (op_len_list hl (by rw [List.size_toArray]; omega) fun t1 s₁ k₁ => op_range2 fun R u2 s₂ hR hdR k₂ => ?_))))
    rw [List.size_toArray, hul] at hR
    exact hq _ _ _ _ _ hR (ext_kp (((Kp.tok (tk := s.toks + 1)).trans k₁).trans k₂))
  · rintro i t s₁ m₁ cm₁ hi B₁ ⟨V₁, hc₁, hch₁⟩ S₁
    refine st_cell B₁ (kkcell L) fun s₂ cm₂ e₂ n₂ B₂ x₂ M₂ => ?_
    have V₂ := V₁.sol x₂ (m' := m₁) rfl (n₂ "bounds" (by decide))
    have hc₂ : cm₂ "chain" = some (.ref c) := (n₂ "chain" (by decide)).trans hc₁
    rw [show 1 + (i : Int) = ((i + 1 : Nat) : Int) by omega] at e₂
    refine wpAny_execs_cons (step_if hA G B₂ hg V₂ hf hc₂ (sol_rows x₂ hch₁) hi e₂ fun s₃ X₃ => wpAny_execs_nil ⟨m₁, cm₂, B₂.ext' X₃, ⟨V₂.sol (sol_ext X₃) rfl rfl, hc₂, ext_rows X₃ (sol_rows x₂ hch₁)⟩, ?_⟩)
    exact (M₂.mono (fun b h => .inl (.inr ⟨_, by rw [h]; exact kkcell L⟩)) fun _ h => h).trans (Stp.of_ext X₃)
  · rintro s₁ m₁ cm₁ B₁ ⟨V₁, _, _⟩ S₁
    exact h s₁ m₁ cm₁ B₁ V₁ S₁

theorem list_fun {h : Heap} {a : Addr} {xs ys : List Value} (x : h.IsList a xs.toArray) (y : h.IsList a ys.toArray) : xs = ys := by
  obtain ⟨o, e, _, n, d⟩ := x
  obtain ⟨o', e', _, n', d'⟩ := y
  rw [e] at e'; cases e'
  rw [d] at d'
  injection d' with h1 h2
  simpa using h1

theorem chains_stmt {fa : Addr} {cd : Value} {s₀ s : Shared} {L l T Ch : Addr} {m cm : Str → Option Value} (hA : OkA 70 A) (G : Glo mg mb s₀.heap) (B : Bd s₀ L (csW L) m cm s) {bs : List Int} (hf : Facts bs) (V : LV bs l T Ch m cm s) {Q : Flow → Shared → Prop}
    (h : ∀ s' m' cm', Bd s₀ L (csW L) m' cm' s' → LV bs l T Ch m' cm' s' → Q .next s') :
    wpAny (model prog w) A (exec (lb 7) (envW L fa cd)) Q (fun _ _ => False) s := by
  have hGlo : ∀ s', Ext s₀ s' → Glo mg mb s'.heap := fun s' x => G.keeps fun _ _ e => ext_get x e
  obtain ⟨C', vs, e, hC, hcp⟩ := V.rowsC
  cases e
  refine for_list hA.handled B (fun _ => False) (fun _ h => False.elim h) hC (fun h => h) (fun _ m' cm' s' => LV bs l T Ch m' cm' s' ∧ s'.heap.IsList Ch vs.toArray) ?_ ?_ ⟨V, hC⟩ ?_ ?_ (by intro _; rfl) (by intro _ _; rfl)
  · rintro i m' cm' s₁ s₂ ⟨X, hX⟩ x
    exact ⟨X.sol x rfl rfl, sol_list x hX⟩
  · intro Q' hq
    exact nm_local (env := envW L fa cd) B.ns V.chains (hq _ .refl)
  · rintro i v s₁ m₁ cm₁ hi hv B₁ ⟨V₁, hl₁⟩ S₁
    have hp₁ : Paired (RowsIs s₁.heap) vs (chainsOf bs) := by
      obtain ⟨_, vs', e, h1, h2⟩ := V₁.rowsC
      cases e
      rw [list_fun hl₁ h1]; exact h2
    obtain ⟨chain, hch, hr⟩ := prd_get hp₁ hv
    obtain ⟨a, us, rfl, ha, hap⟩ := hr
    have hcf := hf.chains chain (List.mem_of_getElem? hch)
    refine st_cell B₁ (chcell L) fun s₂ cm₂ e₂ n₂ B₂ x₂ M₂ => ?_
    have V₂ := V₁.sol x₂ (m' := m₁) rfl (n₂ "bounds" (by decide))
    have hr₂ : RowsIs s₂.heap (.ref a) chain := sol_rows x₂ ⟨a, us, rfl, ha, hap⟩
    refine wpAny_execs_cons (ends_stmt hA G B₂ V₂ hcf e₂ hr₂ fun s₃ K₃ => ?_)
    have B₃ := B₂.kp K₃
    have V₃ := V₂.sol (sol_kp K₃) (m' := m₁) (cm' := cm₂) rfl rfl
    refine wpAny_execs_cons (steps_stmt hA G B₃ hf.ok.good V₃ hcf e₂ (sol_rows (sol_kp K₃) hr₂) fun s₄ m₄ cm₄ B₄ V₄ S₄ => wpAny_execs_nil ⟨m₄, cm₄, B₄, ⟨V₄, ?_⟩, ?_⟩)
    · obtain ⟨o, e, hcl, n, hd⟩ := (sol_list (sol_trans x₂ (sol_kp K₃)) hl₁ : s₃.heap.IsList Ch vs.toArray)
      exact ⟨o, S₄.heap Ch o (fun h => h.elim (B₃.not_own e (.inl ⟨_, _, hd⟩)) fun h => h) e, hcl, n, hd⟩
    · exact ((M₂.mono (fun b h => .inl (.inr ⟨_, by rw [h]; exact chcell L⟩)) fun _ h => h).trans (Mvd.of_kp K₃)).trans S₄
  · rintro s₁ m₁ cm₁ B₁ ⟨V₁, _⟩ S₁
    exact h s₁ m₁ cm₁ B₁ V₁

theorem last_stmt {fa : Addr} {cd : Value} {s₀ s : Shared} {L l T Ch : Addr} {m cm : Str → Option Value} (hA : OkA 70 A) (G : Glo mg mb s₀.heap) (B : Bd s₀ L (csW L) m cm s) {bs : List Int} (hf : Facts bs) (V : LV bs l T Ch m cm s) {Q : Flow → Shared → Prop}
    (h : ∀ s', Ext s₀ s' → Q (.ret (.bool true)) s') :
    wpAny (model prog w) A (exec (lb 8) (envW L fa cd)) Q (fun _ _ => False) s := by
  have hgs := hf.ok.good.sum
  have hGlo : ∀ s', Ext s₀ s' → Glo mg mb s'.heap := fun s' x => G.keeps fun _ _ e => ext_get x e
  obtain ⟨C', vs, e, hC, hcp⟩ := V.rowsC
  cases e
  have hvl := prd_len hcp
  have hcl := (hf.ok.chain bs.length (Nat.le_refl _)).1
  rw [List.take_length] at hcl
  obtain ⟨ts, hT, htl, hti⟩ := told_at V.rowsT
  obtain ⟨tt, htot⟩ := V.total
  obtain ⟨v, hv, hr⟩ := hti (sumN bs / 2) (by omega)
  obtain ⟨a, us, rfl, ha, hap⟩ := hr
  have hal := prd_len hap
  have hbig := (hf.sums (sumN bs / 2) (by omega)).big
  refine wpAny_Return_some (wpAny_Compare1 (cb1 (hGlo _ B.ext) boot_len (nm_local (env := envW L fa cd) B.ns V.chains (op_len_list hC (by rw [List.size_toArray]; omega) fun t1 s₁ k₁ => ?_))))
  have B₁ := B.kp k₁
  refine cb1 (hGlo _ B₁.ext) boot_len (Subscript_ (nm_local (env := envW L fa cd) B₁.ns V.told (wpAny_BinOp (nm_local (env := envW L fa cd) B₁.ns htot (wpAny_Constant_int (floordiv_int (by decide) ?_))))))
  rw [show bs.sum.fdiv 2 = ((sumN bs / 2 : Nat) : Int) by rw [← hgs.1, Int.fdiv_eq_ediv_of_nonneg _ (by decide)]; omega]
  have K₂ : Kp s { s₁ with toks := s₁.toks + 1 + 1 } := (k₁.trans (Kp.tok (tk := s₁.toks + 1))).trans (Kp.tok (tk := s₁.toks + 1 + 1))
  refine op_sub_list (K₂.list hT) (by omega) (x := .ref a) (by rw [Int.toNat_natCast]; exact hv) (by rw [List.size_toArray]; omega) ?_
  refine op_len_list (K₂.list ha) (by rw [List.size_toArray]; omega) fun t3 s₃ k₃ => eq_int ?_
  rw [show (((vs.toArray.size : Nat) : Int) == ((us.toArray.size : Nat) : Int)) = true by
    rw [List.size_toArray, List.size_toArray, hvl, hal, hf.count]; simp]
  exact h s₃ (B.kp (K₂.trans k₃)).ext
end
end Mine

namespace Mine
set_option maxRecDepth 100000
open Sem (wp)
section
variable {prog : Program} {w : World} {A : Around} {mg mb : Str → Option Value}

theorem law_body {fa : Addr} {cd : Value} {s₀ s : Shared} {L l : Addr} {m cm : Str → Option Value} (hA : OkA 70 A) (hfr : A.frames = some [envW L fa cd]) (G : Glo mg mb s₀.heap) (B : Bd s₀ L (csW L) m cm s) {vs : List Value} {ns : List Int} (hl : s₀.heap.IsList l vs.toArray) (hi : IntsAre vs ns) (hz : ns.length ≤ 100) (hm : m "script" = some (.ref l)) {Q : Flow → Shared → Prop}
    (h : ∀ s', Ext s₀ s' → Q (.ret (.bool true)) s') :
    wpAny (model prog w) A (execs lawD.body (envW L fa cd)) Q (fun _ _ => False) s := by
  have hGlo : ∀ s', Ext s₀ s' → Glo mg mb s'.heap := fun s' x => G.keeps fun _ _ e => ext_get x e
  obtain ⟨af, cf, Xf⟩ := G.fn fivi (by simp [defs])
  obtain ⟨an, cn, Xn⟩ := G.fn nums (by simp [defs])
  obtain ⟨ab, cb, Xb⟩ := G.fn bnds (by simp [defs])
  obtain ⟨ac, cc, Xc⟩ := G.fn chns (by simp [defs])
  obtain ⟨ar, cr, Xr⟩ := G.fn rfsd (by simp [defs])
  -- found
  refine wpAny_execs_cons (st_let s₀ L (csW L) (cd2 (d := nums) (hGlo _ B.ext) (Xn.keeps fun _ _ e => ext_get B.ext e) (nm_local (env := envW L fa cd) B.ns hm (wpAny_Constant_int ⟨fun e => e, ?_⟩))))
  have B₁ := B.kp (Kp.tok (tk := s.toks + 1))
  refine numbers_call (k := 60) (hA.mono (by omega)) (hGlo _ B₁.ext) (Xn.keeps fun _ _ e => ext_get B₁.ext e) (ext_list B₁.ext hl) hi hz fun D ws ms s₂ hD hms hml x₂ => ?_
  refine ⟨m, cm, B₁.ext' x₂, fun s₃ m₃ e₃ n₃ B₃ x₃ M₃ => ?_⟩
  have hD₃ := sol_list x₃ hD
  -- bounds
  refine wpAny_execs_cons (st_cellv s₀ L (csW L) (bcell L) (cd1 (d := bnds) (hGlo _ B₃.ext) (Xb.keeps fun _ _ e => ext_get B₃.ext e) (nm_local (env := envW L fa cd) B₃.ns e₃ ⟨fun e => e, ?_⟩)))
  refine bounds_call (k := 60) (hA.mono (by omega)) (hGlo _ B₃.ext) (Xb.keeps fun _ _ e => ext_get B₃.ext e) hD₃ hms hml fun lb vb bs s₄ hb hbi hg x₄ => ?_
  refine ⟨m₃, cm, B₃.ext' x₄, fun s₅ cm₅ e₅ n₅ B₅ x₅ M₅ => ?_⟩
  have hb₅ := sol_list x₅ hb
  have hf := facts_of hg
  have hvb : vb.length = bs.length := hbi.length
  have hbl := hg.len
  -- total
  refine wpAny_execs_cons (st_let s₀ L (csW L) (cb1 (hGlo _ B₅.ext) PyProof.Rows.Boot.«sum» (nm_cell (env := envW L fa cd) (B₅.cell (bcell L) e₅) (bcell L) (op_sum_list hA.handled hb₅ hbi fun tt s₆ k₆ => ?_))))
  refine ⟨m₃, cm₅, B₅.kp k₆, fun s₇ m₇ e₇ n₇ B₇ x₇ M₇ => ?_⟩
  have hb₇ := sol_list x₇ (k₆.list hb₅)
  -- told
  refine wpAny_execs_cons (told_stmt hA G Xf B₇ hf e₅ hb₇ hbi e₇ fun T s₈ m₈ B₈ e₈ n₈ hT x₈ => ?_)
  have hb₈ := sol_list x₈ hb₇
  have ht₈ : m₈ "total" = some (.int bs.sum tt) := (n₈ "total" (by decide)).trans e₇
  -- the refusal
  refine wpAny_execs_cons (refuse_stmt hA hfr G Xr Xf B₈ hf e₅ hb₈ hbi ht₈ e₈ hT fun s₉ B₉ x₉ => ?_)
  have hb₉ := sol_list x₉ hb₈
  -- chains
  refine wpAny_execs_cons (st_let s₀ L (csW L) (cd1 (d := chns) (hGlo _ B₉.ext) (Xc.keeps fun _ _ e => ext_get B₉.ext e) (nm_cell (env := envW L fa cd) (B₉.cell (bcell L) e₅) (bcell L) ⟨fun e => e, ?_⟩)))
  refine chains_call (k := 60) (hA.mono (by omega)) (hGlo _ B₉.ext) (Xc.keeps fun _ _ e => ext_get B₉.ext e) hb₉ hbi hf.ok fun Ch s₁₀ hCh x₁₀ => ?_
  refine ⟨m₈, cm₅, B₉.ext' x₁₀, fun s₁₁ m₁₁ e₁₁ n₁₁ B₁₁ x₁₁ M₁₁ => ?_⟩
  have V : LV bs lb T Ch m₁₁ cm₅ s₁₁ :=
    ⟨⟨tt, (n₁₁ "total" (by decide)).trans ht₈⟩, (n₁₁ "told" (by decide)).trans e₈, e₁₁, e₅, ⟨vb, sol_list x₁₁ (ext_list x₁₀ hb₉), hbi⟩, sol_rowss (sol_trans (sol_trans x₉ (sol_ext x₁₀)) x₁₁) hT, sol_rowss x₁₁ hCh⟩
  refine wpAny_execs_cons (sums_stmt hA G B₁₁ hf V fun s₁₂ m₁₂ cm₁₂ B₁₂ V₁₂ => ?_)
  refine wpAny_execs_cons (chains_stmt hA G B₁₂ hf V₁₂ fun s₁₃ m₁₃ cm₁₃ B₁₃ V₁₃ => ?_)
  exact wpAny_execs_cons (last_stmt hA G B₁₃ hf V₁₃ fun s₁₄ x₁₄ => h s₁₄ x₁₄)

theorem law_run {fa : Addr} {cd : Value} {s : Shared} (hA : OkA 71 A) (hfr : A.frames = some []) (G : Glo mg mb s.heap) (X : FnAt mg s.heap lawD fa cd) {l : Addr} {vs : List Value} {ns : List Int} (hl : s.heap.IsList l vs.toArray) (hi : IntsAre vs ns) (hz : ns.length ≤ 100) {R : Result → Shared → Prop}
    (h : ∀ s', Ext s s' → R (.ok (.ret (.bool true))) s') : codeAny (model prog w) A (.call (.ref fa) ⟨[.ref l], []⟩) R s := by
  obtain ⟨o, pm, doc, ho, hdat⟩ := X.obj
  refine call_cells_ret (binds := [(Str.ofString "script", .ref l)]) hA.room ho hdat G.lim X.code (by rfl) ?_ (fun h₁ tk F C => ?_)
  · intro x hx
    obtain rfl := List.mem_singleton.mp hx
    exact .inl (by rfl)
  have hd : s.heap.get? s.heap.objs.size = none := Heap.get?_none_of_le (Nat.le_refl _)
  have B : Bd s s.heap.objs.size (csW s.heap.objs.size) (bindL (envOfC lawD.name lawD.scope s.heap.objs.size fa cd).kindOf [(Str.ofString "script", .ref l)] fun _ => none) (bindC (envOfC lawD.name lawD.scope s.heap.objs.size fa cd).kindOf [(Str.ofString "script", .ref l)] fun _ => none) { s with heap := h₁, toks := tk } :=
    ⟨⟨fun b o _ e => F.keep b o e, fun _ _ _ e => e, Nat.le_refl _, fun e => e, rfl⟩, F.ns, C, hd, fun n c hc => Heap.get?_none_of_le (Nat.le_of_lt (C.above n c (mem_of_lookup hc)))⟩
  exact law_body (hA.deeper _) (Around.frames_deeper hfr) G B hl hi hz (by rfl) fun s' x => h s' x
end
end Mine

namespace Mine

theorem glo_of {p : Program} {loose : List Str} {mean : ExcName → Option Value} {mg mb : Str → Option Value} {h : Heap} (T : Top p loose mean mg mb h) (hr : recsOf p = defs)
    (hf : ∀ x ∈ (["len", "sum", "range", "tuple", "list", "max", "min", "sorted", "ValueError"] : List Str), x ∉ startupNames ∧ x ∉ loose ∧ x ∉ (recsOf p).map (·.name) ∧ x ∉ (litsOf p).map (·.1) ∧ x ∉ (clssOf p loose).map (·.name)) : Glo mg mb h := by
  refine ⟨T.g, T.b, T.nolimit, T.builtins, fun x hx => ?_, fun d hd => ?_⟩
  · obtain ⟨a1, a2, a3, a4, a5⟩ := hf x hx
    exact T.free x a1 a2 a3 a4 a5
  · obtain ⟨a, o, pm, code, doc, h1, h2, h3, h4⟩ := T.fn d (by rw [hr]; exact hd)
    exact ⟨a, code, h1, ⟨o, pm, doc, h2, h3⟩, h4⟩

theorem ends_well {c : ClaimW} {cl : Str → Option Addr} {mean : ExcName → Option Value} {args : List WData} {s s' : Shared} (x : Ext s s') (hg : s.gens = #[]) (h1 : ∀ cls, c.raises args cls = false) (h2 : c.post args (.bool true) args = true) : GoodWG c cl mean args s (.ok (.ret (.bool true))) s' := by
  refine ⟨.inl ⟨_, .bool true, [], rfl, h1, .bool true, h2, fun _ => ⟨List.nodup_nil, fun a ha => nomatch ha⟩⟩, .of_keep fun b o e => ext_get x e, x.os, x.bare ?_⟩
  intro y hy
  rw [hg] at hy
  simp at hy
end Mine

set_option maxRecDepth 100000 in
set_option maxHeartbeats 8000000 in
theorem PySem.Challenge.cw_ae6011_01_holds : PySem.Challenge.rw_ae6011_01.Holds := by
  (w_on; o_law; k_head; (case hw => w_witness2); w_strict (
    k_fill
    intro w s₀ s₁ mg mb G Y fa o pm cd doc dV kV ho hd hcd hD hmg hg args vals as hpre hlay hrd hwl hlo
    refine Ground.open G ?_
    intro T B D TE TW
    wrow_args hpre hlay hrd hwl hlo
    refine enter_call ?_
    rename_i ns _ _ _ _ _ _ _ l vs _ hl _ _ _ hi _ hcond _
    have GG := Mine.glo_of T (by kernel_rfl) (by decide +kernel)
    obtain ⟨fa', cd', X⟩ := GG.fn Mine.lawD (by simp [Mine.defs])
    have e : fa' = fa := by
      have h1 := X.name
      have h2 := hmg.symm.trans h1
      injection h2 with h2
      injection h2 with h2
      exact h2.symm
    subst e
    refine Mine.law_run (A := callerA) ⟨by rfl, by decide, by decide⟩ (by rfl) GG X hl hi (by omega) fun s' x => Mine.ends_well x hg (fun _ => by rfl) (by wrow_post)))

