import PyProof.Rows.All
import Wide.All
import OpenK.AllK
import Wide.FinOn
import Lean
import PySem.Challenge.RW_tp0041_01
set_option Elab.async false
set_option maxRecDepth 100000
set_option linter.all false
set_option maxHeartbeats 200000
namespace Mine
open PySem PySem.W

/-- what is asked, under a name of its own while the context is taken apart -/
theorem hideG {G₀ : Prop} (h : ∀ G : Prop, G = G₀ → G) : G₀ := h G₀ rfl

/-! a small evaluator of the semantics' trees over a partly known heap -/
inductive ET where
  | nil
  | node (v : Option Obj) (l r : ET)

noncomputable def ET.get (t : ET) : Nat → Option Obj :=
  @ET.rec (fun _ => Nat → Option Obj) (fun _ => none)
    (fun v _ _ gl gr i => @Bool.rec (fun _ => Option Obj) (@Bool.rec (fun _ => Option Obj) (gr (Nat.sub (Nat.div i 2) 1)) (gl (Nat.div i 2)) (Nat.beq (Nat.mod i 2) 1)) v (Nat.beq i 0)) t
noncomputable def ET.set (t : ET) : Nat → Obj → ET :=
  @ET.rec (fun _ => Nat → Obj → ET) (fun i o => @Bool.rec (fun _ => ET) .nil (.node (some o) .nil .nil) (Nat.beq i 0))
    (fun v l r sl sr i o => @Bool.rec (fun _ => ET) (@Bool.rec (fun _ => ET) (.node v l (sr (Nat.sub (Nat.div i 2) 1) o)) (.node v (sl (Nat.div i 2) o) r) (Nat.beq (Nat.mod i 2) 1)) (.node (some o) l r) (Nat.beq i 0)) t

theorem nbeq (a b : Nat) : Nat.beq a b = decide (a = b) := BT.beq_eq a b
theorem ET.get_node (v : Option Obj) (l r : ET) (i : Nat) : (ET.node v l r).get i = if i = 0 then v else if i % 2 = 1 then l.get (i / 2) else r.get (i / 2 - 1) := by
  show @Bool.rec (fun _ => Option Obj) (@Bool.rec (fun _ => Option Obj) (r.get (i / 2 - 1)) (l.get (i / 2)) (Nat.beq (i % 2) 1)) v (Nat.beq i 0) = _
  rw [nbeq, nbeq]
  by_cases h : i = 0
  · simp [h]
  · by_cases q : i % 2 = 1 <;> simp [h, q]
theorem ET.set_nil (i : Nat) (o : Obj) : ET.nil.set i o = if i = 0 then .node (some o) .nil .nil else .nil := by
  show @Bool.rec (fun _ => ET) .nil (.node (some o) .nil .nil) (Nat.beq i 0) = _
  rw [nbeq]
  by_cases h : i = 0 <;> simp [h]
theorem ET.set_node (v : Option Obj) (l r : ET) (i : Nat) (o : Obj) : (ET.node v l r).set i o = if i = 0 then .node (some o) l r else if i % 2 = 1 then .node v (l.set (i / 2) o) r else .node v l (r.set (i / 2 - 1) o) := by
  show @Bool.rec (fun _ => ET) (@Bool.rec (fun _ => ET) (.node v l (r.set (i / 2 - 1) o)) (.node v (l.set (i / 2) o) r) (Nat.beq (i % 2) 1)) (.node (some o) l r) (Nat.beq i 0) = _
  rw [nbeq, nbeq]
  by_cases h : i = 0
  · simp [h]
  · by_cases q : i % 2 = 1 <;> simp [h, q]
theorem half_eq {a i : Nat} (h : i % 2 = a % 2) (e : i / 2 = a / 2) : i = a :=
  (Nat.div_add_mod i 2).symm.trans ((by rw [e, h] : 2 * (i / 2) + i % 2 = 2 * (a / 2) + a % 2).trans (Nat.div_add_mod a 2))
theorem half_pos {i : Nat} (hi : ¬ i = 0) (pi : ¬ i % 2 = 1) : i / 2 - 1 + 1 = i / 2 := by omega
theorem half_ev {a i : Nat} (hi : ¬ i = 0) (ha : ¬ a = 0) (pi : ¬ i % 2 = 1) (pa : ¬ a % 2 = 1) (e : i / 2 - 1 = a / 2 - 1) : i = a :=
  half_eq (((Nat.mod_two_eq_zero_or_one i).resolve_right pi).trans ((Nat.mod_two_eq_zero_or_one a).resolve_right pa).symm) ((half_pos hi pi).symm.trans ((congrArg (· + 1) e).trans (half_pos ha pa)))
theorem ET.get_set : ∀ (t : ET) (a : Nat) (o : Obj) (i : Nat) (o' : Obj), (t.set a o).get i = some o' → (i = a ∧ o' = o) ∨ (i ≠ a ∧ t.get i = some o')
  | .nil, a, o, i, o', h => by
    rw [ET.set_nil] at h
    by_cases ha : a = 0
    · subst ha
      rw [if_pos rfl, ET.get_node] at h
      by_cases hi : i = 0
      · rw [if_pos hi] at h; exact .inl ⟨hi, (Option.some.inj h).symm⟩
      · rw [if_neg hi] at h
        split at h <;> cases h
    · rw [if_neg ha] at h; cases h
  | .node v l r, a, o, i, o', h => by
    rw [ET.set_node] at h
    rw [ET.get_node v l r i]
    by_cases ha : a = 0
    · subst ha
      rw [if_pos rfl, ET.get_node] at h
      by_cases hi : i = 0
      · rw [if_pos hi] at h; exact .inl ⟨hi, (Option.some.inj h).symm⟩
      · rw [if_neg hi] at h ⊢; exact .inr ⟨hi, h⟩
    · rw [if_neg ha] at h
      by_cases pa : a % 2 = 1
      · rw [if_pos pa, ET.get_node] at h
        by_cases hi : i = 0
        · rw [if_pos hi] at h ⊢; exact .inr ⟨fun e => ha (e.symm.trans hi), h⟩
        · rw [if_neg hi] at h ⊢
          by_cases pi : i % 2 = 1
          · rw [if_pos pi] at h ⊢
            rcases ET.get_set l _ _ _ _ h with ⟨e, q⟩ | ⟨e, q⟩
            · exact .inl ⟨half_eq (pi.trans pa.symm) e, q⟩
            · exact .inr ⟨fun q => e (congrArg (· / 2) q), q⟩
          · rw [if_neg pi] at h ⊢; exact .inr ⟨fun q => pi (q ▸ pa), h⟩
      · rw [if_neg pa, ET.get_node] at h
        by_cases hi : i = 0
        · rw [if_pos hi] at h ⊢; exact .inr ⟨fun e => ha (e.symm.trans hi), h⟩
        · rw [if_neg hi] at h ⊢
          by_cases pi : i % 2 = 1
          · rw [if_pos pi] at h ⊢; exact .inr ⟨fun q => pa (q ▸ pi), h⟩
          · rw [if_neg pi] at h ⊢
            rcases ET.get_set r _ _ _ _ h with ⟨e, q⟩ | ⟨e, q⟩
            · exact .inl ⟨half_ev hi ha pi pa e, q⟩
            · exact .inr ⟨fun q => e (congrArg (· / 2 - 1) q), q⟩

/-- places that are there but not known -/
noncomputable def ET.hole (t : ET) : Nat → ET :=
  @ET.rec (fun _ => Nat → ET) (fun i => @Bool.rec (fun _ => ET) .nil (.node none .nil .nil) (Nat.beq i 0))
    (fun v l r sl sr i => @Bool.rec (fun _ => ET) (@Bool.rec (fun _ => ET) (.node v l (sr (Nat.sub (Nat.div i 2) 1))) (.node v (sl (Nat.div i 2)) r) (Nat.beq (Nat.mod i 2) 1)) (.node v l r) (Nat.beq i 0)) t
theorem ET.hole_nil (i : Nat) : ET.nil.hole i = if i = 0 then .node none .nil .nil else .nil := by
  show @Bool.rec (fun _ => ET) .nil (.node none .nil .nil) (Nat.beq i 0) = _
  rw [nbeq]
  by_cases h : i = 0 <;> simp [h]
theorem ET.hole_node (v : Option Obj) (l r : ET) (i : Nat) : (ET.node v l r).hole i = if i = 0 then .node v l r else if i % 2 = 1 then .node v (l.hole (i / 2)) r else .node v l (r.hole (i / 2 - 1)) := by
  show @Bool.rec (fun _ => ET) (@Bool.rec (fun _ => ET) (.node v l (r.hole (i / 2 - 1))) (.node v (l.hole (i / 2)) r) (Nat.beq (i % 2) 1)) (.node v l r) (Nat.beq i 0) = _
  rw [nbeq, nbeq]
  by_cases h : i = 0
  · simp [h]
  · by_cases q : i % 2 = 1 <;> simp [h, q]
theorem ET.get_hole : ∀ (t : ET) (a i : Nat) (o : Obj), (t.hole a).get i = some o → t.get i = some o
  | .nil, a, i, o, h => by
    rw [ET.hole_nil] at h
    split at h
    · rw [ET.get_node] at h; repeat (split at h; first | cases h | skip)
      all_goals cases h
    · cases h
  | .node v l r, a, i, o, h => by
    rw [ET.hole_node] at h
    rw [ET.get_node v l r i]
    by_cases ha : a = 0
    · rw [if_pos ha, ET.get_node] at h; exact h
    · rw [if_neg ha] at h
      by_cases pa : a % 2 = 1
      · rw [if_pos pa, ET.get_node] at h
        by_cases hi : i = 0
        · rw [if_pos hi] at h ⊢; exact h
        · rw [if_neg hi] at h ⊢
          by_cases pi : i % 2 = 1
          · rw [if_pos pi] at h ⊢; exact ET.get_hole l _ _ _ h
          · rw [if_neg pi] at h ⊢; exact h
      · rw [if_neg pa, ET.get_node] at h
        by_cases hi : i = 0
        · rw [if_pos hi] at h ⊢; exact h
        · rw [if_neg hi] at h ⊢
          by_cases pi : i % 2 = 1
          · rw [if_pos pi] at h ⊢; exact h
          · rw [if_neg pi] at h ⊢; exact ET.get_hole r _ _ _ h
theorem ET.get_holes : ∀ (l : List Nat) (t : ET) (i : Nat) (o : Obj), (l.foldl ET.hole t).get i = some o → t.get i = some o
  | [], _, _, _, h => h
  | a :: l, t, i, o, h => ET.get_hole t a i o (ET.get_holes l _ i o h)

structure KS where
  T : ET
  n : Nat
  toks : Nat

structure Rep (s : Shared) (k : KS) : Prop where
  size : s.heap.objs.size = k.n
  toks : s.toks = k.toks
  own : ∀ i o, k.T.get i = some o → s.heap.get? i = some o

/-- what a run leaves as it was -/
structure Same (s s' : Shared) : Prop where
  gens : s'.gens = s.gens
  drawn : s'.drawn = s.drawn
  os : s'.os = s.os
  life : s'.heap.life = s.heap.life
theorem Same.refl (s : Shared) : Same s s := ⟨rfl, rfl, rfl, rfl⟩
theorem Same.trans {a b c : Shared} (x : Same a b) (y : Same b c) : Same a c := ⟨y.gens.trans x.gens, y.drawn.trans x.drawn, y.os.trans x.os, y.life.trans x.life⟩

noncomputable def freed (o : Obj) : Bool := o.isFreed
/-- and what stands at the places that the evaluator does not know -/
structure Held (k k' : KS) (s s' : Shared) : Prop where
  same : Same s s'
  le : k.n ≤ k'.n
  hole : ∀ b, b < k.n → k.T.get b = none → k'.T.get b = none ∧ s'.heap.get? b = s.heap.get? b
theorem Held.refl (k : KS) (s : Shared) : Held k k s s := ⟨.refl s, Nat.le_refl _, fun _ _ h => ⟨h, rfl⟩⟩
theorem Held.trans {a b c : KS} {x y z : Shared} (p : Held a b x y) (q : Held b c y z) : Held a c x z :=
  ⟨p.same.trans q.same, Nat.le_trans p.le q.le, fun i hi h => let ⟨h1, h2⟩ := p.hole i hi h; let ⟨h3, h4⟩ := q.hole i (Nat.lt_of_lt_of_le hi p.le) h1; ⟨h3, h4.trans h2⟩⟩
theorem ET.set_none {t : ET} {a i : Nat} {o : Obj} (h : t.get i = none) (hn : i ≠ a) : (t.set a o).get i = none := by
  cases e : (t.set a o).get i with
  | none => rfl
  | some o' => rcases ET.get_set _ _ _ _ _ e with ⟨q, _⟩ | ⟨_, q⟩
               · exact absurd q hn
               · rw [h] at q; cases q
theorem Held.set {s : Shared} {k : KS} {a : Addr} {f : Obj → Obj} {o : Obj} (h : k.T.get a = some o) : Held k ⟨k.T.set a (f o), k.n, k.toks⟩ s { s with heap := s.heap.update a f } :=
  ⟨⟨rfl, rfl, rfl, rfl⟩, Nat.le_refl _, fun b _ hb => by
    have hn : b ≠ a := by rintro rfl; rw [h] at hb; cases hb
    exact ⟨ET.set_none hb hn, Heap.get?_update_other _ f (Ne.symm hn)⟩⟩
theorem Held.push {s : Shared} {k : KS} {o : Obj} (hs : s.heap.objs.size = k.n) : Held k ⟨k.T.set k.n o, k.n + 1, k.toks⟩ s { s with heap := s.heap.push o } :=
  ⟨⟨rfl, rfl, rfl, rfl⟩, Nat.le_succ _, fun b hl hb => ⟨ET.set_none hb (Nat.ne_of_lt hl), Heap.get?_push_ne _ _ _ (by rw [hs]; exact Nat.ne_of_lt hl)⟩⟩
theorem Held.fresh {s : Shared} {k : KS} : Held k ⟨k.T, k.n, k.toks + 1⟩ s { s with toks := s.toks + 1 } := ⟨⟨rfl, rfl, rfl, rfl⟩, Nat.le_refl _, fun _ _ hb => ⟨hb, rfl⟩⟩

noncomputable abbrev RC := Ctx → Pos → KS → Option (Result × KS)
noncomputable def exe (S : Setting) (rc : RC) (Γ : Ctx) {α : Type} (t : Sem α) : Pos → KS → Option (Except Value α × Pos × KS) :=
  @Sem.rec α (fun _ => Pos → KS → Option (Except Value α × Pos × KS))
    (fun a p k => some (.ok a, p, k))                     -- pure
    (fun e p k => some (.error e, p, k))                  -- raise
    (fun _ _ _ => none)                                   -- unsupported
    (fun _ _ _ => none)                                   -- finish
    (fun _ _ ih => ih ())                                 -- rule
    (fun q _ ih _ => ih () q)                             -- at
    (fun a _ _ ih p k => @Option.rec Obj (fun _ => Option (Except Value α × Pos × KS)) none (fun o => ih o p k) (k.T.get a))     -- load
    (fun a _ f _ ih p k => @Option.rec Obj (fun _ => Option (Except Value α × Pos × KS)) none (fun o => @Bool.rec (fun _ => Option (Except Value α × Pos × KS)) (ih () p ⟨k.T.set a (f o), k.n, k.toks⟩) none (freed (f o))) (k.T.get a))   -- update
    (fun o _ ih p k => @Bool.rec (fun _ => Option (Except Value α × Pos × KS)) (ih k.n p ⟨k.T.set k.n o, Nat.succ k.n, k.toks⟩) none (freed o))                  -- alloc
    (fun a _ ih p k => @Option.rec Obj (fun _ => Option (Except Value α × Pos × KS)) (@Bool.rec (fun _ => Option (Except Value α × Pos × KS)) none (ih none p k) (Nat.ble k.n a)) (fun o => ih (some o) p k) (k.T.get a))    -- loadIfAlive
    (fun _ _ ih => ih ())                                 -- point
    (fun _ _ _ _ _ => none)                               -- register
    (fun _ ih p k => ih k.toks p ⟨k.T, k.n, Nat.succ k.toks⟩)         -- fresh
    (fun _ ih => ih S)                                    -- ask
    (fun _ _ _ _ _ _ => none)                             -- choose
    (fun _ _ _ _ _ _ => none)                             -- os
    (fun c h _ _ _ ih p k => @Option.rec (Result × KS) (fun _ => Option (Except Value α × Pos × KS)) none (fun x => ih x.1 p x.2) (rc (Γ.enter c h p) p k))   -- call
    (fun own _ ih => ih (@Bool.rec (fun _ => Option Value) Γ.handled Γ.own own))       -- handled
    (fun _ _ _ _ _ => none)                               -- newGen
    (fun _ _ _ _ _ => none)                               -- genState
    (fun _ _ _ _ _ _ _ => none)                           -- resume
    (fun _ _ _ _ _ _ _ => none)                           -- yield
    (fun _ ih p k => ih ((Γ.code, p) :: Γ.below) p k)     -- stack
    (fun _ _ _ _ _ => none)                               -- fork
    (fun _ ih => ih 0)                                    -- thread
    (fun _ _ _ _ _ _ _ _ => none)                         -- await
    t

/-- one code, with so much fuel -/
noncomputable def exc (den : Code → Sem Fin) (S : Setting) (n : Nat) : RC :=
  @Nat.rec (fun _ => RC) (fun _ _ _ => none)
    (fun _ rc Γ p k => @Option.rec (Except Value Fin × Pos × KS) (fun _ => Option (Result × KS)) none
      (fun x => @Except.rec Value Fin (fun _ => Option (Result × KS)) (fun e => some (.error e, x.2.2))
        (fun f => @PySem.Fin.rec (fun _ => Option (Result × KS)) (fun fl => some (.ok fl, x.2.2)) (fun c => @Bool.rec (fun _ => Option (Result × KS)) none (rc (Γ.goto c) x.2.1 x.2.2) c.quiet) f) x.1)
      (exe S rc Γ (den Γ.code) p k)) n

noncomputable def Good (M : Model) (rc : RC) : Prop := ∀ Γ p k r k' s, rc Γ p k = some (r, k') → Rep s k → wpCode M Γ (fun r' s' => r' = r ∧ Rep s' k' ∧ Held k k' s s') p s

theorem Rep.set {s : Shared} {k : KS} (R : Rep s k) {a : Addr} {f : Obj → Obj} {o : Obj} (h : k.T.get a = some o) (hf : (f o).isFreed = false) :
    Rep { s with heap := s.heap.update a f } ⟨k.T.set a (f o), k.n, k.toks⟩ :=
  ⟨(Heap.size_after_update ..).trans R.size, R.toks, fun i o' e => by
    rcases ET.get_set _ _ _ _ _ e with ⟨rfl, rfl⟩ | ⟨hi, e⟩
    · exact Heap.get?_update_self f (R.own _ _ h) hf
    · exact (Heap.get?_update_other _ f (Ne.symm hi)).trans (R.own _ _ e)⟩
theorem Rep.push {s : Shared} {k : KS} (R : Rep s k) {o : Obj} (hf : o.isFreed = false) :
    Rep { s with heap := s.heap.push o } ⟨k.T.set k.n o, k.n + 1, k.toks⟩ :=
  ⟨(Heap.size_push ..).trans (congrArg (· + 1) R.size), R.toks, fun i o' e => by
    rcases ET.get_set _ _ _ _ _ e with ⟨rfl, rfl⟩ | ⟨hi, e⟩
    · have := Heap.get?_push_size s.heap hf
      rw [R.size] at this; exact this
    · exact Heap.get?_push_of_some _ (R.own _ _ e)⟩
theorem Rep.fresh {s : Shared} {k : KS} (R : Rep s k) : Rep { s with toks := s.toks + 1 } ⟨k.T, k.n, k.toks + 1⟩ := ⟨R.size, congrArg (· + 1) R.toks, R.own⟩
theorem Rep.none {s : Shared} {k : KS} (R : Rep s k) {a : Addr} (h : Nat.ble k.n a = true) : s.heap.get? a = Option.none := by
  cases e : s.heap.get? a with
  | none => rfl
  | some o =>
    have := Heap.lt_size e
    rw [R.size] at this
    exact absurd (Nat.le_of_ble_eq_true h) (Nat.not_le.mpr this)

theorem exe_sound {α : Type} {M : Model} {rc : RC} (G : Good M rc) (Γ : Ctx) (t : Sem α) : ∀ (p : Pos) (k : KS) (r : Except Value α) (p' : Pos) (k' : KS) (s : Shared),
    exe ⟨M.prog, M.w.params⟩ rc Γ t p k = some (r, p', k') → Rep s k →
    Sem.wp M Γ t (fun a q s' => r = .ok a ∧ q = p' ∧ Rep s' k' ∧ Held k k' s s') (fun e q s' => r = .error e ∧ q = p' ∧ Rep s' k' ∧ Held k k' s s') p s := by
  induction t with
  | pure a => intro p k r p' k' s h R; cases (show some (Except.ok a, p, k) = some (r, p', k') from h); exact ⟨rfl, rfl, R, .refl k s⟩
  | raise e => intro p k r p' k' s h R; cases (show some (Except.error e, p, k) = some (r, p', k') from h); exact ⟨rfl, rfl, R, .refl k s⟩
  | unsupported | finish | register | choose | os | newGen | genState | resume | «yield» | fork | await => intro p k r p' k' s h R; exact absurd h (by intro h; cases h)
  | rule tag q ih => intro p k r p' k' s h R; exact ih () p k r p' k' s h R
  | point l q ih => intro p k r p' k' s h R; exact ih () p k r p' k' s h R
  | «at» q0 q ih => intro p k r p' k' s h R; exact ih () q0 k r p' k' s h R
  | ask q ih => intro p k r p' k' s h R; exact ih _ p k r p' k' s h R
  | thread q ih => intro p k r p' k' s h R; exact ih 0 p k r p' k' s h R
  | stack q ih => intro p k r p' k' s h R; exact ih _ p k r p' k' s h R
  | handled own q ih =>
    intro p k r p' k' s h R
    refine ih _ p k r p' k' s ?_ R
    cases own <;> exact h
  | fresh q ih =>
    intro p k r p' k' s h R
    obtain ⟨kT, kn, kt⟩ := k
    obtain rfl : s.toks = kt := R.toks
    have := ih s.toks p _ r p' k' { s with toks := s.toks + 1 } h R.fresh
    exact Sem.wp_mono M Γ _ (fun _ _ _ ⟨a, b, c, d⟩ => ⟨a, b, c, Held.fresh.trans d⟩) (fun _ _ _ ⟨a, b, c, d⟩ => ⟨a, b, c, Held.fresh.trans d⟩) _ _ this
  | load a part q ih =>
    intro p k r p' k' s h R
    change @Option.rec Obj (fun _ => Option (Except Value α × Pos × KS)) none (fun o => exe ⟨M.prog, M.w.params⟩ rc Γ (q o) p k) (k.T.get a) = some (r, p', k') at h
    cases e : k.T.get a with
    | none => rw [e] at h; cases h
    | some o => rw [e] at h; exact ⟨o, R.own _ _ e, ih o p k r p' k' s h R⟩
  | update a part f q ih =>
    intro p k r p' k' s h R
    change @Option.rec Obj (fun _ => Option (Except Value α × Pos × KS)) none (fun o => @Bool.rec (fun _ => Option (Except Value α × Pos × KS)) (exe ⟨M.prog, M.w.params⟩ rc Γ (q ()) p ⟨k.T.set a (f o), k.n, k.toks⟩) none (freed (f o))) (k.T.get a) = some (r, p', k') at h
    cases e : k.T.get a with
    | none => rw [e] at h; cases h
    | some o =>
      rw [e] at h
      cases hf : freed (f o) with
      | true => simp only [hf] at h; cases h
      | false =>
        simp only [hf] at h
        refine ⟨by rw [R.own _ _ e]; rfl, ?_⟩
        exact Sem.wp_mono M Γ _ (fun _ _ _ ⟨a, b, c, d⟩ => ⟨a, b, c, (Held.set e).trans d⟩) (fun _ _ _ ⟨a, b, c, d⟩ => ⟨a, b, c, (Held.set e).trans d⟩) _ _ (ih () p _ r p' k' _ h (R.set e hf))
  | alloc o q ih =>
    intro p k r p' k' s h R
    change @Bool.rec (fun _ => Option (Except Value α × Pos × KS)) (exe ⟨M.prog, M.w.params⟩ rc Γ (q k.n) p ⟨k.T.set k.n o, Nat.succ k.n, k.toks⟩) none (freed o) = some (r, p', k') at h
    cases hf : freed o with
    | true => rw [hf] at h; cases h
    | false =>
      rw [hf] at h
      have := ih k.n p _ r p' k' _ h (R.push hf)
      rw [← R.size] at this
      exact Sem.wp_mono M Γ _ (fun _ _ _ ⟨a, b, c, d⟩ => ⟨a, b, c, (Held.push R.size).trans (by rw [R.size] at d; exact d)⟩) (fun _ _ _ ⟨a, b, c, d⟩ => ⟨a, b, c, (Held.push R.size).trans (by rw [R.size] at d; exact d)⟩) _ _ this
  | loadIfAlive a q ih =>
    intro p k r p' k' s h R
    change @Option.rec Obj (fun _ => Option (Except Value α × Pos × KS)) (@Bool.rec (fun _ => Option (Except Value α × Pos × KS)) none (exe ⟨M.prog, M.w.params⟩ rc Γ (q none) p k) (Nat.ble k.n a)) (fun o => exe ⟨M.prog, M.w.params⟩ rc Γ (q (some o)) p k) (k.T.get a) = some (r, p', k') at h
    show Sem.wp M Γ (q (s.heap.get? a)) _ _ p s
    cases e : k.T.get a with
    | none =>
      rw [e] at h
      cases hb : Nat.ble k.n a with
      | false => simp only [hb] at h; cases h
      | true => simp only [hb] at h; rw [R.none hb]; exact ih _ p k r p' k' s h R
    | some o => rw [e] at h; rw [R.own _ _ e]; exact ih _ p k r p' k' s h R
  | call c hd g l q ih =>
    intro p k r p' k' s h R
    change @Option.rec (Result × KS) (fun _ => Option (Except Value α × Pos × KS)) none (fun x => exe ⟨M.prog, M.w.params⟩ rc Γ (q x.1) p x.2) (rc (Γ.enter c hd p) p k) = some (r, p', k') at h
    cases e : rc (Γ.enter c hd p) p k with
    | none => rw [e] at h; cases h
    | some x =>
      obtain ⟨r₁, k₁⟩ := x
      rw [e] at h
      refine wpCode_mono (fun r' s' ⟨a, R', S'⟩ => ?_) (G _ _ _ _ _ s e R)
      subst a
      exact Sem.wp_mono M Γ _ (fun _ _ _ ⟨a, b, c, d⟩ => ⟨a, b, c, S'.trans d⟩) (fun _ _ _ ⟨a, b, c, d⟩ => ⟨a, b, c, S'.trans d⟩) _ _ (ih _ p _ r p' k' s' h R')

theorem good_exc (M : Model) : ∀ n, Good M (exc M.den ⟨M.prog, M.w.params⟩ n)
  | 0 => fun _ _ _ _ _ _ h => by cases h
  | n + 1 => by
    intro Γ p k r k' s h R
    rw [wpCode_iff_wp]
    change @Option.rec (Except Value Fin × Pos × KS) (fun _ => Option (Result × KS)) none
      (fun x => @Except.rec Value Fin (fun _ => Option (Result × KS)) (fun e => some (.error e, x.2.2))
        (fun f => @PySem.Fin.rec (fun _ => Option (Result × KS)) (fun fl => some (.ok fl, x.2.2)) (fun c => @Bool.rec (fun _ => Option (Result × KS)) none (exc M.den ⟨M.prog, M.w.params⟩ n (Γ.goto c) x.2.1 x.2.2) c.quiet) f) x.1)
      (exe ⟨M.prog, M.w.params⟩ (exc M.den ⟨M.prog, M.w.params⟩ n) Γ (M.den Γ.code) p k) = some (r, k') at h
    cases e : exe ⟨M.prog, M.w.params⟩ (exc M.den ⟨M.prog, M.w.params⟩ n) Γ (M.den Γ.code) p k with
    | none => rw [e] at h; cases h
    | some x =>
      obtain ⟨v, q, k₁⟩ := x
      rw [e] at h
      refine Sem.wp_mono M Γ _ (fun f q' s' ⟨a, b, R', S'⟩ => ?_) (fun x q' s' ⟨a, b, R', S'⟩ => ?_) p s (exe_sound (good_exc M n) Γ _ p k v q k₁ s e R)
      · subst a b
        cases f with
        | done fl => cases (show some ((Except.ok fl : Result), k₁) = some (r, k') from h); exact ⟨rfl, R', S'⟩
        | again c =>
          change @Bool.rec (fun _ => Option (Result × KS)) none (exc M.den ⟨M.prog, M.w.params⟩ n (Γ.goto c) q' k₁) c.quiet = some (r, k') at h
          cases hq : c.quiet with
          | false => rw [hq] at h; cases h
          | true => rw [hq] at h; exact ⟨hq, wpCode_mono (fun _ _ ⟨a, b, c⟩ => ⟨a, b, S'.trans c⟩) (good_exc M n _ _ _ _ _ _ h R')⟩
      · subst a b
        cases (show some ((Except.error x : Result), k₁) = some (r, k') from h)
        exact ⟨rfl, R', S'⟩
end Mine
namespace Mine
open PySem PySem.W

section
variable {prog : Program} {w : World} {A : Around} {E : Value → Shared → Prop} {s : Shared}

noncomputable def Carr : List (Int × Str) → List (Int × Value) → Prop
  | [], [] => True
  | d :: ds, k :: ks => d.1 = k.1 ∧ (∃ t, k.2 = .str d.2 t) ∧ Carr ds ks
  | _, _ => False
theorem Carr.len : ∀ {ds : List (Int × Str)} {ks : List (Int × Value)}, Carr ds ks → ks.length = ds.length
  | [], [], _ => rfl
  | _ :: _, _ :: _, h => congrArg (· + 1) h.2.2.len
  | [], _ :: _, h => h.elim
  | _ :: _, [], h => h.elim
theorem Carr.keys : ∀ {ds : List (Int × Str)} {ks : List (Int × Value)}, Carr ds ks → ks.map (·.1) = ds.map (·.1)
  | [], [], _ => rfl
  | _ :: _, _ :: _, h => by simp only [List.map_cons, h.1, h.2.2.keys]
  | [], _ :: _, h => h.elim
  | _ :: _, [], h => h.elim
theorem Carr.append : ∀ {ds : List (Int × Str)} {ks : List (Int × Value)} {ds' : List (Int × Str)} {ks' : List (Int × Value)}, Carr ds ks → Carr ds' ks' → Carr (ds ++ ds') (ks ++ ks')
  | [], [], _, _, _, h => h
  | _ :: _, _ :: _, _, _, h, h' => ⟨h.1, h.2.1, h.2.2.append h'⟩
  | [], _ :: _, _, _, h, _ => h.elim
  | _ :: _, [], _, _, h, _ => h.elim

structure PairOk (prog : Program) (w : World) (p : Sem Value × Sem Value) (d : Int × Str) : Prop where
  key : ∀ (A : Around) (Q : Value → Shared → Prop) (E : Value → Shared → Prop) (s : Shared), Q (.int d.1 s.toks) { s with toks := s.toks + 1 } → wpAny (model prog w) A p.1 Q E s
  val : ∀ (A : Around) (Q : Value → Shared → Prop) (E : Value → Shared → Prop) (s : Shared), Q (.str d.2 s.toks) { s with toks := s.toks + 1 } → wpAny (model prog w) A p.2 Q E s

inductive PairsOk (prog : Program) (w : World) : List (Sem Value × Sem Value) → List (Int × Str) → Prop
  | nil : PairsOk prog w [] []
  | cons {p d ps ds} : PairOk prog w p d → PairsOk prog w ps ds → PairsOk prog w (p :: ps) (d :: ds)
theorem PairsOk.len {ps ds} (h : PairsOk prog w ps ds) : ps.length = ds.length := by
  induction h with
  | nil => rfl
  | cons _ _ ih => simp [ih]
theorem PairsOk.snoc {ps ds p d} (h : PairsOk prog w ps ds) (hp : PairOk prog w p d) : PairsOk prog w (ps ++ [p]) (ds ++ [d]) := by
  induction h with
  | nil => exact .cons hp .nil
  | cons a _ ih => exact .cons a ih

theorem isInt_self (i : Int) (t : Tok) : (intKind prog w).is i (.int i t) = true := by
  show Value.isInt i (.int i t) = true
  simp [Value.isInt]

theorem evalPairs_ok {ps ds} (h : PairsOk prog w ps ds) : ∀ (Q : List (Value × Value) → Shared → Prop) (s : Shared),
    (∀ vs kvs, Carries (intKind prog w) vs kvs → Carr ds kvs → Q vs { s with toks := s.toks + 2 * ds.length }) → wpAny (model prog w) A (evalPairs ps) Q E s := by
  induction h with
  | nil => intro Q s hQ; exact evalPairs_nil (hQ [] [] trivial trivial)
  | @cons p d ps ds hp _ ih =>
    intro Q s hQ
    obtain ⟨k, v⟩ := p
    refine evalPairs_cons (hp.key _ _ _ _ (hp.val _ _ _ _ (ih _ _ fun vs kvs hc hd => ?_)))
    have := hQ ((.int d.1 s.toks, .str d.2 (s.toks + 1)) :: vs) ((d.1, .str d.2 (s.toks + 1)) :: kvs) ⟨isInt_self .., rfl, hc⟩ ⟨rfl, ⟨_, rfl⟩, hd⟩
    have e : s.toks + 1 + 1 + 2 * ds.length = s.toks + 2 * (d :: ds).length := by simp only [List.length_cons]; lia
    rw [← e] at this
    exact this

theorem subLoop {d : Addr} {ps ds} (h : PairsOk prog w ps ds) : ∀ (acc : List (Int × Value)) (Q : PUnit → Shared → Prop) (s : Shared), s.heap.DictOf (intKind prog w) d acc → acc.length + ds.length ≤ sizeLine →
    (∀ h' kvs, Carr ds kvs → h'.DictOf (intKind prog w) d (merged acc kvs) → Heap.SameBut d s.heap h' → Q PUnit.unit { s with heap := h', toks := s.toks + 3 * ds.length }) →
    wpAny (model prog w) A (forIn ps PUnit.unit fun (x : Sem Value × Sem Value) (_ : PUnit) => (do
        let kv ← x.1
        let vv ← holding [kv] x.2
        holding [kv, vv] (dictSet d kv vv)
        pure (ForInStep.yield PUnit.unit) : Sem (ForInStep PUnit))) Q E s := by
  induction h with
  | nil => intro acc Q s hm _ hQ; rw [List.forIn_nil]; exact wpAny_pure (hQ s.heap [] trivial hm (Heap.SameBut.refl _ _))
  | @cons p dd ps ds hp _ ih =>
    intro acc Q s hm hsz hQ
    rw [List.length_cons] at hsz
    rw [List.forIn_cons]
    refine wpAny_bind (wpAny_bind (hp.key _ _ _ _ (wpAny_bind (wpAny_holding (hp.val _ _ _ _ (wpAny_bind (wpAny_holding
      (wpAny_dictSet_pairs (knd := intKind prog w) (kvs := acc) (hsz := by lia) (isInt_self dd.1 _) hm fun h' hm' hs' => wpAny_pure ?_))))))))
    refine ih (stored acc dd.1 (.str dd.2 (s.toks + 1))) Q _ hm' (by have := stored_length_le acc dd.1 (Value.str dd.2 (s.toks + 1)); lia) fun h'' kvs hc hm'' hs'' => ?_
    have := hQ h'' ((dd.1, .str dd.2 (s.toks + 1)) :: kvs) ⟨rfl, ⟨_, rfl⟩, hc⟩ hm'' (hs'.trans hs'')
    have e : s.toks + 1 + 1 + 1 + 3 * ds.length = s.toks + 3 * (dd :: ds).length := by simp only [List.length_cons]; lia
    rw [← e] at this
    exact this

theorem subDict_ok {ps ds} (h : PairsOk prog w ps ds) (hsz : ds.length ≤ sizeLine) (Q : Addr → Shared → Prop) (s : Shared)
    (hQ : ∀ h' kvs, Carr ds kvs → h'.DictOf (intKind prog w) s.heap.objs.size (merged [] kvs) → Heap.SameBut s.heap.objs.size (s.heap.push { cls := .type "dict", data := .dict #[] }) h' →
      Q s.heap.objs.size { s with heap := h', toks := s.toks + 3 * ds.length }) :
    wpAny (model prog w) A (subDict ps) Q E s := by
  by_cases hl : ps.length ≤ 15
  · refine wpAny_subDict (knd := intKind prog w) hl (evalPairs_ok h _ _ fun vs kvs hc hd => ⟨kvs, hc, Heap.DictOf.new _, fun h' hm' hs' => ?_⟩)
    have := hQ h' kvs hd hm' hs'
    have e1 : vs.length = ds.length := by rw [← hc.length, hd.len]
    have e : s.toks + 2 * ds.length + vs.length = s.toks + 3 * ds.length := by lia
    rw [← e] at this
    exact this
  · unfold subDict
    refine wpAny_bind (wpAny_alloc (wpAny_bind (wpAny_holding ?_)))
    rw [if_neg hl]
    refine wpAny_bind (wpAny_rule (wpAny_bind (subLoop (d := s.heap.objs.size) h [] _ _ (Heap.DictOf.new _) (by simpa using hsz) fun h' kvs hc hm' hs' => wpAny_pure (wpAny_pure (hQ h' kvs hc hm' hs')))))

theorem dictPut_new {d : Addr} {kvs : List (Int × Value)} {k : Int} {key v : Value} {Q : Unit → Shared → Prop} (hkey : (intKind prog w).is k key = true) (hm : s.heap.DictOf (intKind prog w) d kvs) (hnew : k ∉ kvs.map (·.1))
    (hQ : ∀ h', h'.DictOf (intKind prog w) d (kvs ++ [(k, v)]) → Heap.SameBut d s.heap h' → Q () { s with heap := h' })
    (hsz : kvs.length ≤ sizeLine) :
    wpAny (model prog w) A (dictPut d ((intKind prog w).hash k) key v) Q E s := by
  obtain ⟨o, es, ep, ho, hc, hd, hk, hp, hn⟩ := hm
  have hes : es.size ≤ sizeLine := by have e1 := hp.length; have e2 : es.toList.length = es.size := by simp
                                      lia
  unfold dictPut
  refine wpAny_bind (wpAny_dictFind_of hkey ho hd hk ?_)
  have hidx : (es.findIdx? fun e => (intKind prog w).is k e.key) = kvs.findIdx? fun kv => decide (kv.1 = k) := by
    rw [← hp.findIdx k]; obtain ⟨l⟩ := es; simp
  have hi : (es.findIdx? fun e => (intKind prog w).is k e.key) = none := by
    rw [hidx, List.findIdx?_eq_none_iff]
    intro x hx
    exact decide_eq_false fun e => hnew (List.mem_map.mpr ⟨x, hx, e⟩)
  rw [hi]
  refine wpAny_updateDictKeys (hz := hes) ho hd (hQ _ ⟨_, _, ep + 1, Heap.get?_update_self _ ho (Obj.isFreed_of_dict (Obj.data_mapDictKeys hd _)), hc.mapDictKeys _, Obj.data_mapDictKeys hd _, hk.push hkey _, ?_, ?_⟩ (Heap.SameBut.update ..))
  · have := hp.append hkey ((intKind prog w).hash k) v
    obtain ⟨l⟩ := es
    simpa using this
  · rw [List.map_append, List.nodup_append]
    refine ⟨hn, by simp, ?_⟩
    intro a ha b hb
    simp only [List.map_cons, List.map_nil, List.mem_singleton] at hb
    subst hb
    exact fun e => hnew (e ▸ ha)

theorem merge_ok {d a : Addr} {kvs more : List (Int × Value)} {Q : Unit → Shared → Prop} (hda : d ≠ a) (haS : (a == sysModules) = false)
    (hd : s.heap.DictOf (intKind prog w) d kvs) (ha : s.heap.DictOf (intKind prog w) a more) (hn : ((kvs ++ more).map (·.1)).Nodup)
    (hQ : ∀ h', h'.DictOf (intKind prog w) d (kvs ++ more) → Heap.SameBut d s.heap h' → Q () { s with heap := h' })
    (hsz : kvs.length + more.length ≤ sizeLine) (hne : kvs ≠ []) :
    wpAny (model prog w) A (mergeMapping d (.ref a) false) Q E s := by
  obtain ⟨od, esd, epd, hod, hcd, hdd, hkd, hpd, hnd⟩ := id hd
  obtain ⟨oa, esa, epa, hoa, hca, hda', hka, hpa, hna⟩ := id ha
  have hlen : more.length = esa.size := by rw [← hpa.length]; simp
  unfold mergeMapping
  refine wpAny_bind (wpAny_isInstance ha.typeIs isSubtype_dict_dict ?_)
  simp only [if_true]
  refine wpAny_bind (wpAny_specialOf ha.typeIs F.slot_dict_iter.lookup (wpAny_bind (wpAny_pure ?_)))
  simp only [beq_self_eq_true]
  rw [if_neg (by rw [haS]; exact Bool.false_ne_true)]
  refine wpAny_bind (wpAny_dictEntries hod hdd ?_)
  have tail : wpAny (model prog w) A (do
      let size := (← dictEntries a).size
      let epoch ← dictEpoch a
      for i in List.range size do
        let some e := (← dictEntries a)[i]? | unsupported "dict.changed-during-merge"
        holding [e.key, e.val] do
          dictPut d e.hash e.key e.val
        if (← dictEpoch a) != epoch then unsupported "dict.changed-during-merge") Q E s := by
    refine wpAny_bind (wpAny_dictEntries hoa hda' (wpAny_bind (wpAny_dictEpoch hoa hda' ?_)))
    refine wpAny_bind (wpAny_forIn_list _
      (fun rest _ s' => ∃ h' i, s' = { s with heap := h' } ∧ rest = List.range' i (esa.size - i) ∧ i ≤ esa.size ∧ h'.DictOf (intKind prog w) d (kvs ++ more.take i) ∧ h'.get? a = some oa ∧ Heap.SameBut d s.heap h')
      _ ?_ ?_ _ _ ⟨s.heap, 0, rfl, by simp [List.range_eq_range'], Nat.zero_le _, by simpa using hd, hoa, Heap.SameBut.refl _ _⟩)
    · rintro x rest b s' ⟨h', i, rfl, hr, hi, hd', hoa', hs'⟩
      have hlt : i < esa.size := by
        rcases Nat.lt_or_ge i esa.size with h | h
        · exact h
        · rw [Nat.sub_eq_zero_of_le h] at hr; simp at hr
      obtain ⟨rfl, hrest⟩ : x = i ∧ rest = List.range' (i + 1) (esa.size - (i + 1)) := by
        have e : esa.size - i = (esa.size - (i + 1)) + 1 := by lia
        rw [e, List.range'_succ] at hr
        injection hr with h1 h2
        exact ⟨h1, h2⟩
      refine wpAny_bind (wpAny_dictEntries hoa' hda' ?_)
      rw [Array.getElem?_eq_getElem hlt]
      obtain ⟨kv, hkv⟩ : ∃ kv, more[x]? = some kv := ⟨more[x]'(by rw [hlen]; exact hlt), List.getElem?_eq_getElem _⟩
      obtain ⟨k, v⟩ := kv
      obtain ⟨hkey, hval⟩ := hpa.get? (e := esa[x]) (by simp [hlt]) hkv
      obtain ⟨k', hkey', hhash⟩ := hka esa[x] (Array.getElem_mem hlt)
      obtain rfl : k' = k := (intKind prog w).inj _ _ _ hkey' hkey
      show wpAny _ _ (holding [esa[x].key, esa[x].val] (dictPut d esa[x].hash esa[x].key esa[x].val) >>= _) _ _ _
      rw [hhash, hval]
      have htk : more.take (x + 1) = more.take x ++ [(k', v)] := by rw [List.take_add_one, hkv]; rfl
      have hnew : k' ∉ (kvs ++ more.take x).map (·.1) := by
        have h1 : (kvs ++ more) = (kvs ++ more.take x) ++ ((k', v) :: more.drop (x + 1)) := by
          have : more = more.take x ++ ((k', v) :: more.drop (x + 1)) := by
            conv => lhs; rw [← List.take_append_drop (x + 1) more, htk]
            simp
          rw [List.append_assoc, ← this]
        rw [h1, List.map_append, List.map_cons, List.nodup_append] at hn
        intro hmem
        exact hn.2.2 k' hmem k' List.mem_cons_self rfl
      refine wpAny_bind (wpAny_holding (dictPut_new (s := { s with heap := h' }) hkey' hd' hnew (fun h'' hd'' hs'' => ?_) (by rw [List.length_append, List.length_take]; lia)))
      have hoa'' : h''.get? a = some oa := (hs''.2 a (Ne.symm hda)).trans hoa'
      refine wpAny_bind (wpAny_dictEpoch hoa'' hda' ?_)
      rw [if_neg (by simp)]
      refine wpAny_pure ⟨h'', x + 1, rfl, hrest, hlt, ?_, hoa'', hs'.trans hs''⟩
      rw [htk, ← List.append_assoc]; exact hd''
    · rintro b s' ⟨h', i, rfl, hr, hi, hd', hoa', hs'⟩
      have : i = esa.size := by
        rcases Nat.lt_or_ge i esa.size with h | h
        · have e : esa.size - i = (esa.size - (i + 1)) + 1 := by lia
          rw [e, List.range'_succ] at hr; simp at hr
        · lia
      subst this
      refine wpAny_pure (hQ h' ?_ hs')
      rw [List.take_of_length_le (by lia)] at hd'; exact hd'
  by_cases hemp : esd.isEmpty = true
  · refine absurd ?_ hne
    have e1 := hpd.length
    rw [Array.isEmpty_iff.mp hemp] at e1
    exact List.eq_nil_of_length_eq_zero e1.symm
  · simp only [hemp]
    exact tail

noncomputable def flushD (run : List (Sem Value × Sem Value)) (main : Option Addr) : Sem (Option Addr) :=
  if run.isEmpty = true then pure main
  else match main with
    | none => do let d ← subDict run; pure (some d)
    | some d => do
      let sub ← holding [Value.ref d] (subDict run)
      (holding [Value.ref d, Value.ref sub] (mergeMapping d (Value.ref sub) false)).onRaise fun x => do
        let _ ← holding [Value.ref d, x] (runValue (Code.builtin "proto.let_go" { }))
        pure ()
      pure (some d)

/-- so much of the dict stands -/
inductive Built (prog : Program) (w : World) (s₀ : Shared) : List (Int × Str) → Option Addr → Nat → Shared → Prop
  | none : Built prog w s₀ [] none 0 s₀
  | some {ds kvs k h'} : ds ≠ [] → Carr ds kvs → h'.DictOf (intKind prog w) s₀.heap.objs.size kvs → (∀ b o, s₀.heap.get? b = some o → h'.get? b = some o) → h'.objs.size = s₀.heap.objs.size + (k + 1) →
      Built prog w s₀ ds (some s₀.heap.objs.size) (k + 1) { s₀ with heap := h', toks := s₀.toks + 3 * ds.length }

theorem flush_ok {s₀ : Shared} {ds ds' : List (Int × Str)} {main : Option Addr} {k : Nat} {run : List (Sem Value × Sem Value)} (hb : Built prog w s₀ ds main k s) (hr : PairsOk prog w run ds') (hne : run ≠ [])
    (hn : ((ds ++ ds').map (·.1)).Nodup) (hsz : ds.length + ds'.length ≤ sizeLine) (hlow : sysModules < s₀.heap.objs.size)
    {Q : Option Addr → Shared → Prop} (hQ : ∀ m s', Built prog w s₀ (ds ++ ds') m (k + 1) s' → Q m s') : wpAny (model prog w) A (flushD run main) Q E s := by
  have hne' : ds' ≠ [] := by
    intro e; have := hr.len; rw [e] at this; exact hne (List.eq_nil_of_length_eq_zero this)
  unfold flushD
  rw [if_neg (by simpa using hne)]
  cases hb with
  | none =>
    refine wpAny_bind (subDict_ok hr (by simpa using hsz) _ _ fun h' kvs hc hd hs => wpAny_pure (hQ _ _ ?_))
    have hnk : (kvs.map (·.1)).Nodup := by rw [hc.keys]; simpa using hn
    rw [merged_nil_of_nodup kvs hnk] at hd
    exact .some (k := 0) hne' hc hd (fun b o e => (hs.2 b (Nat.ne_of_lt (Heap.lt_size e))).trans (Heap.get?_push_of_some _ e)) (by rw [hs.1]; simp)
  | @some _ kvs k h' h0 hc hd hk hsize =>
    refine wpAny_bind (wpAny_holding (subDict_ok (s := { s₀ with heap := h', toks := s₀.toks + 3 * ds.length }) hr (by lia) _ fun h₁ kvs₁ hc₁ hd₁ hs₁ => ?_))
    have hnk : (kvs₁.map (·.1)).Nodup := by
      rw [hc₁.keys]; rw [List.map_append, List.nodup_append] at hn; exact hn.2.1
    rw [merged_nil_of_nodup kvs₁ hnk] at hd₁
    have hlt : s₀.heap.objs.size ≠ h'.objs.size := by lia
    have hd' : h₁.DictOf (intKind prog w) s₀.heap.objs.size kvs := (hd.push _).sameBut hs₁ hlt
    refine wpAny_bind (wpAny_onRaise (wpAny_holding (merge_ok hlt (beq_eq_false_iff_ne.mpr (Nat.ne_of_gt (Nat.lt_of_lt_of_le hlow (by show s₀.heap.objs.size ≤ h'.objs.size; lia)))) hd' hd₁ (by rw [List.map_append, hc.keys, hc₁.keys, ← List.map_append]; exact hn)
      (fun h₂ hd₂ hs₂ => wpAny_pure (hQ _ _ ?_)) (by rw [hc.len, hc₁.len]; lia) (by intro e; subst e; have := hc.len; exact h0 (List.eq_nil_of_length_eq_zero this.symm)))))
    have e : s₀.toks + 3 * ds.length + 3 * ds'.length = s₀.toks + 3 * (ds ++ ds').length := by rw [List.length_append]; lia
    have := Built.some (prog := prog) (w := w) (s₀ := s₀) (ds := ds ++ ds') (k := k + 1) (h' := h₂) (by simp [h0]) (hc.append hc₁) hd₂ (fun b o e => by
      have hb : b < s₀.heap.objs.size := Heap.lt_size e
      rw [hs₂.2 b (Nat.ne_of_lt hb), hs₁.2 b (Nat.ne_of_lt (Nat.lt_of_lt_of_le hb (by show s₀.heap.objs.size ≤ h'.objs.size; lia)))]
      exact Heap.get?_push_of_some _ (hk b o e)) (by rw [hs₂.1, hs₁.1, Heap.size_push, hsize]; lia)
    rw [← e] at this
    exact this

theorem display_ok {ps : List (Sem Value × Sem Value)} {ds : List (Int × Str)} (h : PairsOk prog w ps ds) (hn : (ds.map (·.1)).Nodup) (h0 : ds ≠ []) (hsz : ds.length ≤ sizeLine) (hlow : sysModules < s.heap.objs.size)
    {Q : Value → Shared → Prop} (hQ : ∀ kvs h', Carr ds kvs → h'.DictOf (intKind prog w) s.heap.objs.size kvs → (∀ b o, s.heap.get? b = some o → h'.get? b = some o) →
      h'.objs.size = s.heap.objs.size + (ds.length + 16) / 17 → Q (.ref s.heap.objs.size) { s with heap := h', toks := s.toks + 3 * ds.length }) :
    wpAny (model prog w) A (dictDisplay (ps.map fun p => (some p.1, p.2))) Q E s := by
  unfold dictDisplay
  dsimp only
  refine wpAny_bind (wpAny_forIn_list _
    (fun rest st s' => ∃ dn dr dt pt k, rest = pt.map (fun (p : Sem Value × Sem Value) => (some p.1, p.2)) ∧ PairsOk prog w pt dt ∧ PairsOk prog w st.2 dr ∧ ds = dn ++ dr ++ dt ∧ dr.length < 17 ∧ dn.length = 17 * k ∧ Built prog w s dn st.1 k s')
    _ ?_ ?_ _ _ ⟨[], [], ds, ps, 0, rfl, h, .nil, rfl, by decide, rfl, .none⟩)
  · rintro x rest ⟨main, run⟩ s' ⟨dn, dr, dt, pt, k, hr, hp, hrun, e, hl, hk, hb⟩
    cases hp with
    | nil => simp at hr
    | @cons p d pt dt hp hpt =>
      rw [List.map_cons] at hr
      injection hr with hx hr
      subst hx
      dsimp only
      have hrl : run.length = dr.length := hrun.len
      by_cases h17 : dr.length + 1 = 17
      · rw [if_pos (by simp [hrl, h17])]
        have hsub : ((dn ++ (dr ++ [d])).map (·.1)).Nodup := by
          rw [e, List.map_append] at hn
          have : (dn ++ dr ++ d :: dt).map (·.1) = (dn ++ (dr ++ [d])).map (·.1) ++ dt.map (·.1) := by simp
          rw [← List.map_append, this, List.nodup_append] at hn
          exact hn.1
        have hlen : ds.length = dn.length + dr.length + (dt.length + 1) := by rw [e]; simp; lia
        refine wpAny_bind (flush_ok (run := run ++ [(p.1, p.2)]) (ds' := dr ++ [d]) hb (hrun.snoc hp) (by simp) hsub (by simp; lia) hlow fun m s'' hb' => wpAny_pure ?_)
        exact ⟨dn ++ (dr ++ [d]), [], dt, pt, k + 1, hr, hpt, .nil, by rw [e]; simp, by decide, by simp; lia, hb'⟩
      · rw [if_neg (by simp [hrl]; lia)]
        exact wpAny_pure ⟨dn, dr ++ [d], dt, pt, k, hr, hpt, hrun.snoc hp, by rw [e]; simp, by simp; lia, hk, hb⟩
  · rintro ⟨main, run⟩ s' ⟨dn, dr, dt, pt, k, hr, hp, hrun, e, hl, hk, hb⟩
    have hpt : pt = [] := by simpa using hr.symm
    subst hpt
    cases hp
    rw [List.append_nil] at e
    dsimp only
    have fin : ∀ m s'' k', Built prog w s ds m k' s'' → k' = (ds.length + 16) / 17 → wpAny (model prog w) A (match m with | some d => pure (Value.ref d) | none => newDict) Q E s'' := by
      intro m s'' k' hb hk'
      cases hb with
      | none => exact absurd rfl h0
      | some _ hc hd hkk hs => exact wpAny_pure (hQ _ _ hc hd hkk (by rw [hs, hk']))
    cases hrn : run with
    | nil =>
      subst hrn
      cases hrun
      rw [List.append_nil] at e
      subst e
      exact wpAny_bind (wpAny_pure (fin _ _ _ hb (by lia)))
    | cons p0 r0 =>
      rw [← hrn]
      have hne : run ≠ [] := by rw [hrn]; simp
      have hrl : run.length = dr.length := hrun.len
      have hpos : 0 < dr.length := by rw [← hrl]; exact List.length_pos_iff.mpr hne
      have hlen : ds.length = dn.length + dr.length := by rw [e]; simp
      refine wpAny_bind (flush_ok (A := A) (E := E) (run := run) (ds' := dr) hb hrun hne (by rw [← e]; exact hn) (by lia) hlow (fun m s'' hb' => ?_))
      rw [← e] at hb'
      exact fin _ _ _ hb' (by lia)
end
end Mine
namespace Mine
open PySem PySem.W PySem.Challenge PyProof.Rows

/-! the text's parts, by their places -/
noncomputable def bdy : List Stmt := behindTheImports pw_tp0041_01
noncomputable def stA (i : Nat) : Stmt := bdy.getD i (.Pass default)
noncomputable def noArgs : Arguments := ⟨[], [], none, [], [], none, []⟩
noncomputable def fArgs : Stmt → Arguments
  | .FunctionDef _ a _ _ _ _ _ _ _ _ => a
  | _ => noArgs
noncomputable def fBody : Stmt → List Stmt
  | .FunctionDef _ _ b _ _ _ _ _ _ _ => b
  | _ => []
noncomputable def fScope : Stmt → Scope
  | .FunctionDef _ _ _ _ _ _ sc _ _ _ => sc
  | _ => default
noncomputable def cBody : Stmt → List Stmt
  | .ClassDef _ _ _ b _ _ _ _ _ _ _ => b
  | _ => []
noncomputable def stM (j : Nat) : Stmt := (cBody (stA 1)).getD j (.Pass default)

/-! the objects that the top makes (printed by a program of mine) -/
noncomputable def o3 (P : Params) : Obj := ⟨(.type "dict"), none, (.dict ⟨[⟨(@PySem.PyData.keyHash P ⟨⟨[95, 95, 110, 97, 109, 101, 95, 95]⟩⟩), (.str ⟨⟨[95, 95, 110, 97, 109, 101, 95, 95]⟩⟩ 165), (.str ⟨⟨[108, 97, 119, 95, 116, 112, 48, 48, 52, 49, 95, 48, 49]⟩⟩ 2324)⟩, ⟨(@PySem.PyData.keyHash P ⟨⟨[95, 95, 100, 111, 99, 95, 95]⟩⟩), (.str ⟨⟨[95, 95, 100, 111, 99, 95, 95]⟩⟩ 166), .none⟩, ⟨(@PySem.PyData.keyHash P ⟨⟨[95, 95, 112, 97, 99, 107, 97, 103, 101, 95, 95]⟩⟩), (.str ⟨⟨[95, 95, 112, 97, 99, 107, 97, 103, 101, 95, 95]⟩⟩ 167), .none⟩, ⟨(@PySem.PyData.keyHash P ⟨⟨[95, 95, 108, 111, 97, 100, 101, 114, 95, 95]⟩⟩), (.str ⟨⟨[95, 95, 108, 111, 97, 100, 101, 114, 95, 95]⟩⟩ 168), (.builtin "__main__.__loader__#opaque")⟩, ⟨(@PySem.PyData.keyHash P ⟨⟨[95, 95, 115, 112, 101, 99, 95, 95]⟩⟩), (.str ⟨⟨[95, 95, 115, 112, 101, 99, 95, 95]⟩⟩ 169), .none⟩, ⟨(@PySem.PyData.keyHash P ⟨⟨[95, 95, 97, 110, 110, 111, 116, 97, 116, 105, 111, 110, 115, 95, 95]⟩⟩), (.str ⟨⟨[95, 95, 97, 110, 110, 111, 116, 97, 116, 105, 111, 110, 115, 95, 95]⟩⟩ 170), (.ref 6)⟩, ⟨(@PySem.PyData.keyHash P ⟨⟨[95, 95, 98, 117, 105, 108, 116, 105, 110, 115, 95, 95]⟩⟩), (.str ⟨⟨[95, 95, 98, 117, 105, 108, 116, 105, 110, 115, 95, 95]⟩⟩ 171), (.ref 4)⟩, ⟨(@PySem.PyData.keyHash P ⟨⟨[95, 95, 102, 105, 108, 101, 95, 95]⟩⟩), (.str ⟨⟨[95, 95, 102, 105, 108, 101, 95, 95]⟩⟩ 173), (.str ⟨⟨[47, 99, 108, 97, 105, 109, 47, 99, 117, 116, 46, 112, 121]⟩⟩ 172)⟩, ⟨(@PySem.PyData.keyHash P ⟨⟨[95, 95, 99, 97, 99, 104, 101, 100, 95, 95]⟩⟩), (.str ⟨⟨[95, 95, 99, 97, 99, 104, 101, 100, 95, 95]⟩⟩ 174), .none⟩, ⟨(@PySem.PyData.keyHash P ⟨⟨[95, 110, 101, 116, 114, 99, 108, 101, 120]⟩⟩), (.str ⟨⟨[95, 110, 101, 116, 114, 99, 108, 101, 120]⟩⟩ 246), (.ref 52)⟩, ⟨(@PySem.PyData.keyHash P ⟨⟨[95, 115, 116, 114, 120, 102, 114, 109]⟩⟩), (.str ⟨⟨[95, 115, 116, 114, 120, 102, 114, 109]⟩⟩ 255), (.ref 63)⟩, ⟨(@PySem.PyData.keyHash P ⟨⟨[67, 72, 65, 82, 95, 77, 65, 88]⟩⟩), (.str ⟨⟨[67, 72, 65, 82, 95, 77, 65, 88]⟩⟩ 257), (.int 127 256)⟩, ⟨(@PySem.PyData.keyHash P ⟨⟨[95, 103, 114, 111, 117, 112, 105, 110, 103, 95, 105, 110, 116, 101, 114, 118, 97, 108, 115]⟩⟩), (.str ⟨⟨[95, 103, 114, 111, 117, 112, 105, 110, 103, 95, 105, 110, 116, 101, 114, 118, 97, 108, 115]⟩⟩ 266), (.ref 70)⟩, ⟨(@PySem.PyData.keyHash P ⟨⟨[109, 117, 108]⟩⟩), (.str ⟨⟨[109, 117, 108]⟩⟩ 276), (.ref 77)⟩, ⟨(@PySem.PyData.keyHash P ⟨⟨[99, 111, 110, 99, 97, 116]⟩⟩), (.str ⟨⟨[99, 111, 110, 99, 97, 116]⟩⟩ 285), (.ref 84)⟩, ⟨(@PySem.PyData.keyHash P ⟨⟨[99, 111, 117, 110, 116, 79, 102]⟩⟩), (.str ⟨⟨[99, 111, 117, 110, 116, 79, 102]⟩⟩ 295), (.ref 91)⟩, ⟨(@PySem.PyData.keyHash P ⟨⟨[98, 49, 95, 115, 101, 116]⟩⟩), (.str ⟨⟨[98, 49, 95, 115, 101, 116]⟩⟩ 357), (.ref 99)⟩, ⟨(@PySem.PyData.keyHash P ⟨⟨[105, 110, 95, 116, 97, 98, 108, 101, 95, 98, 49]⟩⟩), (.str ⟨⟨[105, 110, 95, 116, 97, 98, 108, 101, 95, 98, 49]⟩⟩ 364), (.ref 109)⟩, ⟨(@PySem.PyData.keyHash P ⟨⟨[98, 51, 95, 101, 120, 99, 101, 112, 116, 105, 111, 110, 115]⟩⟩), (.str ⟨⟨[98, 51, 95, 101, 120, 99, 101, 112, 116, 105, 111, 110, 115]⟩⟩ 2315), (.ref 110)⟩, ⟨(@PySem.PyData.keyHash P ⟨⟨[109, 97, 112, 95, 116, 97, 98, 108, 101, 95, 98, 51]⟩⟩), (.str ⟨⟨[109, 97, 112, 95, 116, 97, 98, 108, 101, 95, 98, 51]⟩⟩ 2323), (.ref 155)⟩, ⟨(@PySem.PyData.keyHash P ⟨⟨[95, 108, 97, 119, 95, 108, 101, 120, 101, 114]⟩⟩), (.str ⟨⟨[95, 108, 97, 119, 95, 108, 101, 120, 101, 114]⟩⟩ 2336), (.ref 162)⟩, ⟨(@PySem.PyData.keyHash P ⟨⟨[95, 108, 97, 119, 95, 115, 112, 101, 108, 108, 101, 100]⟩⟩), (.str ⟨⟨[95, 108, 97, 119, 95, 115, 112, 101, 108, 108, 101, 100]⟩⟩ 2347), (.ref 169)⟩, ⟨(@PySem.PyData.keyHash P ⟨⟨[95, 108, 97, 119, 95, 119, 114, 105, 116, 116, 101, 110]⟩⟩), (.str ⟨⟨[95, 108, 97, 119, 95, 119, 114, 105, 116, 116, 101, 110]⟩⟩ 2353), (.ref 174)⟩, ⟨(@PySem.PyData.keyHash P ⟨⟨[95, 108, 97, 119, 95, 112, 114, 101, 112, 97, 114, 101, 100]⟩⟩), (.str ⟨⟨[95, 108, 97, 119, 95, 112, 114, 101, 112, 97, 114, 101, 100]⟩⟩ 2359), (.ref 179)⟩, ⟨(@PySem.PyData.keyHash P ⟨⟨[95, 108, 97, 119, 95, 115, 105, 122, 101, 115]⟩⟩), (.str ⟨⟨[95, 108, 97, 119, 95, 115, 105, 122, 101, 115]⟩⟩ 2368), (.ref 186)⟩, ⟨(@PySem.PyData.keyHash P ⟨⟨[95, 108, 97, 119, 95, 103, 114, 111, 119, 110]⟩⟩), (.str ⟨⟨[95, 108, 97, 119, 95, 103, 114, 111, 119, 110]⟩⟩ 2383), (.ref 193)⟩, ⟨(@PySem.PyData.keyHash P ⟨⟨[95, 108, 97, 119, 95, 100, 111, 110, 101]⟩⟩), (.str ⟨⟨[95, 108, 97, 119, 95, 100, 111, 110, 101]⟩⟩ 2389), (.ref 198)⟩, ⟨(@PySem.PyData.keyHash P ⟨⟨[95, 108, 97, 119, 95, 115, 104, 97, 114, 101, 100]⟩⟩), (.str ⟨⟨[95, 108, 97, 119, 95, 115, 104, 97, 114, 101, 100]⟩⟩ 2403), (.ref 205)⟩, ⟨(@PySem.PyData.keyHash P ⟨⟨[95, 108, 97, 119, 95, 111, 102, 116, 101, 110]⟩⟩), (.str ⟨⟨[95, 108, 97, 119, 95, 111, 102, 116, 101, 110]⟩⟩ 2409), (.ref 210)⟩, ⟨(@PySem.PyData.keyHash P ⟨⟨[95, 108, 97, 119, 95, 116, 111, 108, 100]⟩⟩), (.str ⟨⟨[95, 108, 97, 119, 95, 116, 111, 108, 100]⟩⟩ 2425), (.ref 217)⟩, ⟨(@PySem.PyData.keyHash P ⟨⟨[108, 97, 119]⟩⟩), (.str ⟨⟨[108, 97, 119]⟩⟩ 2431), (.ref 222)⟩]⟩ 31), ⟨[]⟩⟩
noncomputable def o11 (P : Params) : Obj := ⟨(.type "tuple"), none, (.seq ⟨[]⟩ 0), ⟨[]⟩⟩
noncomputable def o12 (P : Params) : Obj := ⟨.none, none, (.fields ⟨[(.int 2 0), (.int 0 0), (.ref 20), (.int 46 0), (.int 0 0), (.ref 62), (.int 49 0), (.int 0 0), (.ref 69), (.int 62 0), (.int 0 0), (.ref 76), (.int 64 0), (.int 0 0), (.ref 83), (.int 69 0), (.int 0 0), (.ref 90), (.int 77 0), (.int 0 0), (.ref 108), (.int 80 0), (.int 0 0), (.ref 154), (.int 86 0), (.int 0 0), (.ref 161), (.int 96 0), (.int 0 0), (.ref 168), (.int 107 0), (.int 0 0), (.ref 173), (.int 112 0), (.int 0 0), (.ref 178), (.int 114 0), (.int 0 0), (.ref 185), (.int 121 0), (.int 0 0), (.ref 192), (.int 131 0), (.int 0 0), (.ref 197), (.int 142 0), (.int 0 0), (.ref 204), (.int 153 0), (.int 0 0), (.ref 209), (.int 164 0), (.int 0 0), (.ref 216), (.int 175 0), (.int 0 0), (.ref 221)]⟩), ⟨[]⟩⟩
noncomputable def o13 (P : Params) : Obj := ⟨(.type "code"), none, (.fields ⟨[(.str ⟨⟨[60, 109, 111, 100, 117, 108, 101, 62]⟩⟩ 182), (.str ⟨⟨[60, 109, 111, 100, 117, 108, 101, 62]⟩⟩ 183), (.str ⟨⟨[47, 99, 108, 97, 105, 109, 47, 99, 117, 116, 46, 112, 121]⟩⟩ 184), (.int 1 0), (.int 0 0), (.int 0 0), (.int 0 0), (.int 0 0), (.ref 11), (.bool false), (.int 181 0), (.ref 12), .none, .none, .none, .none, (.int 185 0), (.int 1 0), (.str ⟨⟨[47, 99, 108, 97, 105, 109, 47, 99, 117, 116, 46, 112, 121]⟩⟩ 186)]⟩), ⟨[]⟩⟩
noncomputable def o14 (P : Params) : Obj := ⟨(.type "frame"), none, PySem.Data.plain, ⟨[(some (.ref 13)), (some (.ref 3)), (some (.ref 3)), none, (some (.str ⟨⟨[95, 95, 109, 97, 105, 110, 95, 95]⟩⟩ 164)), none, (some (.ref 0))]⟩⟩
noncomputable def o15 (P : Params) : Obj := ⟨(.type "tuple"), none, (.seq ⟨[]⟩ 0), ⟨[]⟩⟩
noncomputable def o16 (P : Params) : Obj := ⟨(.type "builtin_function_or_method"), none, (.fields ⟨[(.builtin "type.__prepare__"), (.type "type")]⟩), ⟨[]⟩⟩
noncomputable def o17 (P : Params) : Obj := ⟨(.type "dict"), none, (.dict ⟨[⟨(@PySem.PyData.keyHash P ⟨⟨[95, 95, 109, 111, 100, 117, 108, 101, 95, 95]⟩⟩), (.str ⟨⟨[95, 95, 109, 111, 100, 117, 108, 101, 95, 95]⟩⟩ 196), (.str ⟨⟨[99, 112, 121, 51, 49, 51, 46, 110, 101, 116, 114, 99]⟩⟩ 187)⟩, ⟨(@PySem.PyData.keyHash P ⟨⟨[95, 95, 113, 117, 97, 108, 110, 97, 109, 101, 95, 95]⟩⟩), (.str ⟨⟨[95, 95, 113, 117, 97, 108, 110, 97, 109, 101, 95, 95]⟩⟩ 198), (.str ⟨⟨[95, 110, 101, 116, 114, 99, 108, 101, 120]⟩⟩ 197)⟩, ⟨(@PySem.PyData.keyHash P ⟨⟨[95, 95, 102, 105, 114, 115, 116, 108, 105, 110, 101, 110, 111, 95, 95]⟩⟩), (.str ⟨⟨[95, 95, 102, 105, 114, 115, 116, 108, 105, 110, 101, 110, 111, 95, 95]⟩⟩ 200), (.int 2 199)⟩, ⟨(@PySem.PyData.keyHash P ⟨⟨[95, 95, 105, 110, 105, 116, 95, 95]⟩⟩), (.str ⟨⟨[95, 95, 105, 110, 105, 116, 95, 95]⟩⟩ 208), (.ref 28)⟩, ⟨(@PySem.PyData.keyHash P ⟨⟨[95, 114, 101, 97, 100, 95, 99, 104, 97, 114]⟩⟩), (.str ⟨⟨[95, 114, 101, 97, 100, 95, 99, 104, 97, 114]⟩⟩ 216), (.ref 35)⟩, ⟨(@PySem.PyData.keyHash P ⟨⟨[103, 101, 116, 95, 116, 111, 107, 101, 110]⟩⟩), (.str ⟨⟨[103, 101, 116, 95, 116, 111, 107, 101, 110]⟩⟩ 226), (.ref 42)⟩, ⟨(@PySem.PyData.keyHash P ⟨⟨[112, 117, 115, 104, 95, 116, 111, 107, 101, 110]⟩⟩), (.str ⟨⟨[112, 117, 115, 104, 95, 116, 111, 107, 101, 110]⟩⟩ 234), (.ref 49)⟩, ⟨(@PySem.PyData.keyHash P ⟨⟨[95, 95, 115, 116, 97, 116, 105, 99, 95, 97, 116, 116, 114, 105, 98, 117, 116, 101, 115, 95, 95]⟩⟩), (.str ⟨⟨[95, 95, 115, 116, 97, 116, 105, 99, 95, 97, 116, 116, 114, 105, 98, 117, 116, 101, 115, 95, 95]⟩⟩ 239), (.ref 50)⟩]⟩ 8), ⟨[]⟩⟩
noncomputable def o18 (P : Params) : Obj := ⟨(.type "tuple"), none, (.seq ⟨[]⟩ 0), ⟨[]⟩⟩
noncomputable def o19 (P : Params) : Obj := ⟨.none, none, (.fields ⟨[(.int 4 0), (.int 4 0), (.ref 27), (.int 10 0), (.int 4 0), (.ref 34), (.int 16 0), (.int 4 0), (.ref 41), (.int 43 0), (.int 4 0), (.ref 48)]⟩), ⟨[]⟩⟩
noncomputable def o20 (P : Params) : Obj := ⟨(.type "code"), none, (.fields ⟨[(.str ⟨⟨[95, 110, 101, 116, 114, 99, 108, 101, 120]⟩⟩ 191), (.str ⟨⟨[95, 110, 101, 116, 114, 99, 108, 101, 120]⟩⟩ 192), (.str ⟨⟨[47, 99, 108, 97, 105, 109, 47, 99, 117, 116, 46, 112, 121]⟩⟩ 193), (.int 2 0), (.int 0 0), (.int 0 0), (.int 0 0), (.int 0 0), (.ref 18), (.bool false), (.int 181 0), (.ref 19), .none, .none, .none, .none, (.int 194 0), (.int 2 0), (.str ⟨⟨[47, 99, 108, 97, 105, 109, 47, 99, 117, 116, 46, 112, 121]⟩⟩ 195)]⟩), ⟨[]⟩⟩
noncomputable def o21 (P : Params) : Obj := ⟨(.type "frame"), none, PySem.Data.plain, ⟨[(some (.ref 20)), (some (.ref 3)), (some (.ref 17)), none, (some (.str ⟨⟨[99, 112, 121, 51, 49, 51, 46, 110, 101, 116, 114, 99]⟩⟩ 187)), none, (some (.ref 0))]⟩⟩
noncomputable def o22 (P : Params) : Obj := ⟨(.type "tuple"), none, (.seq ⟨[]⟩ 0), ⟨[]⟩⟩
noncomputable def o23 (P : Params) : Obj := ⟨.none, none, (.fields ⟨[]⟩), ⟨[]⟩⟩
noncomputable def o24 (P : Params) : Obj := ⟨(.type "tuple"), none, (.seq ⟨[(.str ⟨⟨[115, 101, 108, 102]⟩⟩ 204), (.str ⟨⟨[102, 112]⟩⟩ 205)]⟩ 0), ⟨[]⟩⟩
noncomputable def o25 (P : Params) : Obj := ⟨(.type "tuple"), none, (.seq ⟨[]⟩ 0), ⟨[]⟩⟩
noncomputable def o26 (P : Params) : Obj := ⟨.none, none, (.func ⟨⟨⟨[95, 95, 105, 110, 105, 116, 95, 95]⟩⟩, ⟨⟨[95, 110, 101, 116, 114, 99, 108, 101, 120, 46, 95, 95, 105, 110, 105, 116, 95, 95]⟩⟩, (fArgs (stM 0)), (@PySem.FuncBody.stmts (fBody (stM 0))), (fScope (stM 0)), 0, [], .none, .none, .none, .none, none, .none, .none, 0⟩), ⟨[]⟩⟩
noncomputable def o27 (P : Params) : Obj := ⟨(.type "code"), none, (.fields ⟨[(.str ⟨⟨[95, 95, 105, 110, 105, 116, 95, 95]⟩⟩ 201), (.str ⟨⟨[95, 110, 101, 116, 114, 99, 108, 101, 120, 46, 95, 95, 105, 110, 105, 116, 95, 95]⟩⟩ 202), (.str ⟨⟨[47, 99, 108, 97, 105, 109, 47, 99, 117, 116, 46, 112, 121]⟩⟩ 203), (.int 4 0), (.int 2 0), (.int 0 0), (.int 0 0), (.int 3 0), (.ref 22), (.bool true), (.int 181 0), (.ref 23), .none, (.ref 24), (.ref 25), (.ref 26), (.int 206 0), (.int 4 0), (.str ⟨⟨[47, 99, 108, 97, 105, 109, 47, 99, 117, 116, 46, 112, 121]⟩⟩ 207)]⟩), ⟨[]⟩⟩
noncomputable def o28 (P : Params) : Obj := ⟨(.type "function"), none, (.func ⟨⟨⟨[95, 95, 105, 110, 105, 116, 95, 95]⟩⟩, ⟨⟨[95, 110, 101, 116, 114, 99, 108, 101, 120, 46, 95, 95, 105, 110, 105, 116, 95, 95]⟩⟩, (fArgs (stM 0)), (@PySem.FuncBody.stmts (fBody (stM 0))), (fScope (stM 0)), 3, [], .none, .none, .none, (.str ⟨⟨[99, 112, 121, 51, 49, 51, 46, 110, 101, 116, 114, 99]⟩⟩ 187), none, (.ref 27), .none, 0⟩), ⟨[]⟩⟩
noncomputable def o29 (P : Params) : Obj := ⟨(.type "tuple"), none, (.seq ⟨[]⟩ 0), ⟨[]⟩⟩
noncomputable def o30 (P : Params) : Obj := ⟨.none, none, (.fields ⟨[]⟩), ⟨[]⟩⟩
noncomputable def o31 (P : Params) : Obj := ⟨(.type "tuple"), none, (.seq ⟨[(.str ⟨⟨[115, 101, 108, 102]⟩⟩ 212), (.str ⟨⟨[99, 104]⟩⟩ 213)]⟩ 0), ⟨[]⟩⟩
noncomputable def o32 (P : Params) : Obj := ⟨(.type "tuple"), none, (.seq ⟨[]⟩ 0), ⟨[]⟩⟩
noncomputable def o33 (P : Params) : Obj := ⟨.none, none, (.func ⟨⟨⟨[95, 114, 101, 97, 100, 95, 99, 104, 97, 114]⟩⟩, ⟨⟨[95, 110, 101, 116, 114, 99, 108, 101, 120, 46, 95, 114, 101, 97, 100, 95, 99, 104, 97, 114]⟩⟩, (fArgs (stM 1)), (@PySem.FuncBody.stmts (fBody (stM 1))), (fScope (stM 1)), 0, [], .none, .none, .none, .none, none, .none, .none, 0⟩), ⟨[]⟩⟩
noncomputable def o34 (P : Params) : Obj := ⟨(.type "code"), none, (.fields ⟨[(.str ⟨⟨[95, 114, 101, 97, 100, 95, 99, 104, 97, 114]⟩⟩ 209), (.str ⟨⟨[95, 110, 101, 116, 114, 99, 108, 101, 120, 46, 95, 114, 101, 97, 100, 95, 99, 104, 97, 114]⟩⟩ 210), (.str ⟨⟨[47, 99, 108, 97, 105, 109, 47, 99, 117, 116, 46, 112, 121]⟩⟩ 211), (.int 10 0), (.int 1 0), (.int 0 0), (.int 0 0), (.int 3 0), (.ref 29), (.bool true), (.int 181 0), (.ref 30), .none, (.ref 31), (.ref 32), (.ref 33), (.int 214 0), (.int 10 0), (.str ⟨⟨[47, 99, 108, 97, 105, 109, 47, 99, 117, 116, 46, 112, 121]⟩⟩ 215)]⟩), ⟨[]⟩⟩
noncomputable def o35 (P : Params) : Obj := ⟨(.type "function"), none, (.func ⟨⟨⟨[95, 114, 101, 97, 100, 95, 99, 104, 97, 114]⟩⟩, ⟨⟨[95, 110, 101, 116, 114, 99, 108, 101, 120, 46, 95, 114, 101, 97, 100, 95, 99, 104, 97, 114]⟩⟩, (fArgs (stM 1)), (@PySem.FuncBody.stmts (fBody (stM 1))), (fScope (stM 1)), 3, [], .none, .none, .none, (.str ⟨⟨[99, 112, 121, 51, 49, 51, 46, 110, 101, 116, 114, 99]⟩⟩ 187), none, (.ref 34), .none, 0⟩), ⟨[]⟩⟩
noncomputable def o36 (P : Params) : Obj := ⟨(.type "tuple"), none, (.seq ⟨[]⟩ 0), ⟨[]⟩⟩
noncomputable def o37 (P : Params) : Obj := ⟨.none, none, (.fields ⟨[]⟩), ⟨[]⟩⟩
noncomputable def o38 (P : Params) : Obj := ⟨(.type "tuple"), none, (.seq ⟨[(.str ⟨⟨[115, 101, 108, 102]⟩⟩ 220), (.str ⟨⟨[116, 111, 107, 101, 110]⟩⟩ 221), (.str ⟨⟨[102, 105, 116, 101, 114]⟩⟩ 222), (.str ⟨⟨[99, 104]⟩⟩ 223)]⟩ 0), ⟨[]⟩⟩
noncomputable def o39 (P : Params) : Obj := ⟨(.type "tuple"), none, (.seq ⟨[]⟩ 0), ⟨[]⟩⟩
noncomputable def o40 (P : Params) : Obj := ⟨.none, none, (.func ⟨⟨⟨[103, 101, 116, 95, 116, 111, 107, 101, 110]⟩⟩, ⟨⟨[95, 110, 101, 116, 114, 99, 108, 101, 120, 46, 103, 101, 116, 95, 116, 111, 107, 101, 110]⟩⟩, (fArgs (stM 2)), (@PySem.FuncBody.stmts (fBody (stM 2))), (fScope (stM 2)), 0, [], .none, .none, .none, .none, none, .none, .none, 0⟩), ⟨[]⟩⟩
noncomputable def o41 (P : Params) : Obj := ⟨(.type "code"), none, (.fields ⟨[(.str ⟨⟨[103, 101, 116, 95, 116, 111, 107, 101, 110]⟩⟩ 217), (.str ⟨⟨[95, 110, 101, 116, 114, 99, 108, 101, 120, 46, 103, 101, 116, 95, 116, 111, 107, 101, 110]⟩⟩ 218), (.str ⟨⟨[47, 99, 108, 97, 105, 109, 47, 99, 117, 116, 46, 112, 121]⟩⟩ 219), (.int 16 0), (.int 1 0), (.int 0 0), (.int 0 0), (.int 3 0), (.ref 36), (.bool true), (.int 181 0), (.ref 37), .none, (.ref 38), (.ref 39), (.ref 40), (.int 224 0), (.int 16 0), (.str ⟨⟨[47, 99, 108, 97, 105, 109, 47, 99, 117, 116, 46, 112, 121]⟩⟩ 225)]⟩), ⟨[]⟩⟩
noncomputable def o42 (P : Params) : Obj := ⟨(.type "function"), none, (.func ⟨⟨⟨[103, 101, 116, 95, 116, 111, 107, 101, 110]⟩⟩, ⟨⟨[95, 110, 101, 116, 114, 99, 108, 101, 120, 46, 103, 101, 116, 95, 116, 111, 107, 101, 110]⟩⟩, (fArgs (stM 2)), (@PySem.FuncBody.stmts (fBody (stM 2))), (fScope (stM 2)), 3, [], .none, .none, .none, (.str ⟨⟨[99, 112, 121, 51, 49, 51, 46, 110, 101, 116, 114, 99]⟩⟩ 187), none, (.ref 41), .none, 0⟩), ⟨[]⟩⟩
noncomputable def o43 (P : Params) : Obj := ⟨(.type "tuple"), none, (.seq ⟨[]⟩ 0), ⟨[]⟩⟩
noncomputable def o44 (P : Params) : Obj := ⟨.none, none, (.fields ⟨[]⟩), ⟨[]⟩⟩
noncomputable def o45 (P : Params) : Obj := ⟨(.type "tuple"), none, (.seq ⟨[(.str ⟨⟨[115, 101, 108, 102]⟩⟩ 230), (.str ⟨⟨[116, 111, 107, 101, 110]⟩⟩ 231)]⟩ 0), ⟨[]⟩⟩
noncomputable def o46 (P : Params) : Obj := ⟨(.type "tuple"), none, (.seq ⟨[]⟩ 0), ⟨[]⟩⟩
noncomputable def o47 (P : Params) : Obj := ⟨.none, none, (.func ⟨⟨⟨[112, 117, 115, 104, 95, 116, 111, 107, 101, 110]⟩⟩, ⟨⟨[95, 110, 101, 116, 114, 99, 108, 101, 120, 46, 112, 117, 115, 104, 95, 116, 111, 107, 101, 110]⟩⟩, (fArgs (stM 3)), (@PySem.FuncBody.stmts (fBody (stM 3))), (fScope (stM 3)), 0, [], .none, .none, .none, .none, none, .none, .none, 0⟩), ⟨[]⟩⟩
noncomputable def o48 (P : Params) : Obj := ⟨(.type "code"), none, (.fields ⟨[(.str ⟨⟨[112, 117, 115, 104, 95, 116, 111, 107, 101, 110]⟩⟩ 227), (.str ⟨⟨[95, 110, 101, 116, 114, 99, 108, 101, 120, 46, 112, 117, 115, 104, 95, 116, 111, 107, 101, 110]⟩⟩ 228), (.str ⟨⟨[47, 99, 108, 97, 105, 109, 47, 99, 117, 116, 46, 112, 121]⟩⟩ 229), (.int 43 0), (.int 2 0), (.int 0 0), (.int 0 0), (.int 3 0), (.ref 43), (.bool true), (.int 181 0), (.ref 44), .none, (.ref 45), (.ref 46), (.ref 47), (.int 232 0), (.int 43 0), (.str ⟨⟨[47, 99, 108, 97, 105, 109, 47, 99, 117, 116, 46, 112, 121]⟩⟩ 233)]⟩), ⟨[]⟩⟩
noncomputable def o49 (P : Params) : Obj := ⟨(.type "function"), none, (.func ⟨⟨⟨[112, 117, 115, 104, 95, 116, 111, 107, 101, 110]⟩⟩, ⟨⟨[95, 110, 101, 116, 114, 99, 108, 101, 120, 46, 112, 117, 115, 104, 95, 116, 111, 107, 101, 110]⟩⟩, (fArgs (stM 3)), (@PySem.FuncBody.stmts (fBody (stM 3))), (fScope (stM 3)), 3, [], .none, .none, .none, (.str ⟨⟨[99, 112, 121, 51, 49, 51, 46, 110, 101, 116, 114, 99]⟩⟩ 187), none, (.ref 48), .none, 0⟩), ⟨[]⟩⟩
noncomputable def o50 (P : Params) : Obj := ⟨(.type "tuple"), none, (.seq ⟨[(.str ⟨⟨[105, 110, 115, 116, 114, 101, 97, 109]⟩⟩ 235), (.str ⟨⟨[108, 105, 110, 101, 110, 111]⟩⟩ 236), (.str ⟨⟨[112, 117, 115, 104, 98, 97, 99, 107]⟩⟩ 237), (.str ⟨⟨[119, 104, 105, 116, 101, 115, 112, 97, 99, 101]⟩⟩ 238)]⟩ 0), ⟨[]⟩⟩
noncomputable def o51 (P : Params) : Obj := ⟨(.type "dict"), none, (.dict ⟨[⟨(@PySem.PyData.keyHash P ⟨⟨[95, 95, 109, 111, 100, 117, 108, 101, 95, 95]⟩⟩), (.str ⟨⟨[95, 95, 109, 111, 100, 117, 108, 101, 95, 95]⟩⟩ 196), (.str ⟨⟨[99, 112, 121, 51, 49, 51, 46, 110, 101, 116, 114, 99]⟩⟩ 187)⟩, ⟨(@PySem.PyData.keyHash P ⟨⟨[95, 95, 102, 105, 114, 115, 116, 108, 105, 110, 101, 110, 111, 95, 95]⟩⟩), (.str ⟨⟨[95, 95, 102, 105, 114, 115, 116, 108, 105, 110, 101, 110, 111, 95, 95]⟩⟩ 200), (.int 2 199)⟩, ⟨(@PySem.PyData.keyHash P ⟨⟨[95, 95, 105, 110, 105, 116, 95, 95]⟩⟩), (.str ⟨⟨[95, 95, 105, 110, 105, 116, 95, 95]⟩⟩ 208), (.ref 28)⟩, ⟨(@PySem.PyData.keyHash P ⟨⟨[95, 114, 101, 97, 100, 95, 99, 104, 97, 114]⟩⟩), (.str ⟨⟨[95, 114, 101, 97, 100, 95, 99, 104, 97, 114]⟩⟩ 216), (.ref 35)⟩, ⟨(@PySem.PyData.keyHash P ⟨⟨[103, 101, 116, 95, 116, 111, 107, 101, 110]⟩⟩), (.str ⟨⟨[103, 101, 116, 95, 116, 111, 107, 101, 110]⟩⟩ 226), (.ref 42)⟩, ⟨(@PySem.PyData.keyHash P ⟨⟨[112, 117, 115, 104, 95, 116, 111, 107, 101, 110]⟩⟩), (.str ⟨⟨[112, 117, 115, 104, 95, 116, 111, 107, 101, 110]⟩⟩ 234), (.ref 49)⟩, ⟨(@PySem.PyData.keyHash P ⟨⟨[95, 95, 115, 116, 97, 116, 105, 99, 95, 97, 116, 116, 114, 105, 98, 117, 116, 101, 115, 95, 95]⟩⟩), (.str ⟨⟨[95, 95, 115, 116, 97, 116, 105, 99, 95, 97, 116, 116, 114, 105, 98, 117, 116, 101, 115, 95, 95]⟩⟩ 239), (.ref 50)⟩, ⟨(@PySem.PyData.keyHash P ⟨⟨[95, 95, 100, 105, 99, 116, 95, 95]⟩⟩), (.str ⟨⟨[95, 95, 100, 105, 99, 116, 95, 95]⟩⟩ 241), (.ref 53)⟩, ⟨(@PySem.PyData.keyHash P ⟨⟨[95, 95, 119, 101, 97, 107, 114, 101, 102, 95, 95]⟩⟩), (.str ⟨⟨[95, 95, 119, 101, 97, 107, 114, 101, 102, 95, 95]⟩⟩ 243), (.ref 54)⟩, ⟨(@PySem.PyData.keyHash P ⟨⟨[95, 95, 100, 111, 99, 95, 95]⟩⟩), (.str ⟨⟨[95, 95, 100, 111, 99, 95, 95]⟩⟩ 244), .none⟩]⟩ 4), ⟨[]⟩⟩
noncomputable def o52 (P : Params) : Obj := ⟨(.type "type"), none, (.cls ⟨⟨⟨[95, 110, 101, 116, 114, 99, 108, 101, 120]⟩⟩, [(.type "object")], [(.ref 52), (.type "object")], 51, ⟨⟨[95, 110, 101, 116, 114, 99, 108, 101, 120]⟩⟩, true, [], [], false, none, false⟩), ⟨[none, none, (some (.str ⟨⟨[95, 110, 101, 116, 114, 99, 108, 101, 120]⟩⟩ 189)), (some (.str ⟨⟨[95, 110, 101, 116, 114, 99, 108, 101, 120]⟩⟩ 197)), (some (.builtin "object.__new__")), (some (.bool true))]⟩⟩
noncomputable def o53 (P : Params) : Obj := ⟨(.type "getset_descriptor"), none, (.fields ⟨[(.str ⟨⟨[95, 95, 100, 105, 99, 116, 95, 95]⟩⟩ 240), (.ref 52), (.builtin "function.__dict__"), (.builtin "function.__dict__#set")]⟩), ⟨[]⟩⟩
noncomputable def o54 (P : Params) : Obj := ⟨(.type "getset_descriptor"), none, (.fields ⟨[(.str ⟨⟨[95, 95, 119, 101, 97, 107, 114, 101, 102, 95, 95]⟩⟩ 242), (.ref 52), (.builtin "ExceptionGroup.__weakref__"), .none]⟩), ⟨[]⟩⟩
noncomputable def o55 (P : Params) : Obj := ⟨(.type "super"), none, (.fields ⟨[(.ref 52), (.ref 52), (.ref 52)]⟩), ⟨[]⟩⟩
noncomputable def o56 (P : Params) : Obj := ⟨(.type "builtin_function_or_method"), none, (.fields ⟨[(.builtin "object.__init_subclass__"), (.ref 52)]⟩), ⟨[]⟩⟩
noncomputable def o57 (P : Params) : Obj := ⟨(.type "tuple"), none, (.seq ⟨[]⟩ 0), ⟨[]⟩⟩
noncomputable def o58 (P : Params) : Obj := ⟨.none, none, (.fields ⟨[]⟩), ⟨[]⟩⟩
noncomputable def o59 (P : Params) : Obj := ⟨(.type "tuple"), none, (.seq ⟨[(.str ⟨⟨[115]⟩⟩ 252)]⟩ 0), ⟨[]⟩⟩
noncomputable def o60 (P : Params) : Obj := ⟨(.type "tuple"), none, (.seq ⟨[]⟩ 0), ⟨[]⟩⟩
noncomputable def o61 (P : Params) : Obj := ⟨.none, none, (.func ⟨⟨⟨[95, 115, 116, 114, 120, 102, 114, 109]⟩⟩, ⟨⟨[95, 115, 116, 114, 120, 102, 114, 109]⟩⟩, (fArgs (stA 3)), (@PySem.FuncBody.stmts (fBody (stA 3))), (fScope (stA 3)), 0, [], .none, .none, .none, .none, none, .none, .none, 0⟩), ⟨[]⟩⟩
noncomputable def o62 (P : Params) : Obj := ⟨(.type "code"), none, (.fields ⟨[(.str ⟨⟨[95, 115, 116, 114, 120, 102, 114, 109]⟩⟩ 249), (.str ⟨⟨[95, 115, 116, 114, 120, 102, 114, 109]⟩⟩ 250), (.str ⟨⟨[47, 99, 108, 97, 105, 109, 47, 99, 117, 116, 46, 112, 121]⟩⟩ 251), (.int 46 0), (.int 1 0), (.int 0 0), (.int 0 0), (.int 3 0), (.ref 57), (.bool true), (.int 181 0), (.ref 58), .none, (.ref 59), (.ref 60), (.ref 61), (.int 253 0), (.int 46 0), (.str ⟨⟨[47, 99, 108, 97, 105, 109, 47, 99, 117, 116, 46, 112, 121]⟩⟩ 254)]⟩), ⟨[]⟩⟩
noncomputable def o63 (P : Params) : Obj := ⟨(.type "function"), none, (.func ⟨⟨⟨[95, 115, 116, 114, 120, 102, 114, 109]⟩⟩, ⟨⟨[95, 115, 116, 114, 120, 102, 114, 109]⟩⟩, (fArgs (stA 3)), (@PySem.FuncBody.stmts (fBody (stA 3))), (fScope (stA 3)), 3, [], .none, .none, .none, (.str ⟨⟨[99, 112, 121, 51, 49, 51, 46, 108, 111, 99, 97, 108, 101]⟩⟩ 247), none, (.ref 62), .none, 0⟩), ⟨[]⟩⟩
noncomputable def o64 (P : Params) : Obj := ⟨(.type "tuple"), none, (.seq ⟨[]⟩ 0), ⟨[]⟩⟩
noncomputable def o65 (P : Params) : Obj := ⟨.none, none, (.fields ⟨[]⟩), ⟨[]⟩⟩
noncomputable def o66 (P : Params) : Obj := ⟨(.type "tuple"), none, (.seq ⟨[(.str ⟨⟨[103, 114, 111, 117, 112, 105, 110, 103]⟩⟩ 261), (.str ⟨⟨[108, 97, 115, 116, 95, 105, 110, 116, 101, 114, 118, 97, 108]⟩⟩ 262), (.str ⟨⟨[105, 110, 116, 101, 114, 118, 97, 108]⟩⟩ 263)]⟩ 0), ⟨[]⟩⟩
noncomputable def o67 (P : Params) : Obj := ⟨(.type "tuple"), none, (.seq ⟨[]⟩ 0), ⟨[]⟩⟩
noncomputable def o68 (P : Params) : Obj := ⟨.none, none, (.func ⟨⟨⟨[95, 103, 114, 111, 117, 112, 105, 110, 103, 95, 105, 110, 116, 101, 114, 118, 97, 108, 115]⟩⟩, ⟨⟨[95, 103, 114, 111, 117, 112, 105, 110, 103, 95, 105, 110, 116, 101, 114, 118, 97, 108, 115]⟩⟩, (fArgs (stA 5)), (@PySem.FuncBody.stmts (fBody (stA 5))), (fScope (stA 5)), 0, [], .none, .none, .none, .none, none, .none, .none, 0⟩), ⟨[]⟩⟩
noncomputable def o69 (P : Params) : Obj := ⟨(.type "code"), none, (.fields ⟨[(.str ⟨⟨[95, 103, 114, 111, 117, 112, 105, 110, 103, 95, 105, 110, 116, 101, 114, 118, 97, 108, 115]⟩⟩ 258), (.str ⟨⟨[95, 103, 114, 111, 117, 112, 105, 110, 103, 95, 105, 110, 116, 101, 114, 118, 97, 108, 115]⟩⟩ 259), (.str ⟨⟨[47, 99, 108, 97, 105, 109, 47, 99, 117, 116, 46, 112, 121]⟩⟩ 260), (.int 49 0), (.int 1 0), (.int 0 0), (.int 0 0), (.int 35 0), (.ref 64), (.bool true), (.int 181 0), (.ref 65), .none, (.ref 66), (.ref 67), (.ref 68), (.int 264 0), (.int 49 0), (.str ⟨⟨[47, 99, 108, 97, 105, 109, 47, 99, 117, 116, 46, 112, 121]⟩⟩ 265)]⟩), ⟨[]⟩⟩
noncomputable def o70 (P : Params) : Obj := ⟨(.type "function"), none, (.func ⟨⟨⟨[95, 103, 114, 111, 117, 112, 105, 110, 103, 95, 105, 110, 116, 101, 114, 118, 97, 108, 115]⟩⟩, ⟨⟨[95, 103, 114, 111, 117, 112, 105, 110, 103, 95, 105, 110, 116, 101, 114, 118, 97, 108, 115]⟩⟩, (fArgs (stA 5)), (@PySem.FuncBody.stmts (fBody (stA 5))), (fScope (stA 5)), 3, [], .none, .none, .none, (.str ⟨⟨[99, 112, 121, 51, 49, 51, 46, 108, 111, 99, 97, 108, 101]⟩⟩ 247), none, (.ref 69), .none, 0⟩), ⟨[]⟩⟩
noncomputable def o71 (P : Params) : Obj := ⟨(.type "tuple"), none, (.seq ⟨[]⟩ 0), ⟨[]⟩⟩
noncomputable def o72 (P : Params) : Obj := ⟨.none, none, (.fields ⟨[]⟩), ⟨[]⟩⟩
noncomputable def o73 (P : Params) : Obj := ⟨(.type "tuple"), none, (.seq ⟨[(.str ⟨⟨[97]⟩⟩ 272), (.str ⟨⟨[98]⟩⟩ 273)]⟩ 0), ⟨[]⟩⟩
noncomputable def o74 (P : Params) : Obj := ⟨(.type "tuple"), none, (.seq ⟨[]⟩ 0), ⟨[]⟩⟩
noncomputable def o75 (P : Params) : Obj := ⟨.none, none, (.func ⟨⟨⟨[109, 117, 108]⟩⟩, ⟨⟨[109, 117, 108]⟩⟩, (fArgs (stA 7)), (@PySem.FuncBody.stmts (fBody (stA 7))), (fScope (stA 7)), 0, [], .none, .none, .none, .none, none, .none, .none, 0⟩), ⟨[]⟩⟩
noncomputable def o76 (P : Params) : Obj := ⟨(.type "code"), none, (.fields ⟨[(.str ⟨⟨[109, 117, 108]⟩⟩ 269), (.str ⟨⟨[109, 117, 108]⟩⟩ 270), (.str ⟨⟨[47, 99, 108, 97, 105, 109, 47, 99, 117, 116, 46, 112, 121]⟩⟩ 271), (.int 62 0), (.int 2 0), (.int 0 0), (.int 0 0), (.int 3 0), (.ref 71), (.bool true), (.int 181 0), (.ref 72), .none, (.ref 73), (.ref 74), (.ref 75), (.int 274 0), (.int 62 0), (.str ⟨⟨[47, 99, 108, 97, 105, 109, 47, 99, 117, 116, 46, 112, 121]⟩⟩ 275)]⟩), ⟨[]⟩⟩
noncomputable def o77 (P : Params) : Obj := ⟨(.type "function"), none, (.func ⟨⟨⟨[109, 117, 108]⟩⟩, ⟨⟨[109, 117, 108]⟩⟩, (fArgs (stA 7)), (@PySem.FuncBody.stmts (fBody (stA 7))), (fScope (stA 7)), 3, [], .none, .none, .none, (.str ⟨⟨[99, 112, 121, 51, 49, 51, 46, 111, 112, 101, 114, 97, 116, 111, 114]⟩⟩ 267), none, (.ref 76), .none, 0⟩), ⟨[]⟩⟩
noncomputable def o78 (P : Params) : Obj := ⟨(.type "tuple"), none, (.seq ⟨[]⟩ 0), ⟨[]⟩⟩
noncomputable def o79 (P : Params) : Obj := ⟨.none, none, (.fields ⟨[]⟩), ⟨[]⟩⟩
noncomputable def o80 (P : Params) : Obj := ⟨(.type "tuple"), none, (.seq ⟨[(.str ⟨⟨[97]⟩⟩ 280), (.str ⟨⟨[98]⟩⟩ 281), (.str ⟨⟨[109, 115, 103]⟩⟩ 282)]⟩ 0), ⟨[]⟩⟩
noncomputable def o81 (P : Params) : Obj := ⟨(.type "tuple"), none, (.seq ⟨[]⟩ 0), ⟨[]⟩⟩
noncomputable def o82 (P : Params) : Obj := ⟨.none, none, (.func ⟨⟨⟨[99, 111, 110, 99, 97, 116]⟩⟩, ⟨⟨[99, 111, 110, 99, 97, 116]⟩⟩, (fArgs (stA 8)), (@PySem.FuncBody.stmts (fBody (stA 8))), (fScope (stA 8)), 0, [], .none, .none, .none, .none, none, .none, .none, 0⟩), ⟨[]⟩⟩
noncomputable def o83 (P : Params) : Obj := ⟨(.type "code"), none, (.fields ⟨[(.str ⟨⟨[99, 111, 110, 99, 97, 116]⟩⟩ 277), (.str ⟨⟨[99, 111, 110, 99, 97, 116]⟩⟩ 278), (.str ⟨⟨[47, 99, 108, 97, 105, 109, 47, 99, 117, 116, 46, 112, 121]⟩⟩ 279), (.int 64 0), (.int 2 0), (.int 0 0), (.int 0 0), (.int 3 0), (.ref 78), (.bool true), (.int 181 0), (.ref 79), .none, (.ref 80), (.ref 81), (.ref 82), (.int 283 0), (.int 64 0), (.str ⟨⟨[47, 99, 108, 97, 105, 109, 47, 99, 117, 116, 46, 112, 121]⟩⟩ 284)]⟩), ⟨[]⟩⟩
noncomputable def o84 (P : Params) : Obj := ⟨(.type "function"), none, (.func ⟨⟨⟨[99, 111, 110, 99, 97, 116]⟩⟩, ⟨⟨[99, 111, 110, 99, 97, 116]⟩⟩, (fArgs (stA 8)), (@PySem.FuncBody.stmts (fBody (stA 8))), (fScope (stA 8)), 3, [], .none, .none, .none, (.str ⟨⟨[99, 112, 121, 51, 49, 51, 46, 111, 112, 101, 114, 97, 116, 111, 114]⟩⟩ 267), none, (.ref 83), .none, 0⟩), ⟨[]⟩⟩
noncomputable def o85 (P : Params) : Obj := ⟨(.type "tuple"), none, (.seq ⟨[]⟩ 0), ⟨[]⟩⟩
noncomputable def o86 (P : Params) : Obj := ⟨.none, none, (.fields ⟨[]⟩), ⟨[]⟩⟩
noncomputable def o87 (P : Params) : Obj := ⟨(.type "tuple"), none, (.seq ⟨[(.str ⟨⟨[97]⟩⟩ 289), (.str ⟨⟨[98]⟩⟩ 290), (.str ⟨⟨[99, 111, 117, 110, 116]⟩⟩ 291), (.str ⟨⟨[105]⟩⟩ 292)]⟩ 0), ⟨[]⟩⟩
noncomputable def o88 (P : Params) : Obj := ⟨(.type "tuple"), none, (.seq ⟨[]⟩ 0), ⟨[]⟩⟩
noncomputable def o89 (P : Params) : Obj := ⟨.none, none, (.func ⟨⟨⟨[99, 111, 117, 110, 116, 79, 102]⟩⟩, ⟨⟨[99, 111, 117, 110, 116, 79, 102]⟩⟩, (fArgs (stA 9)), (@PySem.FuncBody.stmts (fBody (stA 9))), (fScope (stA 9)), 0, [], .none, .none, .none, .none, none, .none, .none, 0⟩), ⟨[]⟩⟩
noncomputable def o90 (P : Params) : Obj := ⟨(.type "code"), none, (.fields ⟨[(.str ⟨⟨[99, 111, 117, 110, 116, 79, 102]⟩⟩ 286), (.str ⟨⟨[99, 111, 117, 110, 116, 79, 102]⟩⟩ 287), (.str ⟨⟨[47, 99, 108, 97, 105, 109, 47, 99, 117, 116, 46, 112, 121]⟩⟩ 288), (.int 69 0), (.int 2 0), (.int 0 0), (.int 0 0), (.int 3 0), (.ref 85), (.bool true), (.int 181 0), (.ref 86), .none, (.ref 87), (.ref 88), (.ref 89), (.int 293 0), (.int 69 0), (.str ⟨⟨[47, 99, 108, 97, 105, 109, 47, 99, 117, 116, 46, 112, 121]⟩⟩ 294)]⟩), ⟨[]⟩⟩
noncomputable def o91 (P : Params) : Obj := ⟨(.type "function"), none, (.func ⟨⟨⟨[99, 111, 117, 110, 116, 79, 102]⟩⟩, ⟨⟨[99, 111, 117, 110, 116, 79, 102]⟩⟩, (fArgs (stA 9)), (@PySem.FuncBody.stmts (fBody (stA 9))), (fScope (stA 9)), 3, [], .none, .none, .none, (.str ⟨⟨[99, 112, 121, 51, 49, 51, 46, 111, 112, 101, 114, 97, 116, 111, 114]⟩⟩ 267), none, (.ref 90), .none, 0⟩), ⟨[]⟩⟩
noncomputable def o92 (P : Params) : Obj := ⟨(.type "list"), none, (.seq ⟨[(.int 173 298), (.int 847 299), (.int 6150 300), (.int 6155 301), (.int 6156 302), (.int 6157 303), (.int 8203 304), (.int 8204 305), (.int 8205 306), (.int 8288 307), (.int 65279 308)]⟩ 0), ⟨[]⟩⟩
noncomputable def o93 (P : Params) : Obj := ⟨(.type "range"), none, (.fields ⟨[(.int 65024 309), (.int 65040 310), (.int 1 311)]⟩), ⟨[]⟩⟩
noncomputable def o94 (P : Params) : Obj := ⟨(.type "list"), none, (.seq ⟨[(.int 65024 314), (.int 65025 315), (.int 65026 316), (.int 65027 317), (.int 65028 318), (.int 65029 319), (.int 65030 320), (.int 65031 321), (.int 65032 322), (.int 65033 323), (.int 65034 324), (.int 65035 325), (.int 65036 326), (.int 65037 327), (.int 65038 328), (.int 65039 329)]⟩ 18), ⟨[]⟩⟩
noncomputable def o95 (P : Params) : Obj := ⟨(.type "range_iterator"), none, (.fields ⟨[(.int 65040 0), (.int 0 0), (.int 1 0)]⟩), ⟨[]⟩⟩
noncomputable def o96 (P : Params) : Obj := ⟨(.type "tuple"), none, (.seq ⟨[]⟩ 0), ⟨[]⟩⟩
noncomputable def o97 (P : Params) : Obj := ⟨(.type "StopIteration"), none, (.fields ⟨[(.ref 96), .none, .none, .none, (.bool false), .none]⟩), ⟨[]⟩⟩
noncomputable def o98 (P : Params) : Obj := ⟨(.type "list"), none, (.seq ⟨[(.int 173 298), (.int 847 299), (.int 6150 300), (.int 6155 301), (.int 6156 302), (.int 6157 303), (.int 8203 304), (.int 8204 305), (.int 8205 306), (.int 8288 307), (.int 65279 308), (.int 65024 314), (.int 65025 315), (.int 65026 316), (.int 65027 317), (.int 65028 318), (.int 65029 319), (.int 65030 320), (.int 65031 321), (.int 65032 322), (.int 65033 323), (.int 65034 324), (.int 65035 325), (.int 65036 326), (.int 65037 327), (.int 65038 328), (.int 65039 329)]⟩ 0), ⟨[]⟩⟩
noncomputable def o99 (P : Params) : Obj := ⟨(.type "set"), none, (.set ⟨[⟨65024, (.int 65024 314)⟩, ⟨65025, (.int 65025 315)⟩, ⟨65026, (.int 65026 316)⟩, ⟨65027, (.int 65027 317)⟩, ⟨65028, (.int 65028 318)⟩, ⟨65029, (.int 65029 319)⟩, ⟨6150, (.int 6150 300)⟩, ⟨65030, (.int 65030 320)⟩, ⟨65031, (.int 65031 321)⟩, ⟨65032, (.int 65032 322)⟩, ⟨65033, (.int 65033 323)⟩, ⟨6155, (.int 6155 301)⟩, ⟨6156, (.int 6156 302)⟩, ⟨6157, (.int 6157 303)⟩, ⟨8203, (.int 8203 304)⟩, ⟨8204, (.int 8204 305)⟩, ⟨8205, (.int 8205 306)⟩, ⟨65034, (.int 65034 324)⟩, ⟨65035, (.int 65035 325)⟩, ⟨65036, (.int 65036 326)⟩, ⟨65037, (.int 65037 327)⟩, ⟨65038, (.int 65038 328)⟩, ⟨65039, (.int 65039 329)⟩, ⟨173, (.int 173 298)⟩, ⟨847, (.int 847 299)⟩, ⟨8288, (.int 8288 307)⟩, ⟨65279, (.int 65279 308)⟩]⟩ 29 ⟨127, ⟨[0, 1, 2, 3, 4, 5, 6, 7, 8, 9, 10, 11, 12, 13, 14, 15, 16, 17, 18, 19, 20, 21, 22, 45, 79, 96, 127]⟩, ⟨[]⟩, 0, (!P.followText "set-order"), 2, true⟩), ⟨[]⟩⟩
noncomputable def o100 (P : Params) : Obj := ⟨(.type "list_iterator"), none, (.fields ⟨[.none, (.int 27 0)]⟩), ⟨[]⟩⟩
noncomputable def o101 (P : Params) : Obj := ⟨(.type "tuple"), none, (.seq ⟨[]⟩ 0), ⟨[]⟩⟩
noncomputable def o102 (P : Params) : Obj := ⟨(.type "StopIteration"), none, (.fields ⟨[(.ref 101), .none, .none, .none, (.bool false), .none]⟩), ⟨[]⟩⟩
noncomputable def o103 (P : Params) : Obj := ⟨(.type "tuple"), none, (.seq ⟨[]⟩ 0), ⟨[]⟩⟩
noncomputable def o104 (P : Params) : Obj := ⟨.none, none, (.fields ⟨[]⟩), ⟨[]⟩⟩
noncomputable def o105 (P : Params) : Obj := ⟨(.type "tuple"), none, (.seq ⟨[(.str ⟨⟨[99, 111, 100, 101]⟩⟩ 361)]⟩ 0), ⟨[]⟩⟩
noncomputable def o106 (P : Params) : Obj := ⟨(.type "tuple"), none, (.seq ⟨[]⟩ 0), ⟨[]⟩⟩
noncomputable def o107 (P : Params) : Obj := ⟨.none, none, (.func ⟨⟨⟨[105, 110, 95, 116, 97, 98, 108, 101, 95, 98, 49]⟩⟩, ⟨⟨[105, 110, 95, 116, 97, 98, 108, 101, 95, 98, 49]⟩⟩, (fArgs (stA 12)), (@PySem.FuncBody.stmts (fBody (stA 12))), (fScope (stA 12)), 0, [], .none, .none, .none, .none, none, .none, .none, 0⟩), ⟨[]⟩⟩
noncomputable def o108 (P : Params) : Obj := ⟨(.type "code"), none, (.fields ⟨[(.str ⟨⟨[105, 110, 95, 116, 97, 98, 108, 101, 95, 98, 49]⟩⟩ 358), (.str ⟨⟨[105, 110, 95, 116, 97, 98, 108, 101, 95, 98, 49]⟩⟩ 359), (.str ⟨⟨[47, 99, 108, 97, 105, 109, 47, 99, 117, 116, 46, 112, 121]⟩⟩ 360), (.int 77 0), (.int 1 0), (.int 0 0), (.int 0 0), (.int 3 0), (.ref 103), (.bool true), (.int 181 0), (.ref 104), .none, (.ref 105), (.ref 106), (.ref 107), (.int 362 0), (.int 77 0), (.str ⟨⟨[47, 99, 108, 97, 105, 109, 47, 99, 117, 116, 46, 112, 121]⟩⟩ 363)]⟩), ⟨[]⟩⟩
noncomputable def o109 (P : Params) : Obj := ⟨(.type "function"), none, (.func ⟨⟨⟨[105, 110, 95, 116, 97, 98, 108, 101, 95, 98, 49]⟩⟩, ⟨⟨[105, 110, 95, 116, 97, 98, 108, 101, 95, 98, 49]⟩⟩, (fArgs (stA 12)), (@PySem.FuncBody.stmts (fBody (stA 12))), (fScope (stA 12)), 3, [], .none, .none, .none, (.str ⟨⟨[99, 112, 121, 51, 49, 51, 46, 115, 116, 114, 105, 110, 103, 112, 114, 101, 112]⟩⟩ 296), none, (.ref 108), .none, 0⟩), ⟨[]⟩⟩
noncomputable def o149 (P : Params) : Obj := ⟨(.type "tuple"), none, (.seq ⟨[]⟩ 0), ⟨[]⟩⟩
noncomputable def o150 (P : Params) : Obj := ⟨.none, none, (.fields ⟨[]⟩), ⟨[]⟩⟩
noncomputable def o151 (P : Params) : Obj := ⟨(.type "tuple"), none, (.seq ⟨[(.str ⟨⟨[99, 111, 100, 101]⟩⟩ 2319), (.str ⟨⟨[114]⟩⟩ 2320)]⟩ 0), ⟨[]⟩⟩
noncomputable def o152 (P : Params) : Obj := ⟨(.type "tuple"), none, (.seq ⟨[]⟩ 0), ⟨[]⟩⟩
noncomputable def o153 (P : Params) : Obj := ⟨.none, none, (.func ⟨⟨⟨[109, 97, 112, 95, 116, 97, 98, 108, 101, 95, 98, 51]⟩⟩, ⟨⟨[109, 97, 112, 95, 116, 97, 98, 108, 101, 95, 98, 51]⟩⟩, (fArgs (stA 14)), (@PySem.FuncBody.stmts (fBody (stA 14))), (fScope (stA 14)), 0, [], .none, .none, .none, .none, none, .none, .none, 0⟩), ⟨[]⟩⟩
noncomputable def o154 (P : Params) : Obj := ⟨(.type "code"), none, (.fields ⟨[(.str ⟨⟨[109, 97, 112, 95, 116, 97, 98, 108, 101, 95, 98, 51]⟩⟩ 2316), (.str ⟨⟨[109, 97, 112, 95, 116, 97, 98, 108, 101, 95, 98, 51]⟩⟩ 2317), (.str ⟨⟨[47, 99, 108, 97, 105, 109, 47, 99, 117, 116, 46, 112, 121]⟩⟩ 2318), (.int 80 0), (.int 1 0), (.int 0 0), (.int 0 0), (.int 3 0), (.ref 149), (.bool true), (.int 181 0), (.ref 150), .none, (.ref 151), (.ref 152), (.ref 153), (.int 2321 0), (.int 80 0), (.str ⟨⟨[47, 99, 108, 97, 105, 109, 47, 99, 117, 116, 46, 112, 121]⟩⟩ 2322)]⟩), ⟨[]⟩⟩
noncomputable def o155 (P : Params) : Obj := ⟨(.type "function"), none, (.func ⟨⟨⟨[109, 97, 112, 95, 116, 97, 98, 108, 101, 95, 98, 51]⟩⟩, ⟨⟨[109, 97, 112, 95, 116, 97, 98, 108, 101, 95, 98, 51]⟩⟩, (fArgs (stA 14)), (@PySem.FuncBody.stmts (fBody (stA 14))), (fScope (stA 14)), 3, [], .none, .none, .none, (.str ⟨⟨[99, 112, 121, 51, 49, 51, 46, 115, 116, 114, 105, 110, 103, 112, 114, 101, 112]⟩⟩ 296), none, (.ref 154), .none, 0⟩), ⟨[]⟩⟩
noncomputable def o156 (P : Params) : Obj := ⟨(.type "tuple"), none, (.seq ⟨[]⟩ 0), ⟨[]⟩⟩
noncomputable def o157 (P : Params) : Obj := ⟨.none, none, (.fields ⟨[]⟩), ⟨[]⟩⟩
noncomputable def o158 (P : Params) : Obj := ⟨(.type "tuple"), none, (.seq ⟨[(.str ⟨⟨[116, 101, 120, 116]⟩⟩ 2329), (.str ⟨⟨[115, 116, 114, 101, 97, 109]⟩⟩ 2330), (.str ⟨⟨[95, 108, 97, 119, 95, 112, 105, 101, 99, 101]⟩⟩ 2331)]⟩ 0), ⟨[]⟩⟩
noncomputable def o159 (P : Params) : Obj := ⟨(.type "tuple"), none, (.seq ⟨[(.str ⟨⟨[116, 101, 120, 116]⟩⟩ 2332), (.str ⟨⟨[103, 111, 110, 101]⟩⟩ 2333)]⟩ 0), ⟨[]⟩⟩
noncomputable def o160 (P : Params) : Obj := ⟨.none, none, (.func ⟨⟨⟨[95, 108, 97, 119, 95, 108, 101, 120, 101, 114]⟩⟩, ⟨⟨[95, 108, 97, 119, 95, 108, 101, 120, 101, 114]⟩⟩, (fArgs (stA 16)), (@PySem.FuncBody.stmts (fBody (stA 16))), (fScope (stA 16)), 0, [], .none, .none, .none, .none, none, .none, .none, 0⟩), ⟨[]⟩⟩
noncomputable def o161 (P : Params) : Obj := ⟨(.type "code"), none, (.fields ⟨[(.str ⟨⟨[95, 108, 97, 119, 95, 108, 101, 120, 101, 114]⟩⟩ 2326), (.str ⟨⟨[95, 108, 97, 119, 95, 108, 101, 120, 101, 114]⟩⟩ 2327), (.str ⟨⟨[47, 99, 108, 97, 105, 109, 47, 99, 117, 116, 46, 112, 121]⟩⟩ 2328), (.int 86 0), (.int 1 0), (.int 0 0), (.int 0 0), (.int 3 0), (.ref 156), (.bool true), (.int 181 0), (.ref 157), .none, (.ref 158), (.ref 159), (.ref 160), (.int 2334 0), (.int 86 0), (.str ⟨⟨[47, 99, 108, 97, 105, 109, 47, 99, 117, 116, 46, 112, 121]⟩⟩ 2335)]⟩), ⟨[]⟩⟩
noncomputable def o162 (P : Params) : Obj := ⟨(.type "function"), none, (.func ⟨⟨⟨[95, 108, 97, 119, 95, 108, 101, 120, 101, 114]⟩⟩, ⟨⟨[95, 108, 97, 119, 95, 108, 101, 120, 101, 114]⟩⟩, (fArgs (stA 16)), (@PySem.FuncBody.stmts (fBody (stA 16))), (fScope (stA 16)), 3, [], .none, .none, .none, (.str ⟨⟨[108, 97, 119, 95, 116, 112, 48, 48, 52, 49, 95, 48, 49]⟩⟩ 2324), none, (.ref 161), .none, 0⟩), ⟨[]⟩⟩
noncomputable def o163 (P : Params) : Obj := ⟨(.type "tuple"), none, (.seq ⟨[]⟩ 0), ⟨[]⟩⟩
noncomputable def o164 (P : Params) : Obj := ⟨.none, none, (.fields ⟨[]⟩), ⟨[]⟩⟩
noncomputable def o165 (P : Params) : Obj := ⟨(.type "tuple"), none, (.seq ⟨[(.str ⟨⟨[115, 105, 103, 110]⟩⟩ 2340), (.str ⟨⟨[116, 117, 114, 110]⟩⟩ 2341), (.str ⟨⟨[112, 108, 97, 99, 101]⟩⟩ 2342), (.str ⟨⟨[117, 110, 115, 101, 101, 110]⟩⟩ 2343), (.str ⟨⟨[107, 105, 110, 100, 115]⟩⟩ 2344)]⟩ 0), ⟨[]⟩⟩
noncomputable def o166 (P : Params) : Obj := ⟨(.type "tuple"), none, (.seq ⟨[]⟩ 0), ⟨[]⟩⟩
noncomputable def o167 (P : Params) : Obj := ⟨.none, none, (.func ⟨⟨⟨[95, 108, 97, 119, 95, 115, 112, 101, 108, 108, 101, 100]⟩⟩, ⟨⟨[95, 108, 97, 119, 95, 115, 112, 101, 108, 108, 101, 100]⟩⟩, (fArgs (stA 17)), (@PySem.FuncBody.stmts (fBody (stA 17))), (fScope (stA 17)), 0, [], .none, .none, .none, .none, none, .none, .none, 0⟩), ⟨[]⟩⟩
noncomputable def o168 (P : Params) : Obj := ⟨(.type "code"), none, (.fields ⟨[(.str ⟨⟨[95, 108, 97, 119, 95, 115, 112, 101, 108, 108, 101, 100]⟩⟩ 2337), (.str ⟨⟨[95, 108, 97, 119, 95, 115, 112, 101, 108, 108, 101, 100]⟩⟩ 2338), (.str ⟨⟨[47, 99, 108, 97, 105, 109, 47, 99, 117, 116, 46, 112, 121]⟩⟩ 2339), (.int 96 0), (.int 2 0), (.int 0 0), (.int 0 0), (.int 3 0), (.ref 163), (.bool true), (.int 181 0), (.ref 164), .none, (.ref 165), (.ref 166), (.ref 167), (.int 2345 0), (.int 96 0), (.str ⟨⟨[47, 99, 108, 97, 105, 109, 47, 99, 117, 116, 46, 112, 121]⟩⟩ 2346)]⟩), ⟨[]⟩⟩
noncomputable def o169 (P : Params) : Obj := ⟨(.type "function"), none, (.func ⟨⟨⟨[95, 108, 97, 119, 95, 115, 112, 101, 108, 108, 101, 100]⟩⟩, ⟨⟨[95, 108, 97, 119, 95, 115, 112, 101, 108, 108, 101, 100]⟩⟩, (fArgs (stA 17)), (@PySem.FuncBody.stmts (fBody (stA 17))), (fScope (stA 17)), 3, [], .none, .none, .none, (.str ⟨⟨[108, 97, 119, 95, 116, 112, 48, 48, 52, 49, 95, 48, 49]⟩⟩ 2324), none, (.ref 168), .none, 0⟩), ⟨[]⟩⟩
noncomputable def o170 (P : Params) : Obj := ⟨(.type "tuple"), none, (.seq ⟨[]⟩ 0), ⟨[]⟩⟩
noncomputable def o171 (P : Params) : Obj := ⟨.none, none, (.fields ⟨[]⟩), ⟨[]⟩⟩
noncomputable def o172 (P : Params) : Obj := ⟨.none, none, (.func ⟨⟨⟨[95, 108, 97, 119, 95, 119, 114, 105, 116, 116, 101, 110]⟩⟩, ⟨⟨[95, 108, 97, 119, 95, 119, 114, 105, 116, 116, 101, 110]⟩⟩, (fArgs (stA 18)), (@PySem.FuncBody.stmts (fBody (stA 18))), (fScope (stA 18)), 0, [], .none, .none, .none, .none, none, .none, .none, 0⟩), ⟨[]⟩⟩
noncomputable def o173 (P : Params) : Obj := ⟨(.type "code"), none, (.fields ⟨[(.str ⟨⟨[95, 108, 97, 119, 95, 119, 114, 105, 116, 116, 101, 110]⟩⟩ 2348), (.str ⟨⟨[95, 108, 97, 119, 95, 119, 114, 105, 116, 116, 101, 110]⟩⟩ 2349), (.str ⟨⟨[47, 99, 108, 97, 105, 109, 47, 99, 117, 116, 46, 112, 121]⟩⟩ 2350), (.int 107 0), (.int 3 0), (.int 0 0), (.int 0 0), (.int 3 0), (.ref 170), (.bool true), (.int 181 0), (.ref 171), .none, .none, .none, (.ref 172), (.int 2351 0), (.int 107 0), (.str ⟨⟨[47, 99, 108, 97, 105, 109, 47, 99, 117, 116, 46, 112, 121]⟩⟩ 2352)]⟩), ⟨[]⟩⟩
noncomputable def o174 (P : Params) : Obj := ⟨(.type "function"), none, (.func ⟨⟨⟨[95, 108, 97, 119, 95, 119, 114, 105, 116, 116, 101, 110]⟩⟩, ⟨⟨[95, 108, 97, 119, 95, 119, 114, 105, 116, 116, 101, 110]⟩⟩, (fArgs (stA 18)), (@PySem.FuncBody.stmts (fBody (stA 18))), (fScope (stA 18)), 3, [], .none, .none, .none, (.str ⟨⟨[108, 97, 119, 95, 116, 112, 48, 48, 52, 49, 95, 48, 49]⟩⟩ 2324), none, (.ref 173), .none, 0⟩), ⟨[]⟩⟩
noncomputable def o175 (P : Params) : Obj := ⟨(.type "tuple"), none, (.seq ⟨[]⟩ 0), ⟨[]⟩⟩
noncomputable def o176 (P : Params) : Obj := ⟨.none, none, (.fields ⟨[]⟩), ⟨[]⟩⟩
noncomputable def o177 (P : Params) : Obj := ⟨.none, none, (.func ⟨⟨⟨[95, 108, 97, 119, 95, 112, 114, 101, 112, 97, 114, 101, 100]⟩⟩, ⟨⟨[95, 108, 97, 119, 95, 112, 114, 101, 112, 97, 114, 101, 100]⟩⟩, (fArgs (stA 19)), (@PySem.FuncBody.stmts (fBody (stA 19))), (fScope (stA 19)), 0, [], .none, .none, .none, .none, none, .none, .none, 0⟩), ⟨[]⟩⟩
noncomputable def o178 (P : Params) : Obj := ⟨(.type "code"), none, (.fields ⟨[(.str ⟨⟨[95, 108, 97, 119, 95, 112, 114, 101, 112, 97, 114, 101, 100]⟩⟩ 2354), (.str ⟨⟨[95, 108, 97, 119, 95, 112, 114, 101, 112, 97, 114, 101, 100]⟩⟩ 2355), (.str ⟨⟨[47, 99, 108, 97, 105, 109, 47, 99, 117, 116, 46, 112, 121]⟩⟩ 2356), (.int 112 0), (.int 1 0), (.int 0 0), (.int 0 0), (.int 3 0), (.ref 175), (.bool true), (.int 181 0), (.ref 176), .none, .none, .none, (.ref 177), (.int 2357 0), (.int 112 0), (.str ⟨⟨[47, 99, 108, 97, 105, 109, 47, 99, 117, 116, 46, 112, 121]⟩⟩ 2358)]⟩), ⟨[]⟩⟩
noncomputable def o179 (P : Params) : Obj := ⟨(.type "function"), none, (.func ⟨⟨⟨[95, 108, 97, 119, 95, 112, 114, 101, 112, 97, 114, 101, 100]⟩⟩, ⟨⟨[95, 108, 97, 119, 95, 112, 114, 101, 112, 97, 114, 101, 100]⟩⟩, (fArgs (stA 19)), (@PySem.FuncBody.stmts (fBody (stA 19))), (fScope (stA 19)), 3, [], .none, .none, .none, (.str ⟨⟨[108, 97, 119, 95, 116, 112, 48, 48, 52, 49, 95, 48, 49]⟩⟩ 2324), none, (.ref 178), .none, 0⟩), ⟨[]⟩⟩
noncomputable def o180 (P : Params) : Obj := ⟨(.type "tuple"), none, (.seq ⟨[]⟩ 0), ⟨[]⟩⟩
noncomputable def o181 (P : Params) : Obj := ⟨.none, none, (.fields ⟨[]⟩), ⟨[]⟩⟩
noncomputable def o182 (P : Params) : Obj := ⟨(.type "tuple"), none, (.seq ⟨[(.str ⟨⟨[114, 111, 119]⟩⟩ 2363), (.str ⟨⟨[115, 105, 122, 101, 115]⟩⟩ 2364), (.str ⟨⟨[115, 105, 122, 101]⟩⟩ 2365)]⟩ 0), ⟨[]⟩⟩
noncomputable def o183 (P : Params) : Obj := ⟨(.type "tuple"), none, (.seq ⟨[]⟩ 0), ⟨[]⟩⟩
noncomputable def o184 (P : Params) : Obj := ⟨.none, none, (.func ⟨⟨⟨[95, 108, 97, 119, 95, 115, 105, 122, 101, 115]⟩⟩, ⟨⟨[95, 108, 97, 119, 95, 115, 105, 122, 101, 115]⟩⟩, (fArgs (stA 20)), (@PySem.FuncBody.stmts (fBody (stA 20))), (fScope (stA 20)), 0, [], .none, .none, .none, .none, none, .none, .none, 0⟩), ⟨[]⟩⟩
noncomputable def o185 (P : Params) : Obj := ⟨(.type "code"), none, (.fields ⟨[(.str ⟨⟨[95, 108, 97, 119, 95, 115, 105, 122, 101, 115]⟩⟩ 2360), (.str ⟨⟨[95, 108, 97, 119, 95, 115, 105, 122, 101, 115]⟩⟩ 2361), (.str ⟨⟨[47, 99, 108, 97, 105, 109, 47, 99, 117, 116, 46, 112, 121]⟩⟩ 2362), (.int 114 0), (.int 1 0), (.int 0 0), (.int 0 0), (.int 3 0), (.ref 180), (.bool true), (.int 181 0), (.ref 181), .none, (.ref 182), (.ref 183), (.ref 184), (.int 2366 0), (.int 114 0), (.str ⟨⟨[47, 99, 108, 97, 105, 109, 47, 99, 117, 116, 46, 112, 121]⟩⟩ 2367)]⟩), ⟨[]⟩⟩
noncomputable def o186 (P : Params) : Obj := ⟨(.type "function"), none, (.func ⟨⟨⟨[95, 108, 97, 119, 95, 115, 105, 122, 101, 115]⟩⟩, ⟨⟨[95, 108, 97, 119, 95, 115, 105, 122, 101, 115]⟩⟩, (fArgs (stA 20)), (@PySem.FuncBody.stmts (fBody (stA 20))), (fScope (stA 20)), 3, [], .none, .none, .none, (.str ⟨⟨[108, 97, 119, 95, 116, 112, 48, 48, 52, 49, 95, 48, 49]⟩⟩ 2324), none, (.ref 185), .none, 0⟩), ⟨[]⟩⟩
noncomputable def o187 (P : Params) : Obj := ⟨(.type "tuple"), none, (.seq ⟨[]⟩ 0), ⟨[]⟩⟩
noncomputable def o188 (P : Params) : Obj := ⟨.none, none, (.fields ⟨[]⟩), ⟨[]⟩⟩
noncomputable def o189 (P : Params) : Obj := ⟨(.type "tuple"), none, (.seq ⟨[(.str ⟨⟨[116, 101, 120, 116]⟩⟩ 2372), (.str ⟨⟨[115, 105, 122, 101]⟩⟩ 2373), (.str ⟨⟨[109, 105, 100]⟩⟩ 2374), (.str ⟨⟨[108, 111, 119]⟩⟩ 2375), (.str ⟨⟨[116, 111, 112]⟩⟩ 2376), (.str ⟨⟨[119, 111, 114, 100, 115]⟩⟩ 2377), (.str ⟨⟨[109, 111, 114, 101]⟩⟩ 2378), (.str ⟨⟨[108, 97, 115, 116]⟩⟩ 2379), (.str ⟨⟨[102, 114, 111, 110, 116]⟩⟩ 2380)]⟩ 0), ⟨[]⟩⟩
noncomputable def o190 (P : Params) : Obj := ⟨(.type "tuple"), none, (.seq ⟨[]⟩ 0), ⟨[]⟩⟩
noncomputable def o191 (P : Params) : Obj := ⟨.none, none, (.func ⟨⟨⟨[95, 108, 97, 119, 95, 103, 114, 111, 119, 110]⟩⟩, ⟨⟨[95, 108, 97, 119, 95, 103, 114, 111, 119, 110]⟩⟩, (fArgs (stA 21)), (@PySem.FuncBody.stmts (fBody (stA 21))), (fScope (stA 21)), 0, [], .none, .none, .none, .none, none, .none, .none, 0⟩), ⟨[]⟩⟩
noncomputable def o192 (P : Params) : Obj := ⟨(.type "code"), none, (.fields ⟨[(.str ⟨⟨[95, 108, 97, 119, 95, 103, 114, 111, 119, 110]⟩⟩ 2369), (.str ⟨⟨[95, 108, 97, 119, 95, 103, 114, 111, 119, 110]⟩⟩ 2370), (.str ⟨⟨[47, 99, 108, 97, 105, 109, 47, 99, 117, 116, 46, 112, 121]⟩⟩ 2371), (.int 121 0), (.int 2 0), (.int 0 0), (.int 0 0), (.int 3 0), (.ref 187), (.bool true), (.int 181 0), (.ref 188), .none, (.ref 189), (.ref 190), (.ref 191), (.int 2381 0), (.int 121 0), (.str ⟨⟨[47, 99, 108, 97, 105, 109, 47, 99, 117, 116, 46, 112, 121]⟩⟩ 2382)]⟩), ⟨[]⟩⟩
noncomputable def o193 (P : Params) : Obj := ⟨(.type "function"), none, (.func ⟨⟨⟨[95, 108, 97, 119, 95, 103, 114, 111, 119, 110]⟩⟩, ⟨⟨[95, 108, 97, 119, 95, 103, 114, 111, 119, 110]⟩⟩, (fArgs (stA 21)), (@PySem.FuncBody.stmts (fBody (stA 21))), (fScope (stA 21)), 3, [], .none, .none, .none, (.str ⟨⟨[108, 97, 119, 95, 116, 112, 48, 48, 52, 49, 95, 48, 49]⟩⟩ 2324), none, (.ref 192), .none, 0⟩), ⟨[]⟩⟩
noncomputable def o194 (P : Params) : Obj := ⟨(.type "tuple"), none, (.seq ⟨[]⟩ 0), ⟨[]⟩⟩
noncomputable def o195 (P : Params) : Obj := ⟨.none, none, (.fields ⟨[]⟩), ⟨[]⟩⟩
noncomputable def o196 (P : Params) : Obj := ⟨.none, none, (.func ⟨⟨⟨[95, 108, 97, 119, 95, 100, 111, 110, 101]⟩⟩, ⟨⟨[95, 108, 97, 119, 95, 100, 111, 110, 101]⟩⟩, (fArgs (stA 22)), (@PySem.FuncBody.stmts (fBody (stA 22))), (fScope (stA 22)), 0, [], .none, .none, .none, .none, none, .none, .none, 0⟩), ⟨[]⟩⟩
noncomputable def o197 (P : Params) : Obj := ⟨(.type "code"), none, (.fields ⟨[(.str ⟨⟨[95, 108, 97, 119, 95, 100, 111, 110, 101]⟩⟩ 2384), (.str ⟨⟨[95, 108, 97, 119, 95, 100, 111, 110, 101]⟩⟩ 2385), (.str ⟨⟨[47, 99, 108, 97, 105, 109, 47, 99, 117, 116, 46, 112, 121]⟩⟩ 2386), (.int 131 0), (.int 3 0), (.int 0 0), (.int 0 0), (.int 3 0), (.ref 194), (.bool true), (.int 181 0), (.ref 195), .none, .none, .none, (.ref 196), (.int 2387 0), (.int 131 0), (.str ⟨⟨[47, 99, 108, 97, 105, 109, 47, 99, 117, 116, 46, 112, 121]⟩⟩ 2388)]⟩), ⟨[]⟩⟩
noncomputable def o198 (P : Params) : Obj := ⟨(.type "function"), none, (.func ⟨⟨⟨[95, 108, 97, 119, 95, 100, 111, 110, 101]⟩⟩, ⟨⟨[95, 108, 97, 119, 95, 100, 111, 110, 101]⟩⟩, (fArgs (stA 22)), (@PySem.FuncBody.stmts (fBody (stA 22))), (fScope (stA 22)), 3, [], .none, .none, .none, (.str ⟨⟨[108, 97, 119, 95, 116, 112, 48, 48, 52, 49, 95, 48, 49]⟩⟩ 2324), none, (.ref 197), .none, 0⟩), ⟨[]⟩⟩
noncomputable def o199 (P : Params) : Obj := ⟨(.type "tuple"), none, (.seq ⟨[]⟩ 0), ⟨[]⟩⟩
noncomputable def o200 (P : Params) : Obj := ⟨.none, none, (.fields ⟨[]⟩), ⟨[]⟩⟩
noncomputable def o201 (P : Params) : Obj := ⟨(.type "tuple"), none, (.seq ⟨[(.str ⟨⟨[115, 105, 122, 101, 115]⟩⟩ 2393), (.str ⟨⟨[119, 97, 121, 115]⟩⟩ 2394), (.str ⟨⟨[115, 105, 122, 101]⟩⟩ 2395), (.str ⟨⟨[103, 114, 111, 119, 110]⟩⟩ 2396), (.str ⟨⟨[115, 112, 111, 116]⟩⟩ 2397), (.str ⟨⟨[109, 111, 114, 101]⟩⟩ 2398), (.str ⟨⟨[108, 97, 115, 116]⟩⟩ 2399), (.str ⟨⟨[97, 102, 116, 101, 114]⟩⟩ 2400)]⟩ 0), ⟨[]⟩⟩
noncomputable def o202 (P : Params) : Obj := ⟨(.type "tuple"), none, (.seq ⟨[]⟩ 0), ⟨[]⟩⟩
noncomputable def o203 (P : Params) : Obj := ⟨.none, none, (.func ⟨⟨⟨[95, 108, 97, 119, 95, 115, 104, 97, 114, 101, 100]⟩⟩, ⟨⟨[95, 108, 97, 119, 95, 115, 104, 97, 114, 101, 100]⟩⟩, (fArgs (stA 23)), (@PySem.FuncBody.stmts (fBody (stA 23))), (fScope (stA 23)), 0, [], .none, .none, .none, .none, none, .none, .none, 0⟩), ⟨[]⟩⟩
noncomputable def o204 (P : Params) : Obj := ⟨(.type "code"), none, (.fields ⟨[(.str ⟨⟨[95, 108, 97, 119, 95, 115, 104, 97, 114, 101, 100]⟩⟩ 2390), (.str ⟨⟨[95, 108, 97, 119, 95, 115, 104, 97, 114, 101, 100]⟩⟩ 2391), (.str ⟨⟨[47, 99, 108, 97, 105, 109, 47, 99, 117, 116, 46, 112, 121]⟩⟩ 2392), (.int 142 0), (.int 1 0), (.int 0 0), (.int 0 0), (.int 3 0), (.ref 199), (.bool true), (.int 181 0), (.ref 200), .none, (.ref 201), (.ref 202), (.ref 203), (.int 2401 0), (.int 142 0), (.str ⟨⟨[47, 99, 108, 97, 105, 109, 47, 99, 117, 116, 46, 112, 121]⟩⟩ 2402)]⟩), ⟨[]⟩⟩
noncomputable def o205 (P : Params) : Obj := ⟨(.type "function"), none, (.func ⟨⟨⟨[95, 108, 97, 119, 95, 115, 104, 97, 114, 101, 100]⟩⟩, ⟨⟨[95, 108, 97, 119, 95, 115, 104, 97, 114, 101, 100]⟩⟩, (fArgs (stA 23)), (@PySem.FuncBody.stmts (fBody (stA 23))), (fScope (stA 23)), 3, [], .none, .none, .none, (.str ⟨⟨[108, 97, 119, 95, 116, 112, 48, 48, 52, 49, 95, 48, 49]⟩⟩ 2324), none, (.ref 204), .none, 0⟩), ⟨[]⟩⟩
noncomputable def o206 (P : Params) : Obj := ⟨(.type "tuple"), none, (.seq ⟨[]⟩ 0), ⟨[]⟩⟩
noncomputable def o207 (P : Params) : Obj := ⟨.none, none, (.fields ⟨[]⟩), ⟨[]⟩⟩
noncomputable def o208 (P : Params) : Obj := ⟨.none, none, (.func ⟨⟨⟨[95, 108, 97, 119, 95, 111, 102, 116, 101, 110]⟩⟩, ⟨⟨[95, 108, 97, 119, 95, 111, 102, 116, 101, 110]⟩⟩, (fArgs (stA 24)), (@PySem.FuncBody.stmts (fBody (stA 24))), (fScope (stA 24)), 0, [], .none, .none, .none, .none, none, .none, .none, 0⟩), ⟨[]⟩⟩
noncomputable def o209 (P : Params) : Obj := ⟨(.type "code"), none, (.fields ⟨[(.str ⟨⟨[95, 108, 97, 119, 95, 111, 102, 116, 101, 110]⟩⟩ 2404), (.str ⟨⟨[95, 108, 97, 119, 95, 111, 102, 116, 101, 110]⟩⟩ 2405), (.str ⟨⟨[47, 99, 108, 97, 105, 109, 47, 99, 117, 116, 46, 112, 121]⟩⟩ 2406), (.int 153 0), (.int 3 0), (.int 0 0), (.int 0 0), (.int 3 0), (.ref 206), (.bool true), (.int 181 0), (.ref 207), .none, .none, .none, (.ref 208), (.int 2407 0), (.int 153 0), (.str ⟨⟨[47, 99, 108, 97, 105, 109, 47, 99, 117, 116, 46, 112, 121]⟩⟩ 2408)]⟩), ⟨[]⟩⟩
noncomputable def o210 (P : Params) : Obj := ⟨(.type "function"), none, (.func ⟨⟨⟨[95, 108, 97, 119, 95, 111, 102, 116, 101, 110]⟩⟩, ⟨⟨[95, 108, 97, 119, 95, 111, 102, 116, 101, 110]⟩⟩, (fArgs (stA 24)), (@PySem.FuncBody.stmts (fBody (stA 24))), (fScope (stA 24)), 3, [], .none, .none, .none, (.str ⟨⟨[108, 97, 119, 95, 116, 112, 48, 48, 52, 49, 95, 48, 49]⟩⟩ 2324), none, (.ref 209), .none, 0⟩), ⟨[]⟩⟩
noncomputable def o211 (P : Params) : Obj := ⟨(.type "tuple"), none, (.seq ⟨[]⟩ 0), ⟨[]⟩⟩
noncomputable def o212 (P : Params) : Obj := ⟨.none, none, (.fields ⟨[]⟩), ⟨[]⟩⟩
noncomputable def o213 (P : Params) : Obj := ⟨(.type "tuple"), none, (.seq ⟨[(.str ⟨⟨[116, 97, 108, 108]⟩⟩ 2413), (.str ⟨⟨[115, 105, 122, 101, 115]⟩⟩ 2414), (.str ⟨⟨[119, 97, 121, 115]⟩⟩ 2415), (.str ⟨⟨[115, 116, 97, 114, 116]⟩⟩ 2416), (.str ⟨⟨[102, 117, 108, 108]⟩⟩ 2417), (.str ⟨⟨[119, 111, 114, 100, 115]⟩⟩ 2418), (.str ⟨⟨[108, 111, 119]⟩⟩ 2419), (.str ⟨⟨[109, 105, 100]⟩⟩ 2420), (.str ⟨⟨[116, 111, 112]⟩⟩ 2421), (.str ⟨⟨[111, 102, 116, 101, 110]⟩⟩ 2422)]⟩ 0), ⟨[]⟩⟩
noncomputable def o214 (P : Params) : Obj := ⟨(.type "tuple"), none, (.seq ⟨[]⟩ 0), ⟨[]⟩⟩
noncomputable def o215 (P : Params) : Obj := ⟨.none, none, (.func ⟨⟨⟨[95, 108, 97, 119, 95, 116, 111, 108, 100]⟩⟩, ⟨⟨[95, 108, 97, 119, 95, 116, 111, 108, 100]⟩⟩, (fArgs (stA 25)), (@PySem.FuncBody.stmts (fBody (stA 25))), (fScope (stA 25)), 0, [], .none, .none, .none, .none, none, .none, .none, 0⟩), ⟨[]⟩⟩
noncomputable def o216 (P : Params) : Obj := ⟨(.type "code"), none, (.fields ⟨[(.str ⟨⟨[95, 108, 97, 119, 95, 116, 111, 108, 100]⟩⟩ 2410), (.str ⟨⟨[95, 108, 97, 119, 95, 116, 111, 108, 100]⟩⟩ 2411), (.str ⟨⟨[47, 99, 108, 97, 105, 109, 47, 99, 117, 116, 46, 112, 121]⟩⟩ 2412), (.int 164 0), (.int 2 0), (.int 0 0), (.int 0 0), (.int 3 0), (.ref 211), (.bool true), (.int 181 0), (.ref 212), .none, (.ref 213), (.ref 214), (.ref 215), (.int 2423 0), (.int 164 0), (.str ⟨⟨[47, 99, 108, 97, 105, 109, 47, 99, 117, 116, 46, 112, 121]⟩⟩ 2424)]⟩), ⟨[]⟩⟩
noncomputable def o217 (P : Params) : Obj := ⟨(.type "function"), none, (.func ⟨⟨⟨[95, 108, 97, 119, 95, 116, 111, 108, 100]⟩⟩, ⟨⟨[95, 108, 97, 119, 95, 116, 111, 108, 100]⟩⟩, (fArgs (stA 25)), (@PySem.FuncBody.stmts (fBody (stA 25))), (fScope (stA 25)), 3, [], .none, .none, .none, (.str ⟨⟨[108, 97, 119, 95, 116, 112, 48, 48, 52, 49, 95, 48, 49]⟩⟩ 2324), none, (.ref 216), .none, 0⟩), ⟨[]⟩⟩
noncomputable def o218 (P : Params) : Obj := ⟨(.type "tuple"), none, (.seq ⟨[]⟩ 0), ⟨[]⟩⟩
noncomputable def o219 (P : Params) : Obj := ⟨.none, none, (.fields ⟨[]⟩), ⟨[]⟩⟩
noncomputable def o220 (P : Params) : Obj := ⟨.none, none, (.func ⟨⟨⟨[108, 97, 119]⟩⟩, ⟨⟨[108, 97, 119]⟩⟩, (fArgs (stA 26)), (@PySem.FuncBody.stmts (fBody (stA 26))), (fScope (stA 26)), 0, [], .none, .none, .none, .none, none, .none, .none, 0⟩), ⟨[]⟩⟩
noncomputable def o221 (P : Params) : Obj := ⟨(.type "code"), none, (.fields ⟨[(.str ⟨⟨[108, 97, 119]⟩⟩ 2426), (.str ⟨⟨[108, 97, 119]⟩⟩ 2427), (.str ⟨⟨[47, 99, 108, 97, 105, 109, 47, 99, 117, 116, 46, 112, 121]⟩⟩ 2428), (.int 175 0), (.int 1 0), (.int 0 0), (.int 0 0), (.int 3 0), (.ref 218), (.bool true), (.int 181 0), (.ref 219), .none, .none, .none, (.ref 220), (.int 2429 0), (.int 175 0), (.str ⟨⟨[47, 99, 108, 97, 105, 109, 47, 99, 117, 116, 46, 112, 121]⟩⟩ 2430)]⟩), ⟨[]⟩⟩
noncomputable def o222 (P : Params) : Obj := ⟨(.type "function"), none, (.func ⟨⟨⟨[108, 97, 119]⟩⟩, ⟨⟨[108, 97, 119]⟩⟩, (fArgs (stA 26)), (@PySem.FuncBody.stmts (fBody (stA 26))), (fScope (stA 26)), 3, [], .none, .none, .none, (.str ⟨⟨[108, 97, 119, 95, 116, 112, 48, 48, 52, 49, 95, 48, 49]⟩⟩ 2324), none, (.ref 221), .none, 0⟩), ⟨[]⟩⟩
noncomputable def o12_I (P : Params) : Obj := ⟨.none, none, (.fields ⟨[]⟩), ⟨[]⟩⟩
noncomputable def o3_A (P : Params) : Obj := ⟨(.type "dict"), none, (.dict ⟨[⟨(@PySem.PyData.keyHash P ⟨⟨[95, 95, 110, 97, 109, 101, 95, 95]⟩⟩), (.str ⟨⟨[95, 95, 110, 97, 109, 101, 95, 95]⟩⟩ 165), (.str ⟨⟨[99, 112, 121, 51, 49, 51, 46, 115, 116, 114, 105, 110, 103, 112, 114, 101, 112]⟩⟩ 296)⟩, ⟨(@PySem.PyData.keyHash P ⟨⟨[95, 95, 100, 111, 99, 95, 95]⟩⟩), (.str ⟨⟨[95, 95, 100, 111, 99, 95, 95]⟩⟩ 166), .none⟩, ⟨(@PySem.PyData.keyHash P ⟨⟨[95, 95, 112, 97, 99, 107, 97, 103, 101, 95, 95]⟩⟩), (.str ⟨⟨[95, 95, 112, 97, 99, 107, 97, 103, 101, 95, 95]⟩⟩ 167), .none⟩, ⟨(@PySem.PyData.keyHash P ⟨⟨[95, 95, 108, 111, 97, 100, 101, 114, 95, 95]⟩⟩), (.str ⟨⟨[95, 95, 108, 111, 97, 100, 101, 114, 95, 95]⟩⟩ 168), (.builtin "__main__.__loader__#opaque")⟩, ⟨(@PySem.PyData.keyHash P ⟨⟨[95, 95, 115, 112, 101, 99, 95, 95]⟩⟩), (.str ⟨⟨[95, 95, 115, 112, 101, 99, 95, 95]⟩⟩ 169), .none⟩, ⟨(@PySem.PyData.keyHash P ⟨⟨[95, 95, 97, 110, 110, 111, 116, 97, 116, 105, 111, 110, 115, 95, 95]⟩⟩), (.str ⟨⟨[95, 95, 97, 110, 110, 111, 116, 97, 116, 105, 111, 110, 115, 95, 95]⟩⟩ 170), (.ref 6)⟩, ⟨(@PySem.PyData.keyHash P ⟨⟨[95, 95, 98, 117, 105, 108, 116, 105, 110, 115, 95, 95]⟩⟩), (.str ⟨⟨[95, 95, 98, 117, 105, 108, 116, 105, 110, 115, 95, 95]⟩⟩ 171), (.ref 4)⟩, ⟨(@PySem.PyData.keyHash P ⟨⟨[95, 95, 102, 105, 108, 101, 95, 95]⟩⟩), (.str ⟨⟨[95, 95, 102, 105, 108, 101, 95, 95]⟩⟩ 173), (.str ⟨⟨[47, 99, 108, 97, 105, 109, 47, 99, 117, 116, 46, 112, 121]⟩⟩ 172)⟩, ⟨(@PySem.PyData.keyHash P ⟨⟨[95, 95, 99, 97, 99, 104, 101, 100, 95, 95]⟩⟩), (.str ⟨⟨[95, 95, 99, 97, 99, 104, 101, 100, 95, 95]⟩⟩ 174), .none⟩, ⟨(@PySem.PyData.keyHash P ⟨⟨[95, 110, 101, 116, 114, 99, 108, 101, 120]⟩⟩), (.str ⟨⟨[95, 110, 101, 116, 114, 99, 108, 101, 120]⟩⟩ 246), (.ref 52)⟩, ⟨(@PySem.PyData.keyHash P ⟨⟨[95, 115, 116, 114, 120, 102, 114, 109]⟩⟩), (.str ⟨⟨[95, 115, 116, 114, 120, 102, 114, 109]⟩⟩ 255), (.ref 63)⟩, ⟨(@PySem.PyData.keyHash P ⟨⟨[67, 72, 65, 82, 95, 77, 65, 88]⟩⟩), (.str ⟨⟨[67, 72, 65, 82, 95, 77, 65, 88]⟩⟩ 257), (.int 127 256)⟩, ⟨(@PySem.PyData.keyHash P ⟨⟨[95, 103, 114, 111, 117, 112, 105, 110, 103, 95, 105, 110, 116, 101, 114, 118, 97, 108, 115]⟩⟩), (.str ⟨⟨[95, 103, 114, 111, 117, 112, 105, 110, 103, 95, 105, 110, 116, 101, 114, 118, 97, 108, 115]⟩⟩ 266), (.ref 70)⟩, ⟨(@PySem.PyData.keyHash P ⟨⟨[109, 117, 108]⟩⟩), (.str ⟨⟨[109, 117, 108]⟩⟩ 276), (.ref 77)⟩, ⟨(@PySem.PyData.keyHash P ⟨⟨[99, 111, 110, 99, 97, 116]⟩⟩), (.str ⟨⟨[99, 111, 110, 99, 97, 116]⟩⟩ 285), (.ref 84)⟩, ⟨(@PySem.PyData.keyHash P ⟨⟨[99, 111, 117, 110, 116, 79, 102]⟩⟩), (.str ⟨⟨[99, 111, 117, 110, 116, 79, 102]⟩⟩ 295), (.ref 91)⟩]⟩ 16), ⟨[]⟩⟩
noncomputable def o12_A (P : Params) : Obj := ⟨.none, none, (.fields ⟨[(.int 2 0), (.int 0 0), (.ref 20), (.int 46 0), (.int 0 0), (.ref 62), (.int 49 0), (.int 0 0), (.ref 69), (.int 62 0), (.int 0 0), (.ref 76), (.int 64 0), (.int 0 0), (.ref 83), (.int 69 0), (.int 0 0), (.ref 90)]⟩), ⟨[]⟩⟩
noncomputable def o3_B (P : Params) : Obj := ⟨(.type "dict"), none, (.dict ⟨[⟨(@PySem.PyData.keyHash P ⟨⟨[95, 95, 110, 97, 109, 101, 95, 95]⟩⟩), (.str ⟨⟨[95, 95, 110, 97, 109, 101, 95, 95]⟩⟩ 165), (.str ⟨⟨[99, 112, 121, 51, 49, 51, 46, 115, 116, 114, 105, 110, 103, 112, 114, 101, 112]⟩⟩ 296)⟩, ⟨(@PySem.PyData.keyHash P ⟨⟨[95, 95, 100, 111, 99, 95, 95]⟩⟩), (.str ⟨⟨[95, 95, 100, 111, 99, 95, 95]⟩⟩ 166), .none⟩, ⟨(@PySem.PyData.keyHash P ⟨⟨[95, 95, 112, 97, 99, 107, 97, 103, 101, 95, 95]⟩⟩), (.str ⟨⟨[95, 95, 112, 97, 99, 107, 97, 103, 101, 95, 95]⟩⟩ 167), .none⟩, ⟨(@PySem.PyData.keyHash P ⟨⟨[95, 95, 108, 111, 97, 100, 101, 114, 95, 95]⟩⟩), (.str ⟨⟨[95, 95, 108, 111, 97, 100, 101, 114, 95, 95]⟩⟩ 168), (.builtin "__main__.__loader__#opaque")⟩, ⟨(@PySem.PyData.keyHash P ⟨⟨[95, 95, 115, 112, 101, 99, 95, 95]⟩⟩), (.str ⟨⟨[95, 95, 115, 112, 101, 99, 95, 95]⟩⟩ 169), .none⟩, ⟨(@PySem.PyData.keyHash P ⟨⟨[95, 95, 97, 110, 110, 111, 116, 97, 116, 105, 111, 110, 115, 95, 95]⟩⟩), (.str ⟨⟨[95, 95, 97, 110, 110, 111, 116, 97, 116, 105, 111, 110, 115, 95, 95]⟩⟩ 170), (.ref 6)⟩, ⟨(@PySem.PyData.keyHash P ⟨⟨[95, 95, 98, 117, 105, 108, 116, 105, 110, 115, 95, 95]⟩⟩), (.str ⟨⟨[95, 95, 98, 117, 105, 108, 116, 105, 110, 115, 95, 95]⟩⟩ 171), (.ref 4)⟩, ⟨(@PySem.PyData.keyHash P ⟨⟨[95, 95, 102, 105, 108, 101, 95, 95]⟩⟩), (.str ⟨⟨[95, 95, 102, 105, 108, 101, 95, 95]⟩⟩ 173), (.str ⟨⟨[47, 99, 108, 97, 105, 109, 47, 99, 117, 116, 46, 112, 121]⟩⟩ 172)⟩, ⟨(@PySem.PyData.keyHash P ⟨⟨[95, 95, 99, 97, 99, 104, 101, 100, 95, 95]⟩⟩), (.str ⟨⟨[95, 95, 99, 97, 99, 104, 101, 100, 95, 95]⟩⟩ 174), .none⟩, ⟨(@PySem.PyData.keyHash P ⟨⟨[95, 110, 101, 116, 114, 99, 108, 101, 120]⟩⟩), (.str ⟨⟨[95, 110, 101, 116, 114, 99, 108, 101, 120]⟩⟩ 246), (.ref 52)⟩, ⟨(@PySem.PyData.keyHash P ⟨⟨[95, 115, 116, 114, 120, 102, 114, 109]⟩⟩), (.str ⟨⟨[95, 115, 116, 114, 120, 102, 114, 109]⟩⟩ 255), (.ref 63)⟩, ⟨(@PySem.PyData.keyHash P ⟨⟨[67, 72, 65, 82, 95, 77, 65, 88]⟩⟩), (.str ⟨⟨[67, 72, 65, 82, 95, 77, 65, 88]⟩⟩ 257), (.int 127 256)⟩, ⟨(@PySem.PyData.keyHash P ⟨⟨[95, 103, 114, 111, 117, 112, 105, 110, 103, 95, 105, 110, 116, 101, 114, 118, 97, 108, 115]⟩⟩), (.str ⟨⟨[95, 103, 114, 111, 117, 112, 105, 110, 103, 95, 105, 110, 116, 101, 114, 118, 97, 108, 115]⟩⟩ 266), (.ref 70)⟩, ⟨(@PySem.PyData.keyHash P ⟨⟨[109, 117, 108]⟩⟩), (.str ⟨⟨[109, 117, 108]⟩⟩ 276), (.ref 77)⟩, ⟨(@PySem.PyData.keyHash P ⟨⟨[99, 111, 110, 99, 97, 116]⟩⟩), (.str ⟨⟨[99, 111, 110, 99, 97, 116]⟩⟩ 285), (.ref 84)⟩, ⟨(@PySem.PyData.keyHash P ⟨⟨[99, 111, 117, 110, 116, 79, 102]⟩⟩), (.str ⟨⟨[99, 111, 117, 110, 116, 79, 102]⟩⟩ 295), (.ref 91)⟩, ⟨(@PySem.PyData.keyHash P ⟨⟨[98, 49, 95, 115, 101, 116]⟩⟩), (.str ⟨⟨[98, 49, 95, 115, 101, 116]⟩⟩ 357), (.ref 99)⟩, ⟨(@PySem.PyData.keyHash P ⟨⟨[105, 110, 95, 116, 97, 98, 108, 101, 95, 98, 49]⟩⟩), (.str ⟨⟨[105, 110, 95, 116, 97, 98, 108, 101, 95, 98, 49]⟩⟩ 364), (.ref 109)⟩]⟩ 18), ⟨[]⟩⟩
noncomputable def o12_B (P : Params) : Obj := ⟨.none, none, (.fields ⟨[(.int 2 0), (.int 0 0), (.ref 20), (.int 46 0), (.int 0 0), (.ref 62), (.int 49 0), (.int 0 0), (.ref 69), (.int 62 0), (.int 0 0), (.ref 76), (.int 64 0), (.int 0 0), (.ref 83), (.int 69 0), (.int 0 0), (.ref 90), (.int 77 0), (.int 0 0), (.ref 108)]⟩), ⟨[]⟩⟩
noncomputable def o3_C (P : Params) : Obj := ⟨(.type "dict"), none, (.dict ⟨[⟨(@PySem.PyData.keyHash P ⟨⟨[95, 95, 110, 97, 109, 101, 95, 95]⟩⟩), (.str ⟨⟨[95, 95, 110, 97, 109, 101, 95, 95]⟩⟩ 165), (.str ⟨⟨[99, 112, 121, 51, 49, 51, 46, 115, 116, 114, 105, 110, 103, 112, 114, 101, 112]⟩⟩ 296)⟩, ⟨(@PySem.PyData.keyHash P ⟨⟨[95, 95, 100, 111, 99, 95, 95]⟩⟩), (.str ⟨⟨[95, 95, 100, 111, 99, 95, 95]⟩⟩ 166), .none⟩, ⟨(@PySem.PyData.keyHash P ⟨⟨[95, 95, 112, 97, 99, 107, 97, 103, 101, 95, 95]⟩⟩), (.str ⟨⟨[95, 95, 112, 97, 99, 107, 97, 103, 101, 95, 95]⟩⟩ 167), .none⟩, ⟨(@PySem.PyData.keyHash P ⟨⟨[95, 95, 108, 111, 97, 100, 101, 114, 95, 95]⟩⟩), (.str ⟨⟨[95, 95, 108, 111, 97, 100, 101, 114, 95, 95]⟩⟩ 168), (.builtin "__main__.__loader__#opaque")⟩, ⟨(@PySem.PyData.keyHash P ⟨⟨[95, 95, 115, 112, 101, 99, 95, 95]⟩⟩), (.str ⟨⟨[95, 95, 115, 112, 101, 99, 95, 95]⟩⟩ 169), .none⟩, ⟨(@PySem.PyData.keyHash P ⟨⟨[95, 95, 97, 110, 110, 111, 116, 97, 116, 105, 111, 110, 115, 95, 95]⟩⟩), (.str ⟨⟨[95, 95, 97, 110, 110, 111, 116, 97, 116, 105, 111, 110, 115, 95, 95]⟩⟩ 170), (.ref 6)⟩, ⟨(@PySem.PyData.keyHash P ⟨⟨[95, 95, 98, 117, 105, 108, 116, 105, 110, 115, 95, 95]⟩⟩), (.str ⟨⟨[95, 95, 98, 117, 105, 108, 116, 105, 110, 115, 95, 95]⟩⟩ 171), (.ref 4)⟩, ⟨(@PySem.PyData.keyHash P ⟨⟨[95, 95, 102, 105, 108, 101, 95, 95]⟩⟩), (.str ⟨⟨[95, 95, 102, 105, 108, 101, 95, 95]⟩⟩ 173), (.str ⟨⟨[47, 99, 108, 97, 105, 109, 47, 99, 117, 116, 46, 112, 121]⟩⟩ 172)⟩, ⟨(@PySem.PyData.keyHash P ⟨⟨[95, 95, 99, 97, 99, 104, 101, 100, 95, 95]⟩⟩), (.str ⟨⟨[95, 95, 99, 97, 99, 104, 101, 100, 95, 95]⟩⟩ 174), .none⟩, ⟨(@PySem.PyData.keyHash P ⟨⟨[95, 110, 101, 116, 114, 99, 108, 101, 120]⟩⟩), (.str ⟨⟨[95, 110, 101, 116, 114, 99, 108, 101, 120]⟩⟩ 246), (.ref 52)⟩, ⟨(@PySem.PyData.keyHash P ⟨⟨[95, 115, 116, 114, 120, 102, 114, 109]⟩⟩), (.str ⟨⟨[95, 115, 116, 114, 120, 102, 114, 109]⟩⟩ 255), (.ref 63)⟩, ⟨(@PySem.PyData.keyHash P ⟨⟨[67, 72, 65, 82, 95, 77, 65, 88]⟩⟩), (.str ⟨⟨[67, 72, 65, 82, 95, 77, 65, 88]⟩⟩ 257), (.int 127 256)⟩, ⟨(@PySem.PyData.keyHash P ⟨⟨[95, 103, 114, 111, 117, 112, 105, 110, 103, 95, 105, 110, 116, 101, 114, 118, 97, 108, 115]⟩⟩), (.str ⟨⟨[95, 103, 114, 111, 117, 112, 105, 110, 103, 95, 105, 110, 116, 101, 114, 118, 97, 108, 115]⟩⟩ 266), (.ref 70)⟩, ⟨(@PySem.PyData.keyHash P ⟨⟨[109, 117, 108]⟩⟩), (.str ⟨⟨[109, 117, 108]⟩⟩ 276), (.ref 77)⟩, ⟨(@PySem.PyData.keyHash P ⟨⟨[99, 111, 110, 99, 97, 116]⟩⟩), (.str ⟨⟨[99, 111, 110, 99, 97, 116]⟩⟩ 285), (.ref 84)⟩, ⟨(@PySem.PyData.keyHash P ⟨⟨[99, 111, 117, 110, 116, 79, 102]⟩⟩), (.str ⟨⟨[99, 111, 117, 110, 116, 79, 102]⟩⟩ 295), (.ref 91)⟩, ⟨(@PySem.PyData.keyHash P ⟨⟨[98, 49, 95, 115, 101, 116]⟩⟩), (.str ⟨⟨[98, 49, 95, 115, 101, 116]⟩⟩ 357), (.ref 99)⟩, ⟨(@PySem.PyData.keyHash P ⟨⟨[105, 110, 95, 116, 97, 98, 108, 101, 95, 98, 49]⟩⟩), (.str ⟨⟨[105, 110, 95, 116, 97, 98, 108, 101, 95, 98, 49]⟩⟩ 364), (.ref 109)⟩, ⟨(@PySem.PyData.keyHash P ⟨⟨[98, 51, 95, 101, 120, 99, 101, 112, 116, 105, 111, 110, 115]⟩⟩), (.str ⟨⟨[98, 51, 95, 101, 120, 99, 101, 112, 116, 105, 111, 110, 115]⟩⟩ 2315), (.ref 110)⟩]⟩ 19), ⟨[]⟩⟩
noncomputable def o12_C (P : Params) : Obj := ⟨.none, none, (.fields ⟨[(.int 2 0), (.int 0 0), (.ref 20), (.int 46 0), (.int 0 0), (.ref 62), (.int 49 0), (.int 0 0), (.ref 69), (.int 62 0), (.int 0 0), (.ref 76), (.int 64 0), (.int 0 0), (.ref 83), (.int 69 0), (.int 0 0), (.ref 90), (.int 77 0), (.int 0 0), (.ref 108)]⟩), ⟨[]⟩⟩
noncomputable def TI (P : Params) : ET := (.node (some (boot_o_0 P)) (.node (some (boot_o_1 P)) (.node (some (boot_o_3 P)) (.node (some (boot_o_7 P)) .nil .nil) (.node (some (o11 P)) .nil .nil)) (.node (some (boot_o_5 P)) (.node (some (boot_o_9 P)) .nil .nil) (.node (some (o13 P)) .nil .nil))) (.node (some (boot_o_2 P)) (.node (some (boot_o_4 P)) (.node (some (boot_o_8 P)) .nil .nil) (.node (some (o12_I P)) .nil .nil)) (.node (some (boot_o_6 P)) (.node (some (boot_o_10 P)) .nil .nil) (.node (some (o14 P)) .nil .nil))))
noncomputable def KI (P : Params) : KS := ⟨TI P, 15, 187⟩
noncomputable def TA (P : Params) : ET := (.node (some (boot_o_0 P)) (.node (some (boot_o_1 P)) (.node (some (o3_A P)) (.node (some (boot_o_7 P)) (.node (some (o15 P)) (.node (some (o31 P)) (.node (some (o63 P)) .nil .nil) .nil) (.node (some (o47 P)) (.node (some (o79 P)) .nil .nil) .nil)) (.node (some (o23 P)) (.node (some (o39 P)) (.node (some (o71 P)) .nil .nil) .nil) (.node (some (o55 P)) (.node (some (o87 P)) .nil .nil) .nil))) (.node (some (o11 P)) (.node (some (o19 P)) (.node (some (o35 P)) (.node (some (o67 P)) .nil .nil) .nil) (.node (some (o51 P)) (.node (some (o83 P)) .nil .nil) .nil)) (.node (some (o27 P)) (.node (some (o43 P)) (.node (some (o75 P)) .nil .nil) .nil) (.node (some (o59 P)) (.node (some (o91 P)) .nil .nil) .nil)))) (.node (some (boot_o_5 P)) (.node (some (boot_o_9 P)) (.node (some (o17 P)) (.node (some (o33 P)) (.node (some (o65 P)) .nil .nil) .nil) (.node (some (o49 P)) (.node (some (o81 P)) .nil .nil) .nil)) (.node (some (o25 P)) (.node (some (o41 P)) (.node (some (o73 P)) .nil .nil) .nil) (.node (some (o57 P)) (.node (some (o89 P)) .nil .nil) .nil))) (.node (some (o13 P)) (.node (some (o21 P)) (.node (some (o37 P)) (.node (some (o69 P)) .nil .nil) .nil) (.node (some (o53 P)) (.node (some (o85 P)) .nil .nil) .nil)) (.node (some (o29 P)) (.node (some (o45 P)) (.node (some (o77 P)) .nil .nil) .nil) (.node (some (o61 P)) .nil .nil))))) (.node (some (boot_o_2 P)) (.node (some (boot_o_4 P)) (.node (some (boot_o_8 P)) (.node (some (o16 P)) (.node (some (o32 P)) (.node (some (o64 P)) .nil .nil) .nil) (.node (some (o48 P)) (.node (some (o80 P)) .nil .nil) .nil)) (.node (some (o24 P)) (.node (some (o40 P)) (.node (some (o72 P)) .nil .nil) .nil) (.node (some (o56 P)) (.node (some (o88 P)) .nil .nil) .nil))) (.node (some (o12_A P)) (.node (some (o20 P)) (.node (some (o36 P)) (.node (some (o68 P)) .nil .nil) .nil) (.node (some (o52 P)) (.node (some (o84 P)) .nil .nil) .nil)) (.node (some (o28 P)) (.node (some (o44 P)) (.node (some (o76 P)) .nil .nil) .nil) (.node (some (o60 P)) .nil .nil)))) (.node (some (boot_o_6 P)) (.node (some (boot_o_10 P)) (.node (some (o18 P)) (.node (some (o34 P)) (.node (some (o66 P)) .nil .nil) .nil) (.node (some (o50 P)) (.node (some (o82 P)) .nil .nil) .nil)) (.node (some (o26 P)) (.node (some (o42 P)) (.node (some (o74 P)) .nil .nil) .nil) (.node (some (o58 P)) (.node (some (o90 P)) .nil .nil) .nil))) (.node (some (o14 P)) (.node (some (o22 P)) (.node (some (o38 P)) (.node (some (o70 P)) .nil .nil) .nil) (.node (some (o54 P)) (.node (some (o86 P)) .nil .nil) .nil)) (.node (some (o30 P)) (.node (some (o46 P)) (.node (some (o78 P)) .nil .nil) .nil) (.node (some (o62 P)) .nil .nil))))))
noncomputable def KA (P : Params) : KS := ⟨TA P, 92, 298⟩
noncomputable def TB (P : Params) : ET := (.node (some (boot_o_0 P)) (.node (some (boot_o_1 P)) (.node (some (o3_B P)) (.node (some (boot_o_7 P)) (.node (some (o15 P)) (.node (some (o31 P)) (.node (some (o63 P)) .nil .nil) (.node (some (o95 P)) .nil .nil)) (.node (some (o47 P)) (.node (some (o79 P)) .nil .nil) .nil)) (.node (some (o23 P)) (.node (some (o39 P)) (.node (some (o71 P)) .nil .nil) (.node (some (o103 P)) .nil .nil)) (.node (some (o55 P)) (.node (some (o87 P)) .nil .nil) .nil))) (.node (some (o11 P)) (.node (some (o19 P)) (.node (some (o35 P)) (.node (some (o67 P)) .nil .nil) (.node (some (o99 P)) .nil .nil)) (.node (some (o51 P)) (.node (some (o83 P)) .nil .nil) .nil)) (.node (some (o27 P)) (.node (some (o43 P)) (.node (some (o75 P)) .nil .nil) (.node (some (o107 P)) .nil .nil)) (.node (some (o59 P)) (.node (some (o91 P)) .nil .nil) .nil)))) (.node (some (boot_o_5 P)) (.node (some (boot_o_9 P)) (.node (some (o17 P)) (.node (some (o33 P)) (.node (some (o65 P)) .nil .nil) (.node (some (o97 P)) .nil .nil)) (.node (some (o49 P)) (.node (some (o81 P)) .nil .nil) .nil)) (.node (some (o25 P)) (.node (some (o41 P)) (.node (some (o73 P)) .nil .nil) (.node (some (o105 P)) .nil .nil)) (.node (some (o57 P)) (.node (some (o89 P)) .nil .nil) .nil))) (.node (some (o13 P)) (.node (some (o21 P)) (.node (some (o37 P)) (.node (some (o69 P)) .nil .nil) (.node (some (o101 P)) .nil .nil)) (.node (some (o53 P)) (.node (some (o85 P)) .nil .nil) .nil)) (.node (some (o29 P)) (.node (some (o45 P)) (.node (some (o77 P)) .nil .nil) (.node (some (o109 P)) .nil .nil)) (.node (some (o61 P)) (.node (some (o93 P)) .nil .nil) .nil))))) (.node (some (boot_o_2 P)) (.node (some (boot_o_4 P)) (.node (some (boot_o_8 P)) (.node (some (o16 P)) (.node (some (o32 P)) (.node (some (o64 P)) .nil .nil) (.node (some (o96 P)) .nil .nil)) (.node (some (o48 P)) (.node (some (o80 P)) .nil .nil) .nil)) (.node (some (o24 P)) (.node (some (o40 P)) (.node (some (o72 P)) .nil .nil) (.node (some (o104 P)) .nil .nil)) (.node (some (o56 P)) (.node (some (o88 P)) .nil .nil) .nil))) (.node (some (o12_B P)) (.node (some (o20 P)) (.node (some (o36 P)) (.node (some (o68 P)) .nil .nil) (.node (some (o100 P)) .nil .nil)) (.node (some (o52 P)) (.node (some (o84 P)) .nil .nil) .nil)) (.node (some (o28 P)) (.node (some (o44 P)) (.node (some (o76 P)) .nil .nil) (.node (some (o108 P)) .nil .nil)) (.node (some (o60 P)) (.node (some (o92 P)) .nil .nil) .nil)))) (.node (some (boot_o_6 P)) (.node (some (boot_o_10 P)) (.node (some (o18 P)) (.node (some (o34 P)) (.node (some (o66 P)) .nil .nil) (.node (some (o98 P)) .nil .nil)) (.node (some (o50 P)) (.node (some (o82 P)) .nil .nil) .nil)) (.node (some (o26 P)) (.node (some (o42 P)) (.node (some (o74 P)) .nil .nil) (.node (some (o106 P)) .nil .nil)) (.node (some (o58 P)) (.node (some (o90 P)) .nil .nil) .nil))) (.node (some (o14 P)) (.node (some (o22 P)) (.node (some (o38 P)) (.node (some (o70 P)) .nil .nil) (.node (some (o102 P)) .nil .nil)) (.node (some (o54 P)) (.node (some (o86 P)) .nil .nil) .nil)) (.node (some (o30 P)) (.node (some (o46 P)) (.node (some (o78 P)) .nil .nil) .nil) (.node (some (o62 P)) (.node (some (o94 P)) .nil .nil) .nil))))))
noncomputable def KB (P : Params) : KS := ⟨TB P, 110, 365⟩
noncomputable def TC (P : Params) : ET := (.node (some (boot_o_0 P)) (.node (some (boot_o_1 P)) (.node (some (o3_C P)) (.node (some (boot_o_7 P)) (.node (some (o15 P)) (.node (some (o31 P)) (.node (some (o63 P)) (.node none .nil .nil) .nil) (.node (some (o95 P)) .nil .nil)) (.node (some (o47 P)) (.node (some (o79 P)) (.node none .nil .nil) .nil) (.node none .nil .nil))) (.node (some (o23 P)) (.node (some (o39 P)) (.node (some (o71 P)) (.node none .nil .nil) .nil) (.node (some (o103 P)) .nil .nil)) (.node (some (o55 P)) (.node (some (o87 P)) .nil .nil) (.node none .nil .nil)))) (.node (some (o11 P)) (.node (some (o19 P)) (.node (some (o35 P)) (.node (some (o67 P)) (.node none .nil .nil) .nil) (.node (some (o99 P)) .nil .nil)) (.node (some (o51 P)) (.node (some (o83 P)) (.node none .nil .nil) .nil) (.node none .nil .nil))) (.node (some (o27 P)) (.node (some (o43 P)) (.node (some (o75 P)) (.node none .nil .nil) .nil) (.node (some (o107 P)) .nil .nil)) (.node (some (o59 P)) (.node (some (o91 P)) .nil .nil) (.node none .nil .nil))))) (.node (some (boot_o_5 P)) (.node (some (boot_o_9 P)) (.node (some (o17 P)) (.node (some (o33 P)) (.node (some (o65 P)) (.node none .nil .nil) .nil) (.node (some (o97 P)) .nil .nil)) (.node (some (o49 P)) (.node (some (o81 P)) (.node none .nil .nil) .nil) (.node none .nil .nil))) (.node (some (o25 P)) (.node (some (o41 P)) (.node (some (o73 P)) (.node none .nil .nil) .nil) (.node (some (o105 P)) .nil .nil)) (.node (some (o57 P)) (.node (some (o89 P)) .nil .nil) (.node none .nil .nil)))) (.node (some (o13 P)) (.node (some (o21 P)) (.node (some (o37 P)) (.node (some (o69 P)) (.node none .nil .nil) .nil) (.node (some (o101 P)) .nil .nil)) (.node (some (o53 P)) (.node (some (o85 P)) .nil .nil) (.node none .nil .nil))) (.node (some (o29 P)) (.node (some (o45 P)) (.node (some (o77 P)) (.node none .nil .nil) .nil) (.node (some (o109 P)) .nil .nil)) (.node (some (o61 P)) (.node (some (o93 P)) .nil .nil) (.node none .nil .nil)))))) (.node (some (boot_o_2 P)) (.node (some (boot_o_4 P)) (.node (some (boot_o_8 P)) (.node (some (o16 P)) (.node (some (o32 P)) (.node (some (o64 P)) (.node none .nil .nil) .nil) (.node (some (o96 P)) .nil .nil)) (.node (some (o48 P)) (.node (some (o80 P)) (.node none .nil .nil) .nil) (.node none .nil .nil))) (.node (some (o24 P)) (.node (some (o40 P)) (.node (some (o72 P)) (.node none .nil .nil) .nil) (.node (some (o104 P)) .nil .nil)) (.node (some (o56 P)) (.node (some (o88 P)) .nil .nil) (.node none .nil .nil)))) (.node (some (o12_C P)) (.node (some (o20 P)) (.node (some (o36 P)) (.node (some (o68 P)) (.node none .nil .nil) .nil) (.node (some (o100 P)) .nil .nil)) (.node (some (o52 P)) (.node (some (o84 P)) (.node none .nil .nil) .nil) (.node none .nil .nil))) (.node (some (o28 P)) (.node (some (o44 P)) (.node (some (o76 P)) (.node none .nil .nil) .nil) (.node (some (o108 P)) .nil .nil)) (.node (some (o60 P)) (.node (some (o92 P)) .nil .nil) (.node none .nil .nil))))) (.node (some (boot_o_6 P)) (.node (some (boot_o_10 P)) (.node (some (o18 P)) (.node (some (o34 P)) (.node (some (o66 P)) (.node none .nil .nil) .nil) (.node (some (o98 P)) .nil .nil)) (.node (some (o50 P)) (.node (some (o82 P)) (.node none .nil .nil) .nil) (.node none .nil .nil))) (.node (some (o26 P)) (.node (some (o42 P)) (.node (some (o74 P)) (.node none .nil .nil) .nil) (.node (some (o106 P)) .nil .nil)) (.node (some (o58 P)) (.node (some (o90 P)) .nil .nil) (.node none .nil .nil)))) (.node (some (o14 P)) (.node (some (o22 P)) (.node (some (o38 P)) (.node (some (o70 P)) (.node none .nil .nil) .nil) (.node (some (o102 P)) .nil .nil)) (.node (some (o54 P)) (.node (some (o86 P)) .nil .nil) (.node none .nil .nil))) (.node (some (o30 P)) (.node (some (o46 P)) (.node (some (o78 P)) (.node none .nil .nil) .nil) (.node none .nil .nil)) (.node (some (o62 P)) (.node (some (o94 P)) .nil .nil) (.node none .nil .nil)))))))
noncomputable def KC (P : Params) : KS := ⟨TC P, 149, 2316⟩
noncomputable def TD (P : Params) : ET := (.node (some (boot_o_0 P)) (.node (some (boot_o_1 P)) (.node (some (o3 P)) (.node (some (boot_o_7 P)) (.node (some (o15 P)) (.node (some (o31 P)) (.node (some (o63 P)) (.node none .nil .nil) (.node (some (o191 P)) .nil .nil)) (.node (some (o95 P)) (.node (some (o159 P)) .nil .nil) .nil)) (.node (some (o47 P)) (.node (some (o79 P)) (.node none .nil .nil) (.node (some (o207 P)) .nil .nil)) (.node none (.node (some (o175 P)) .nil .nil) .nil))) (.node (some (o23 P)) (.node (some (o39 P)) (.node (some (o71 P)) (.node none .nil .nil) (.node (some (o199 P)) .nil .nil)) (.node (some (o103 P)) (.node (some (o167 P)) .nil .nil) .nil)) (.node (some (o55 P)) (.node (some (o87 P)) (.node (some (o151 P)) .nil .nil) (.node (some (o215 P)) .nil .nil)) (.node none (.node (some (o183 P)) .nil .nil) .nil)))) (.node (some (o11 P)) (.node (some (o19 P)) (.node (some (o35 P)) (.node (some (o67 P)) (.node none .nil .nil) (.node (some (o195 P)) .nil .nil)) (.node (some (o99 P)) (.node (some (o163 P)) .nil .nil) .nil)) (.node (some (o51 P)) (.node (some (o83 P)) (.node none .nil .nil) (.node (some (o211 P)) .nil .nil)) (.node none (.node (some (o179 P)) .nil .nil) .nil))) (.node (some (o27 P)) (.node (some (o43 P)) (.node (some (o75 P)) (.node none .nil .nil) (.node (some (o203 P)) .nil .nil)) (.node (some (o107 P)) (.node (some (o171 P)) .nil .nil) .nil)) (.node (some (o59 P)) (.node (some (o91 P)) (.node (some (o155 P)) .nil .nil) (.node (some (o219 P)) .nil .nil)) (.node none (.node (some (o187 P)) .nil .nil) .nil))))) (.node (some (boot_o_5 P)) (.node (some (boot_o_9 P)) (.node (some (o17 P)) (.node (some (o33 P)) (.node (some (o65 P)) (.node none .nil .nil) (.node (some (o193 P)) .nil .nil)) (.node (some (o97 P)) (.node (some (o161 P)) .nil .nil) .nil)) (.node (some (o49 P)) (.node (some (o81 P)) (.node none .nil .nil) (.node (some (o209 P)) .nil .nil)) (.node none (.node (some (o177 P)) .nil .nil) .nil))) (.node (some (o25 P)) (.node (some (o41 P)) (.node (some (o73 P)) (.node none .nil .nil) (.node (some (o201 P)) .nil .nil)) (.node (some (o105 P)) (.node (some (o169 P)) .nil .nil) .nil)) (.node (some (o57 P)) (.node (some (o89 P)) (.node (some (o153 P)) .nil .nil) (.node (some (o217 P)) .nil .nil)) (.node none (.node (some (o185 P)) .nil .nil) .nil)))) (.node (some (o13 P)) (.node (some (o21 P)) (.node (some (o37 P)) (.node (some (o69 P)) (.node none .nil .nil) (.node (some (o197 P)) .nil .nil)) (.node (some (o101 P)) (.node (some (o165 P)) .nil .nil) .nil)) (.node (some (o53 P)) (.node (some (o85 P)) (.node (some (o149 P)) .nil .nil) (.node (some (o213 P)) .nil .nil)) (.node none (.node (some (o181 P)) .nil .nil) .nil))) (.node (some (o29 P)) (.node (some (o45 P)) (.node (some (o77 P)) (.node none .nil .nil) (.node (some (o205 P)) .nil .nil)) (.node (some (o109 P)) (.node (some (o173 P)) .nil .nil) .nil)) (.node (some (o61 P)) (.node (some (o93 P)) (.node (some (o157 P)) .nil .nil) (.node (some (o221 P)) .nil .nil)) (.node none (.node (some (o189 P)) .nil .nil) .nil)))))) (.node (some (boot_o_2 P)) (.node (some (boot_o_4 P)) (.node (some (boot_o_8 P)) (.node (some (o16 P)) (.node (some (o32 P)) (.node (some (o64 P)) (.node none .nil .nil) (.node (some (o192 P)) .nil .nil)) (.node (some (o96 P)) (.node (some (o160 P)) .nil .nil) .nil)) (.node (some (o48 P)) (.node (some (o80 P)) (.node none .nil .nil) (.node (some (o208 P)) .nil .nil)) (.node none (.node (some (o176 P)) .nil .nil) .nil))) (.node (some (o24 P)) (.node (some (o40 P)) (.node (some (o72 P)) (.node none .nil .nil) (.node (some (o200 P)) .nil .nil)) (.node (some (o104 P)) (.node (some (o168 P)) .nil .nil) .nil)) (.node (some (o56 P)) (.node (some (o88 P)) (.node (some (o152 P)) .nil .nil) (.node (some (o216 P)) .nil .nil)) (.node none (.node (some (o184 P)) .nil .nil) .nil)))) (.node (some (o12 P)) (.node (some (o20 P)) (.node (some (o36 P)) (.node (some (o68 P)) (.node none .nil .nil) (.node (some (o196 P)) .nil .nil)) (.node (some (o100 P)) (.node (some (o164 P)) .nil .nil) .nil)) (.node (some (o52 P)) (.node (some (o84 P)) (.node none .nil .nil) (.node (some (o212 P)) .nil .nil)) (.node none (.node (some (o180 P)) .nil .nil) .nil))) (.node (some (o28 P)) (.node (some (o44 P)) (.node (some (o76 P)) (.node none .nil .nil) (.node (some (o204 P)) .nil .nil)) (.node (some (o108 P)) (.node (some (o172 P)) .nil .nil) .nil)) (.node (some (o60 P)) (.node (some (o92 P)) (.node (some (o156 P)) .nil .nil) (.node (some (o220 P)) .nil .nil)) (.node none (.node (some (o188 P)) .nil .nil) .nil))))) (.node (some (boot_o_6 P)) (.node (some (boot_o_10 P)) (.node (some (o18 P)) (.node (some (o34 P)) (.node (some (o66 P)) (.node none .nil .nil) (.node (some (o194 P)) .nil .nil)) (.node (some (o98 P)) (.node (some (o162 P)) .nil .nil) .nil)) (.node (some (o50 P)) (.node (some (o82 P)) (.node none .nil .nil) (.node (some (o210 P)) .nil .nil)) (.node none (.node (some (o178 P)) .nil .nil) .nil))) (.node (some (o26 P)) (.node (some (o42 P)) (.node (some (o74 P)) (.node none .nil .nil) (.node (some (o202 P)) .nil .nil)) (.node (some (o106 P)) (.node (some (o170 P)) .nil .nil) .nil)) (.node (some (o58 P)) (.node (some (o90 P)) (.node (some (o154 P)) .nil .nil) (.node (some (o218 P)) .nil .nil)) (.node none (.node (some (o186 P)) .nil .nil) .nil)))) (.node (some (o14 P)) (.node (some (o22 P)) (.node (some (o38 P)) (.node (some (o70 P)) (.node none .nil .nil) (.node (some (o198 P)) .nil .nil)) (.node (some (o102 P)) (.node (some (o166 P)) .nil .nil) .nil)) (.node (some (o54 P)) (.node (some (o86 P)) (.node (some (o150 P)) .nil .nil) (.node (some (o214 P)) .nil .nil)) (.node none (.node (some (o182 P)) .nil .nil) .nil))) (.node (some (o30 P)) (.node (some (o46 P)) (.node (some (o78 P)) (.node none .nil .nil) (.node (some (o206 P)) .nil .nil)) (.node none (.node (some (o174 P)) .nil .nil) .nil)) (.node (some (o62 P)) (.node (some (o94 P)) (.node (some (o158 P)) .nil .nil) (.node (some (o222 P)) .nil .nil)) (.node none (.node (some (o190 P)) .nil .nil) .nil)))))))
noncomputable def KD (P : Params) : KS := ⟨TD P, 223, 2432⟩

noncomputable abbrev denQ : Code → Sem PySem.Fin := PySem.W.Fast.tw11892475500146522536 PySem.W.Fast.tw14364793385576792824
theorem denQ_eq : denote table = denQ := by
  rw [table_eq_tree, PySem.W.Fast.te11892475500146522536, PySem.W.Fast.te14364793385576792824]
end Mine
namespace Mine
open PySem PySem.W PySem.Challenge PyProof.Rows

noncomputable abbrev S0 (w : World) : Setting := ⟨pw_tp0041_01, w.params⟩
noncomputable abbrev rcQ (w : World) : RC := exc denQ (S0 w) 3000
noncomputable def env1 : Env := { scope := pw_tp0041_01.main.scope, locals := mainNs, globals := mainNs, cells := [], code := .ref 13, frame := some 14 }
noncomputable def Γc : Ctx := ⟨.builtin "claim.caller" {}, none, none, [], none⟩
noncomputable def Γ1 : Ctx := Γc.enter (.body bdy env1) none default
noncomputable abbrev execsQ := PySem.W.Fast.tw12563942051412417395
theorem execsQ_eq : execs = execsQ := PySem.W.Fast.te12563942051412417395
noncomputable def posA : Pos := ⟨75, 0, 75, 8⟩
noncomputable def posB : Pos := ⟨77, 0, 78, 30⟩
noncomputable def posC : Pos := ⟨79, 0, 79, 13⟩
noncomputable def posD : Pos := ⟨175, 0, 195, 55⟩
theorem runA (w : World) : exe (S0 w) (rcQ w) Γ1 (execsQ (bdy.take 11) env1) default (KI w.params) = some (.ok .next, posA, KA w.params) := by kernel_rfl
noncomputable abbrev modCodeQ (m : Module) : Sem Value := PySem.W.Fast.tw17154629097778926822 m m.file none
noncomputable abbrev newBodyFrameQ (code : Value) (a b : Addr) : Sem Addr := PySem.W.Fast.tw12822647523644345616 code a b builtinsNs
noncomputable abbrev blockStartQ := @PySem.W.Fast.tw1066825118222455980
theorem modCodeQ_eq (m : Module) : moduleCode m = modCodeQ m := congrFun (congrFun (congrFun PySem.W.Fast.te17154629097778926822 m) m.file) none
theorem newBodyFrameQ_eq (c : Value) (a b : Addr) : newBodyFrame c a b = newBodyFrameQ c a b := congrFun (congrFun (congrFun (congrFun PySem.W.Fast.te12822647523644345616 c) a) b) builtinsNs
theorem blockStartQ_eq : @blockStart = blockStartQ := PySem.W.Fast.te1066825118222455980
noncomputable def boots (P : Params) : List Obj := [boot_o_0 P, boot_o_1 P, boot_o_2 P, boot_o_3 P, boot_o_4 P, boot_o_5 P, boot_o_6 P, boot_o_7 P, boot_o_8 P, boot_o_9 P, boot_o_10 P]
noncomputable def ofL (l : List Obj) : KS → KS := @List.rec Obj (fun _ => KS → KS) (fun k => k) (fun o _ ih k => ih ⟨k.T.set k.n o, Nat.succ k.n, k.toks⟩) l
noncomputable def K0 (P : Params) : KS := ofL (boots P) ⟨.nil, 0, boot_toks⟩
theorem runI (w : World) : exe (S0 w) (rcQ w) Γc (do let code ← modCodeQ pw_tp0041_01.main; let f ← newBodyFrameQ code mainNs mainNs; pure (code, f)) default (K0 w.params) = some (.ok (.ref 13, 14), default, KI w.params) := by kernel_rfl
theorem runI' (w : World) : exe (S0 w) (rcQ w) Γ1 (blockStartQ bdy env1) default (KI w.params) = some (.ok (), default, KI w.params) := by kernel_rfl
noncomputable abbrev RB (w : World) : Prop := ∀ p : Pos, exe (S0 w) (rcQ w) Γ1 (execsQ ((bdy.drop 11).take 2) env1) p (KA w.params) = some (.ok .next, posB, KB w.params)
theorem runB00 (w : World) : RB ((w.withFollow "special-get-raises" false).withFollow "set-order" false) := by intro p; kernel_rfl
theorem runB01 (w : World) : RB ((w.withFollow "special-get-raises" true).withFollow "set-order" false) := by intro p; kernel_rfl
theorem runB10 (w : World) : RB ((w.withFollow "special-get-raises" false).withFollow "set-order" true) := by intro p; kernel_rfl
theorem runB11 (w : World) : RB ((w.withFollow "special-get-raises" true).withFollow "set-order" true) := by intro p; kernel_rfl
theorem runB (w : World) (p : Pos) : exe (S0 w) (rcQ w) Γ1 (execsQ ((bdy.drop 11).take 2) env1) p (KA w.params) = some (.ok .next, posB, KB w.params) :=
  byRow2 "set-order" (P := RB) (byRow2 "special-get-raises" (P := fun w => RB (w.withFollow "set-order" false)) runB00 runB01)
    (byRow2 "special-get-raises" (P := fun w => RB (w.withFollow "set-order" true)) runB10 runB11) w p
noncomputable def TCs (P : Params) : ET := (List.range' 110 39).foldl ET.hole (TB P)
theorem runC (w : World) (Γ : Ctx) (p : Pos) : exe (S0 w) (rcQ w) Γ (storeName env1 (Str.ofString "b3_exceptions") (.ref 110)) p ⟨TCs w.params, 149, 2315⟩ = some (.ok (), p, KC w.params) := by kernel_rfl
theorem runD (w : World) (p : Pos) : exe (S0 w) (rcQ w) Γ1 (execsQ (bdy.drop 14) env1) p (KC w.params) = some (.ok .next, posD, KD w.params) := by kernel_rfl
end Mine
namespace Mine
open PySem PySem.W PySem.Challenge PyProof.Rows

/-! the table b3_exceptions: its pairs read off the text -/
noncomputable def dOne : Option Expr → Expr → Option (Int × Str)
  | some (.Constant (.int i) _ _), .Constant (.str x) _ _ => some (i, x)
  | _, _ => none
noncomputable def dKeys : Stmt → List (Option Expr)
  | .Assign _ (.Dict ks _ _) _ => ks
  | _ => []
noncomputable def dVals : Stmt → List Expr
  | .Assign _ (.Dict _ vs _) _ => vs
  | _ => []
noncomputable def dPos : Stmt → Pos
  | .Assign _ (.Dict _ _ p) _ => p
  | _ => default
noncomputable def tPos : Stmt → Pos
  | .Assign (.Name _ p :: _) _ _ => p
  | _ => default
noncomputable def aPos : Stmt → Pos
  | .Assign _ _ p => p
  | _ => default
noncomputable def dTwo : Option Expr × Expr → Int × Str := fun p => (dOne p.1 p.2).getD (0, ⟨⟨[]⟩⟩)
noncomputable def dOks : List (Option Expr) → List Expr → Bool
  | [], [] => true
  | k :: ks, v :: vs => (dOne k v).isSome && dOks ks vs
  | _, _ => false
noncomputable def dData (ks : List (Option Expr)) (vs : List Expr) : List (Int × Str) := (ks.zip vs).map dTwo
noncomputable def b3data : List (Int × Str) := dData (dKeys (stA 13)) (dVals (stA 13))
theorem b3oks : dOks (dKeys (stA 13)) (dVals (stA 13)) = true := by kernel_rfl
theorem st13 : stA 13 = .Assign [.Name (Str.ofString "b3_exceptions") (tPos (stA 13))] (.Dict (dKeys (stA 13)) (dVals (stA 13)) (dPos (stA 13))) (aPos (stA 13)) := by kernel_rfl
noncomputable def asc : List Int → Bool
  | a :: b :: r => decide (a < b) && asc (b :: r)
  | _ => true
theorem asc_lt : ∀ {l : List Int} {a : Int}, asc (a :: l) = true → ∀ x ∈ l, a < x
  | [], _, _, _, h => nomatch h
  | b :: r, a, h, x, hx => by
    simp only [asc, Bool.and_eq_true, decide_eq_true_eq] at h
    rcases List.mem_cons.mp hx with rfl | hx
    · exact h.1
    · exact Int.lt_trans h.1 (asc_lt h.2 x hx)
theorem asc_nodup : ∀ {l : List Int}, asc l = true → l.Nodup
  | [], _ => List.nodup_nil
  | a :: r, h => by
    refine List.nodup_cons.mpr ⟨fun hm => absurd (asc_lt h a hm) (Int.lt_irrefl a), asc_nodup ?_⟩
    cases r with
    | nil => rfl
    | cons b r => simp only [asc, Bool.and_eq_true] at h; exact h.2
theorem b3asc : asc (b3data.map (·.1)) = true := by kernel_rfl
theorem b3len : b3data.length = 650 := by kernel_rfl

theorem noWay {P : Prop} (h : false = true) : P := nomatch h
theorem dOne_inv {k : Option Expr} {v : Expr} : (dOne k v).isSome = true → ∃ i a p x b q, k = some (.Constant (.int i) a p) ∧ v = .Constant (.str x) b q := by
  cases k with
  | none => exact fun h => noWay h
  | some k =>
    cases k <;> try exact fun h => noWay h
    rename_i c a p
    cases c <;> try exact fun h => noWay h
    cases v <;> try exact fun h => noWay h
    rename_i c b q
    cases c <;> try exact fun h => noWay h
    exact fun _ => ⟨_, _, _, _, _, _, rfl, rfl⟩
theorem pairs_of {prog : Program} {w : World} {env : Env} {pos : Pos} : ∀ (ks : List (Option Expr)) (vs : List Expr), dOks ks vs = true →
    ∃ ps, (evalEachOpt ks env).zip ((evalEach vs env).map fun v => do let x ← v; standAt pos; pure x) = ps.map (fun p => (some p.1, p.2)) ∧ PairsOk prog w ps (dData ks vs)
  | [], [], _ => ⟨[], rfl, .nil⟩
  | k :: ks, v :: vs, h => by
    simp only [dOks, Bool.and_eq_true] at h
    obtain ⟨h1, h2⟩ := h
    obtain ⟨ps, e, hp⟩ := pairs_of (prog := prog) (w := w) (env := env) (pos := pos) ks vs h2
    obtain ⟨i, a, p, x, b, q, rfl, rfl⟩ := dOne_inv h1
    refine ⟨(eval (.Constant (.int i) a p) env, (do let x ← eval (.Constant (.str x) b q) env; standAt pos; pure x)) :: ps, ?_, .cons ⟨?_, ?_⟩ hp⟩
    · show _ :: _ = _ :: _
      exact congr (congrArg List.cons rfl) e
    · intro A Q E s hq; exact wpAny_Constant_int (env := env) (k := a) (pos := p) hq
    · intro A Q E s hq; exact wpAny_bind (wpAny_Constant_str (env := env) (k := b) (pos := q) (wpAny_bind (wpAny_standAt (wpAny_pure hq))))
  | [], _ :: _, h => by cases h
  | _ :: _, [], h => by cases h

theorem good_rcQ (w : World) : Good (model pw_tp0041_01 w) (rcQ w) := by
  have := good_exc (model pw_tp0041_01 w) 3000
  rw [show (model pw_tp0041_01 w).den = denQ from denQ_eq] at this
  exact this

section
variable {M : Model} {Γ : Ctx} {E : Value → Pos → Shared → Prop}
theorem wp_execs_append {env : Env} {l2 : List Stmt} {Q : Flow → Pos → Shared → Prop} : ∀ (l1 : List Stmt) (p : Pos) (s : Shared),
    Sem.wp M Γ (execs l1 env) (fun f p s => match f with | .next => Sem.wp M Γ (execs l2 env) Q E p s | f => Q f p s) E p s → Sem.wp M Γ (execs (l1 ++ l2) env) Q E p s
  | [], p, s, h => h
  | st :: l1, p, s, h => by
    rw [List.cons_append, execs_cons, Sem.wp_bind']
    rw [execs_cons, Sem.wp_bind'] at h
    refine Sem.wp_mono M Γ _ (fun f q s' h' => ?_) (fun _ _ _ h' => h') _ _ h
    cases f with
    | next => exact wp_execs_append l1 q s' h'
    | _ => exact h'
end

noncomputable def A1 : Around := { handled := none, depth := 1000, frames := none, guards := none, units := 1000 }
theorem in1 : Γ1.In A1 := by
  refine ⟨rfl, by decide +kernel, ?_, ?_, by decide +kernel⟩ <;> (intro l hl; cases hl)

structure TopEnd (w : World) (s₀ s' : Shared) : Prop where
  rep : Rep s' (KD w.params)
  same : s'.gens = s₀.gens ∧ s'.drawn = s₀.drawn ∧ s'.os = s₀.os
  dict : ∃ kvs, Carr b3data kvs ∧ s'.heap.DictOf (intKind pw_tp0041_01 w) 110 kvs

theorem drop13 : bdy.drop 13 = stA 13 :: bdy.drop 14 := by kernel_rfl
theorem drop11 : bdy.drop 11 = (bdy.drop 11).take 2 ++ bdy.drop 13 := by
  conv => lhs; rw [← List.take_append_drop 2 (bdy.drop 11)]
  rw [List.drop_drop]

theorem KC_start (P : Params) (i : Nat) (o : Obj) : (TCs P).get i = some o → (TB P).get i = some o := ET.get_holes _ _ i o

theorem holeC (P : Params) : (TCs P).get 110 = none := by kernel_rfl
theorem holeD (P : Params) : (TC P).get 110 = none := by kernel_rfl
theorem DictOf.moved {h h' : Heap} {prog : Program} {w : World} {a : Addr} {kvs : List (Int × Value)} (hd : h.DictOf (intKind prog w) a kvs) (e : h'.get? a = h.get? a) : h'.DictOf (intKind prog w) a kvs :=
  let ⟨o, es, ep, ho, r⟩ := hd; ⟨o, es, ep, e.trans ho, r⟩

theorem table_ok (w : World) (s₄ : Shared) (R4 : Rep s₄ (KB w.params)) (ks : List (Option Expr)) (vs : List Expr) (dp tp ap : Pos) (hok : dOks ks vs = true)
    (hasc : asc ((dData ks vs).map (·.1)) = true) (hlen : (dData ks vs).length = 650) :
    wpAny (model pw_tp0041_01 w) A1 (exec (.Assign [.Name (Str.ofString "b3_exceptions") tp] (.Dict ks vs dp) ap) env1)
      (fun f s₅ => f = .next ∧ Rep s₅ (KC w.params) ∧ (s₅.gens = s₄.gens ∧ s₅.drawn = s₄.drawn ∧ s₅.os = s₄.os) ∧ ∃ kvs, Carr (dData ks vs) kvs ∧ s₅.heap.DictOf (intKind pw_tp0041_01 w) 110 kvs) (fun _ _ => False) s₄ := by
  have G := good_rcQ w
  refine wpAny_Assign_Name ?_
  rw [arm_eval_Dict]
  obtain ⟨ps, eps, hps⟩ := pairs_of (prog := pw_tp0041_01) (w := w) (env := env1) (pos := dp) _ _ hok
  rw [eps]
  have hsize : s₄.heap.objs.size = 110 := R4.size
  have htoks : s₄.toks = 365 := R4.toks
  have hsz : (dData ks vs).length ≤ sizeLine := by rw [hlen]; decide
  have hne : dData ks vs ≠ [] := by intro e; rw [e] at hlen; cases hlen
  have hlow : sysModules < s₄.heap.objs.size := by rw [hsize]; decide
  refine wpAny_bind (wpAny_standAt (display_ok hps (asc_nodup hasc) hne hsz hlow ?_))
  intro kvs h' hc hd hk hs
  rw [hsize] at hd hs ⊢
  rw [hlen] at hs ⊢
  intro Γ p hΓ
  have R5 : Rep { s₄ with heap := h', toks := s₄.toks + 3 * 650 } ⟨TCs w.params, 149, 2315⟩ := ⟨hs, by show s₄.toks + 3 * 650 = 2315; lia, fun i o e => hk _ _ (R4.own _ _ (KC_start _ i o e))⟩
  refine Sem.wp_mono _ Γ _ (fun _ q s₅ h => ?_) (fun e q s h => absurd h.1 (by intro h; cases h)) _ _ (exe_sound G Γ _ _ _ _ _ _ _ (runC w Γ p) R5)
  obtain ⟨-, -, R6, H6⟩ := h
  have hole := H6.hole 110 (show 110 < 149 by decide) (holeC _)
  exact ⟨rfl, R6, ⟨H6.same.gens, H6.same.drawn, H6.same.os⟩, kvs, hc, DictOf.moved hd hole.2⟩

theorem b3all : dOks (dKeys (stA 13)) (dVals (stA 13)) = true ∧ asc ((dData (dKeys (stA 13)) (dVals (stA 13))).map (·.1)) = true ∧ (dData (dKeys (stA 13)) (dVals (stA 13))).length = 650 := ⟨b3oks, b3asc, b3len⟩
@[irreducible] def Irr (P : Prop) : Prop := P
theorem Irr.mk {P : Prop} (h : P) : Irr P := by unfold Irr; exact h
theorem Irr.out {P : Prop} (h : Irr P) : P := by unfold Irr at h; exact h
noncomputable abbrev Tab13 (w : World) (st : Stmt) : Prop := ∀ s₄ : Shared, Rep s₄ (KB w.params) → Irr (wpAny (model pw_tp0041_01 w) A1 (exec st env1)
      (fun f s₅ => f = .next ∧ Rep s₅ (KC w.params) ∧ (s₅.gens = s₄.gens ∧ s₅.drawn = s₄.drawn ∧ s₅.os = s₄.os) ∧ ∃ kvs, Carr b3data kvs ∧ s₅.heap.DictOf (intKind pw_tp0041_01 w) 110 kvs) (fun _ _ => False) s₄)
theorem tab13 (w : World) : Tab13 w (stA 13) := by
  intro s₄ R4
  have h := b3all
  unfold b3data
  rw [st13]
  revert h
  generalize dKeys (stA 13) = ks
  generalize dVals (stA 13) = vs
  generalize tPos (stA 13) = tp
  generalize dPos (stA 13) = dp
  generalize aPos (stA 13) = ap
  intro h
  exact Irr.mk (table_ok w s₄ R4 ks vs dp tp ap h.1 h.2.1 h.2.2)

set_option maxHeartbeats 4000000 in
theorem top_wp0 (w : World) (s₀ : Shared) (R : Rep s₀ (K0 w.params)) (st : Stmt) (hdrop : bdy.drop 13 = st :: bdy.drop 14) (htab : Tab13 w st) :
    Sem.wp (model pw_tp0041_01 w) Γc (topStub pw_tp0041_01).cur (fun f _ s' => f = .done (.ret .none) ∧ TopEnd w s₀ s') (fun _ _ _ => False) default s₀ := by
  have G := good_rcQ w
  have h1 := exe_sound G Γc _ default _ _ _ _ s₀ (runI w) R
  simp only [Sem.wp_bind', Sem.wp_pure'] at h1
  show Sem.wp _ Γc (moduleCode pw_tp0041_01.main >>= fun code => newBodyFrame code mainNs mainNs >>= fun frame =>
    run (.body bdy { scope := pw_tp0041_01.main.scope, locals := mainNs, globals := mainNs, cells := [], code, frame := some frame }) >>= fun _ => ret .none) _ _ default s₀
  rw [Sem.wp_bind', modCodeQ_eq]
  refine Sem.wp_mono _ Γc _ (fun code q s h => ?_) (fun e q s h => absurd h.1 (by intro h; cases h)) _ _ h1
  rw [Sem.wp_bind', newBodyFrameQ_eq]
  refine Sem.wp_mono _ Γc _ (fun frame q s h => ?_) (fun e q s h => absurd h.1 (by intro h; cases h)) _ _ h
  obtain ⟨e1, rfl, R1, H1⟩ := h
  cases e1
  clear h1 h
  rw [Sem.wp_bind']
  show Sem.wp _ Γc (Sem.call (.body bdy env1) none false [] _) _ _ _ _
  rw [Sem.wp_call, wpCode_iff_wp]
  show Sem.wp _ Γ1 (denote table (.body bdy env1)) _ _ _ _
  show Sem.wp _ Γ1 (blockStart bdy env1 >>= fun _ => ((execs bdy env1).onRaise (leaving env1)) >>= fun f => pure (PySem.Fin.done f)) _ _ _ _
  rw [Sem.wp_bind', blockStartQ_eq]
  refine Sem.wp_mono _ Γ1 _ (fun _ q s₂ h => ?_) (fun e q s h => absurd h.1 (by intro h; cases h)) _ _ (exe_sound G Γ1 _ _ _ _ _ _ s (runI' w) R1)
  obtain ⟨-, rfl, R2, H2⟩ := h
  rw [Sem.wp_bind', Sem.wp_onRaise]
  have H02 := H1.trans H2
  rw [← List.take_append_drop 11 bdy]
  refine wp_execs_append _ _ _ ?_
  rw [execsQ_eq]
  refine Sem.wp_mono _ Γ1 _ (fun f q s₃ h => ?_) (fun e q s h => absurd h.1 (by intro h; cases h)) _ _ (exe_sound G Γ1 _ _ _ _ _ _ s₂ (runA w) R2)
  obtain ⟨ef, rfl, R3, H3⟩ := h
  cases ef
  have H03 := H02.trans H3
  dsimp only
  rw [← execsQ_eq, drop11]
  refine wp_execs_append _ _ _ ?_
  rw [execsQ_eq]
  refine Sem.wp_mono _ Γ1 _ (fun f q s₄ h => ?_) (fun e q s h => absurd h.1 (by intro h; cases h)) _ _ (exe_sound G Γ1 _ _ _ _ _ _ s₃ (runB w posA) R3)
  obtain ⟨ef, rfl, R4, H4⟩ := h
  cases ef
  have H04 := H03.trans H4
  dsimp only
  rw [← execsQ_eq, hdrop, execs_cons, Sem.wp_bind']
  -- the table
  have hex := (htab s₄ R4).out
  refine Sem.wp_mono _ Γ1 _ (fun f q s₅ h => ?_) (fun e q s h => h.elim) _ _ (hex Γ1 posB in1)
  obtain ⟨rfl, R5, hS, kvs, hc, hd⟩ := h
  dsimp only
  rw [execsQ_eq]
  refine Sem.wp_mono _ Γ1 _ (fun f q s₆ h => ?_) (fun e q s h => absurd h.1 (by intro h; cases h)) _ _ (exe_sound G Γ1 _ _ _ _ _ _ s₅ (runD w q) R5)
  obtain ⟨ef, rfl, R6, H6⟩ := h
  cases ef
  have hole := H6.hole 110 (show 110 < 149 by decide) (holeD _)
  have z := H04.same
  refine ⟨rfl, R6, ⟨?_, ?_, ?_⟩, kvs, hc, DictOf.moved hd hole.2⟩
  · rw [H6.same.gens, hS.1, z.gens]
  · rw [H6.same.drawn, hS.2.1, z.drawn]
  · rw [H6.same.os, hS.2.2, z.os]
theorem top_wp (w : World) (s₀ : Shared) (R : Rep s₀ (K0 w.params)) :
    Sem.wp (model pw_tp0041_01 w) Γc (topStub pw_tp0041_01).cur (fun f _ s' => f = .done (.ret .none) ∧ TopEnd w s₀ s') (fun _ _ _ => False) default s₀ :=
  top_wp0 w s₀ R (stA 13) drop13 (tab13 w)
end Mine
namespace Mine
open PySem PySem.W PySem.Challenge PyProof.Rows

/-! from a wp to the top's run -/
noncomputable def isDone : Step → Bool
  | .halt (.done _) _ => true
  | _ => false
theorem nt {P : Prop} (h : false = true) : P := nomatch h
theorem done_through0 {den : Code → Sem PySem.Fin} {prog : Program} {w : World} {s₂ : Shared} {t : Thread} : isDone (step den prog w s₂ t) = true → through t = true := by
  obtain ⟨heap, gens, drawn, toks, os⟩ := s₂
  obtain ⟨cur, code, pos, stack⟩ := t
  cases cur <;> first | exact fun h => nt h | skip
  case pure x =>
    cases x with
    | again c => exact fun h => nt h
    | done g =>
      cases stack with
      | nil => exact fun h => rfl
      | cons fr rest => cases fr <;> exact fun h => nt h
  case raise e =>
    cases stack with
    | nil => 
      show isDone (if leftWithCleanup gens then Step.halt (.unsupported _) _ else Step.halt (.uncaught _) _) = true → _
      cases leftWithCleanup gens <;> exact fun h => nt h
    | cons fr rest => cases fr <;> exact fun h => nt h
  case finish e => 
    show isDone (if leftWithCleanup gens then Step.halt (.unsupported _) _ else Step.halt (.ended _) _) = true → _
    cases leftWithCleanup gens <;> exact fun h => nt h
  case load a _ k =>
    show isDone (match heap.get? a with | some o => Step.go _ ⟨k o, _, _, _⟩ | none => Step.halt (.stuck _) _) = true → _
    cases heap.get? a <;> exact fun h => nt h
  case update a _ f k =>
    show isDone (if (heap.get? a).isSome then Step.go _ _ else Step.halt (.stuck _) _) = true → _
    cases (heap.get? a).isSome <;> exact fun h => nt h
  case choose src n k =>
    cases n with
    | zero => exact fun h => nt h
    | succ n => exact fun h => nt h
  case genState g k =>
    delta step; dsimp only
    cases gens[g]? <;> exact fun h => nt h
  case resume g r l k =>
    delta step; dsimp only
    cases gens[g]? with
    | none => exact fun h => nt h
    | some st =>
      cases st <;> cases r <;> try exact fun h => nt h
      rename_i v; cases v <;> exact fun h => nt h
  case yield v gd l k =>
    delta step; dsimp only
    cases splitAtGen stack with
    | none => exact fun h => nt h
    | some x => exact fun h => nt h
theorem done_through {den : Code → Sem PySem.Fin} {prog : Program} {w : World} {s₂ s' : Shared} {t : Thread} {f : Flow} (hs : step den prog w s₂ t = .halt (.done f) s') : through t = true :=
  done_through0 (congrArg isDone hs)
theorem halt_through {den : Code → Sem PySem.Fin} {prog : Program} {w : World} : ∀ (n : Nat) (s : Shared) (t : Thread) (f : Flow) (s' : Shared), runN den prog w n s t = .halted (.done f) s' →
    ∃ k t', runN den prog w k s t = .running s' t' ∧ through t' = true
  | 0, _, _, _, _, h => by cases h
  | n + 1, s, t, f, s', h => by
    simp only [runN] at h
    cases hs : step den prog w s t with
    | go s₂ t₂ =>
      rw [hs] at h
      obtain ⟨k, t', hk, ht⟩ := halt_through n s₂ t₂ f s' h
      exact ⟨k + 1, t', by simp only [runN, hs]; exact hk, ht⟩
    | halt o s₂ =>
      rw [hs] at h
      injection h with h1 h2
      subst h1 h2
      have e := step_halt_same den prog w s s₂ t _ hs
      subst e
      refine ⟨0, t, rfl, ?_⟩
      exact done_through hs

theorem run_through {prog : Program} {w : World} {c : Code} {t : Sem PySem.Fin} {p : Pos} {s : Shared} {Q : Shared → Prop} (hz : s.asleep) (hg : s.gens = #[])
    (h : Sem.wp (model prog w) ⟨c, none, none, [], none⟩ t (fun f _ s' => f = .done (.ret .none) ∧ Q s' ∧ s'.gens = s.gens) (fun _ _ _ => False) p s) :
    ∃ n s₁ t', schedN (denote table) prog w n (.single s ⟨t, c, p, []⟩) = .running (.single s₁ t') ∧ through t' = true ∧ s₁.gens = #[] ∧ s₁.heap.life = s.heap.life ∧ Q s₁ := by
  have hf : Sem.wp (model prog w) ⟨c, none, none, [], none⟩ t (Sem.finPost (model prog w) ⟨c, none, none, [], none⟩ fun r s' => (r = .ok (.ret .none) ∧ Q s' ∧ s'.gens = s.gens) ∧ leftWithCleanup s'.gens = false)
      (fun e _ s' => ((Except.error e : Result) = .ok (.ret .none) ∧ Q s' ∧ s'.gens = s.gens) ∧ leftWithCleanup s'.gens = false) p s := by
    refine Sem.wp_mono _ _ _ (fun f q s' h' => ?_) (fun _ _ _ h' => h'.elim) _ _ h
    obtain ⟨rfl, hQ, hG⟩ := h'
    exact ⟨⟨rfl, hQ, hG⟩, by rw [hG, hg]; simp [leftWithCleanup]⟩
  obtain ⟨n, r, s', hn, rfl, hQ, hG⟩ := (wp_iff_halts (M := model prog w) (c := c) t (fun r s' => r = .ok (.ret .none) ∧ Q s' ∧ s'.gens = s.gens) p s).mp hf
  obtain ⟨s'', hr, hfo, hc⟩ := runNI_real (denote table) prog w hn rfl
  obtain ⟨k, t', hk, ht⟩ := halt_through n s _ _ s'' hr
  obtain ⟨eh, ed, et, eo, eg⟩ := Shared.forget_eq hfo
  have hg'' : s''.gens = #[] := by
    have : s''.gens.map GenState.forget = #[] := by rw [eg, hG, hg]; simp
    exact Array.map_eq_empty_iff.mp this
  have hs : s'' = s' := by
    obtain ⟨a1, a2, a3, a4, a5⟩ := s''
    obtain ⟨b1, b2, b3, b4, b5⟩ := s'
    simp only at eh ed et eo hg'' hG
    rw [eh, ed, et, eo, hg'', hG, hg]
  have hsched := schedN_prefix (den := denote table) (prog := prog) (w := w) k s ⟨t, c, p, []⟩ hz (fun j s₂ t₂ hj hrun => by
    refine ⟨hc j s₂ t₂ hrun, fun hx => ?_⟩
    have hadd : ∀ (i j : Nat) (s : Shared) (t : Thread) (s₂ : Shared) (t₂ : Thread), runN (denote table) prog w j s t = .running s₂ t₂ → runN (denote table) prog w (j + i) s t = runN (denote table) prog w i s₂ t₂ := by
      intro i j
      induction j with
      | zero => intro s t s₂ t₂ h; cases h; rw [Nat.zero_add]
      | succ j ih =>
        intro s t s₂ t₂ h
        rw [Nat.succ_add]
        simp only [runN] at h ⊢
        split at h
        · exact ih _ _ _ _ h
        · cases h
    obtain ⟨d, rfl⟩ : ∃ d, k = j + (d + 1) := ⟨k - j - 1, by omega⟩
    have := hadd (d + 1) j _ _ _ _ hrun
    rw [hk] at this
    simp only [runN, hx] at this
    cases this)
  rw [hk] at hsched
  refine ⟨k, s'', t', hsched, ht, hg'', ?_, hs ▸ hQ⟩
  exact (runN_life _ _ _ hr)
end Mine
namespace Mine
open PySem PySem.W PySem.Challenge PyProof.Rows

theorem rep_ofL : ∀ (l : List Obj) (s : Shared) (k : KS), Rep s k → (∀ o ∈ l, o.isFreed = false) → Rep { s with heap := l.foldl Heap.push s.heap } (ofL l k)
  | [], _, _, R, _ => R
  | o :: l, s, k, R, h => rep_ofL l { s with heap := s.heap.push o } _ (R.push (h o List.mem_cons_self)) (fun o' h' => h o' (List.mem_cons_of_mem _ h'))

theorem boots_free (P : Params) : ∀ o ∈ boots P, o.isFreed = false := by
  have h : (boots P).map Obj.isFreed = [false, false, false, false, false, false, false, false, false, false, false] := by kernel_rfl
  intro o ho
  have := List.mem_map_of_mem (f := Obj.isFreed) ho
  rw [h] at this
  simpa using this

theorem boot_heap_is (P : Params) : (boots P).foldl Heap.push { objs := #[], life := (boot_heap P).life } = boot_heap P := by kernel_rfl

theorem rep_boot {s : Shared} {P : Params} (hh : s.heap = boot_heap P) (ht : s.toks = boot_toks) : Rep s (K0 P) := by
  have R : Rep { s with heap := { objs := #[], life := (boot_heap P).life } } ⟨.nil, 0, boot_toks⟩ := ⟨rfl, ht, fun i o e => by cases e⟩
  have := rep_ofL (boots P) _ _ R (boots_free P)
  rw [show ({ s with heap := { objs := #[], life := (boot_heap P).life } } : Shared).heap = { objs := #[], life := (boot_heap P).life } from rfl, boot_heap_is] at this
  have e : ({ s with heap := boot_heap P } : Shared) = s := by
    obtain ⟨a, b, c, d, e⟩ := s
    simp only at hh
    rw [hh]
  rw [e] at this
  exact this

theorem open_is : opening pw_tp0041_01 = plainProg pw_tp0041_01.main.scope.names := by kernel_rfl
theorem fence_is (s : Shared) : fenceModules? pw_tp0041_01 s = some s := by kernel_rfl
theorem mods_nil : importedModules pw_tp0041_01.main.body = [] := by kernel_rfl

section
variable {h h₀ : Heap} {P : Params}
theorem K0_at (P : Params) : (K0 P).T.get 2 = some (boot_o_2 P) ∧ (K0 P).T.get 0 = some (boot_o_0 P) ∧ (K0 P).T.get 3 = some (boot_o_3 P) := ⟨by kernel_rfl, by kernel_rfl, by kernel_rfl⟩
theorem TD_at (P : Params) : (TD P).get 2 = some (boot_o_2 P) ∧ (TD P).get 0 = some (boot_o_0 P) ∧ (TD P).get 3 = some (o3 P) := ⟨by kernel_rfl, by kernel_rfl, by kernel_rfl⟩

noncomputable def hStat (P : Params) (h : Heap) : Prop := h.get? 2 = some (boot_o_2 P)
theorem accounted_of (e : h.get? cStatics = some (boot_o_2 P)) : h.accountedOkI [] = true := by
  unfold Heap.accountedOkI Heap.isNs Heap.nsKeys Heap.nsMap
  rw [e]; kernel_rfl
theorem isNs3 (e : h.get? mainNs = some (o3 P)) : h.isNs mainNs = true := by
  unfold Heap.isNs; rw [e]; kernel_rfl
theorem isNs0 (e : h.get? builtinsNs = some (boot_o_0 P)) : h.isNs builtinsNs = true := by
  unfold Heap.isNs; rw [e]; kernel_rfl
theorem isNs3' (e : h.get? mainNs = some (boot_o_3 P)) : h.isNs mainNs = true := by
  unfold Heap.isNs; rw [e]; kernel_rfl
theorem bound_of (e : h.get? mainGlobals = some (o3 P)) : namesBound pw_tp0041_01 h = true := by
  unfold namesBound Heap.isNs Heap.nsKeys
  rw [e]; kernel_rfl
theorem laid_of (e₀ : h₀.get? mainGlobals = some (boot_o_3 P)) (e : h.get? mainGlobals = some (o3 P)) : laidKept h₀ h = true := by
  unfold laidKept Heap.isNs Heap.nsMap
  rw [e, e₀]; kernel_rfl
theorem blt_of (e : h.get? builtinsNs = some (boot_o_0 P)) : h.bltView = bltViewBooted := by
  unfold Heap.bltView Heap.nsPairs
  rw [e]; kernel_rfl
end

theorem small_of {s : Shared} {P : Params} (hh : s.heap = boot_heap P) {b : Addr} {o : Obj} (e : s.heap.get? b = some o) : b < 11 := by
  have := Heap.lt_size e
  rw [hh] at this
  exact this

theorem same_at (P : Params) : ∀ b, b < 11 → b ≠ 3 → (TD P).get b = (K0 P).T.get b
  | 0, _, _ => by kernel_rfl
  | 1, _, _ => by kernel_rfl
  | 2, _, _ => by kernel_rfl
  | 3, _, h => absurd rfl h
  | 4, _, _ => by kernel_rfl
  | 5, _, _ => by kernel_rfl
  | 6, _, _ => by kernel_rfl
  | 7, _, _ => by kernel_rfl
  | 8, _, _ => by kernel_rfl
  | 9, _, _ => by kernel_rfl
  | 10, _, _ => by kernel_rfl
  | n + 11, h, _ => by lia
theorem some_at (P : Params) : ∀ b, b < 11 → ((K0 P).T.get b).isSome = true
  | 0, _ => by kernel_rfl
  | 1, _ => by kernel_rfl
  | 2, _ => by kernel_rfl
  | 3, _ => by kernel_rfl
  | 4, _ => by kernel_rfl
  | 5, _ => by kernel_rfl
  | 6, _ => by kernel_rfl
  | 7, _ => by kernel_rfl
  | 8, _ => by kernel_rfl
  | 9, _ => by kernel_rfl
  | 10, _ => by kernel_rfl
  | n + 11, h => by lia
theorem builtinsKey (P : Params) : nsFind (match (o3 P).data with | .dict es _ => es | _ => #[]) (Str.ofString "__builtins__") = some (.ref 4) := by kernel_rfl
theorem o4_at (P : Params) : (TD P).get 4 = some (boot_o_4 P) := by kernel_rfl
theorem o4_cls (P : Params) : (boot_o_4 P).cls = .type "module" ∧ (boot_o_4 P).dict = some builtinsNs := ⟨by kernel_rfl, by kernel_rfl⟩

theorem ran {w : World} {s₀ : Shared} (hh : s₀.heap = boot_heap w.params) (hg : s₀.gens = #[]) (ht : s₀.toks = boot_toks) (hz : s₀.asleep) :
    ∃ s₁, TopRan pw_tp0041_01 w s₀ s₁ ∧ s₁.asleep ∧ s₁.gens = #[] ∧ Rep s₁ (KD w.params) ∧ ∃ kvs, Carr b3data kvs ∧ s₁.heap.DictOf (intKind pw_tp0041_01 w) 110 kvs := by
  have R0 := rep_boot hh ht
  have h := top_wp w s₀ R0
  obtain ⟨n, s₁, t', hrun, hthr, hg₁, hlife, hQ, hos⟩ := run_through (Q := fun s' => TopEnd w s₀ s' ∧ s'.os = s₀.os) hz hg
    (Sem.wp_mono _ _ _ (fun f q s' h' => ⟨h'.1, ⟨h'.2, h'.2.same.2.2⟩, h'.2.same.1⟩) (fun _ _ _ h' => h') _ _ h)
  obtain ⟨R, -, kvs, hc, hd⟩ := hQ
  have K := K0_at w.params
  have T := TD_at w.params
  have g2 : s₁.heap.get? cStatics = some (boot_o_2 w.params) := R.own 2 _ T.1
  have g0 : s₁.heap.get? builtinsNs = some (boot_o_0 w.params) := R.own 0 _ T.2.1
  have g3 : s₁.heap.get? mainNs = some (o3 w.params) := R.own 3 _ T.2.2
  have k2 : s₀.heap.get? cStatics = some (boot_o_2 w.params) := R0.own 2 _ K.1
  have k3 : s₀.heap.get? mainNs = some (boot_o_3 w.params) := R0.own 3 _ K.2.2
  have n3 := isNs3 g3
  refine ⟨s₁, ⟨⟨n, t', hrun, hthr⟩, hlife, Shared.rest_eq hos, ?_, ?_, ?_, Pin.keysAreStrs_of n3, ?_, ?_, ?_, ?_, ?_⟩, Shared.asleep_of_life hlife hz, hg₁, R, kvs, hc, hd⟩
  · intro b o e hn
    have hb := small_of hh e
    have h3 : b ≠ 3 := fun q => hn (.inl q)
    obtain ⟨o', ho'⟩ := Option.isSome_iff_exists.mp (some_at w.params b hb)
    have e1 := R0.own b o' ho'
    rw [e] at e1
    cases e1
    exact R.own b o ((same_at w.params b hb h3).trans ho')
  · rw [mods_nil]; exact Heap.accountedI_of_ok (accounted_of g2)
  · intro key
    left
    unfold staticOf
    rw [g2, k2]
  · exact fun x hx => (Pin.builtinOf_eq (isNs0 g0) x).trans (Heap.of_bltView (isNs0 g0) (blt_of g0) x hx)
  · refine ⟨4, boot_o_4 w.params, ?_, R.own 4 _ (o4_at _), (o4_cls _).1, (o4_cls _).2⟩
    rw [Pin.globalOf_eq n3]
    unfold Heap.nsMap
    rw [show s₁.heap.get? mainGlobals = some (o3 w.params) from g3]
    exact builtinsKey w.params
  · intro g hgm
    rw [hg₁] at hgm
    simp at hgm
  · exact names_of_bound (bound_of g3)
  · exact laid_of_kept (laid_of k3 g3)

theorem head (w : World) : (∃ s, AfterRun (opening pw_tp0041_01) w s) ∧ ∀ s, AfterRun (opening pw_tp0041_01) w s → ∃ s₀, fenceModules? pw_tp0041_01 s = some s₀ ∧ s₀.gens = #[] ∧
    ∃ s₁, TopRan pw_tp0041_01 w s₀ s₁ ∧ s₁.asleep ∧ s₁.gens = #[] ∧ Rep s₁ (KD w.params) ∧ ∃ kvs, Carr b3data kvs ∧ s₁.heap.DictOf (intKind pw_tp0041_01 w) 110 kvs := by
  have hb := boot_open (N := 600) open_is rfl fence_is w
  obtain ⟨s₀, h0, e⟩ := Option.map_eq_some_iff.mp hb
  unfold fencedOpening at h0
  obtain ⟨s, hs, hf⟩ := Option.bind_eq_some_iff.mp h0
  rw [← table_eq_tree] at hs
  have A := AfterImport.of_importEnds hs
  refine ⟨⟨s, A⟩, fun s' hs' => ?_⟩
  obtain rfl : s' = s := AfterImport.unique hs' A
  have z : s₀.asleep := Shared.asleep_of_life (fence_lifeW hf) A.life
  obtain ⟨e1, e2, e3, e4⟩ : s₀.heap = boot_heap w.params ∧ s₀.gens = #[] ∧ s₀.drawn = boot_drawn ∧ s₀.toks = boot_toks := by
    injection e with e1 e; injection e with e2 e; injection e with e3 e4
    exact ⟨e1, e2, e3, e4⟩
  exact ⟨s₀, hf, e2, ran e1 e2 e4 z⟩
end Mine
namespace Mine
open PySem PySem.W PySem.Challenge PySem.Calls PyProof.Rows

noncomputable abbrev pw := pw_tp0041_01

/-- what the top has laid, as it stays while the law is called; 157 is the table of codes that _law_lexer's call fills -/
structure TopH (w : World) (h : Heap) : Prop where
  at_ : ∀ i o, (TD w.params).get i = some o → i ≠ 157 → h.get? i = some o
  dict : ∃ kvs, Carr b3data kvs ∧ h.DictOf (intKind pw w) 110 kvs

theorem TopH.keeps {w : World} {h h' : Heap} (T : TopH w h) (k : ∀ b o, h.get? b = some o → h'.get? b = some o) : TopH w h' :=
  ⟨fun i o e hn => k _ _ (T.at_ i o e hn), let ⟨kvs, a, b⟩ := T.dict; let ⟨o, es, ep, ho, r⟩ := b; ⟨kvs, a, o, es, ep, k _ _ ho, r⟩⟩

noncomputable def gEs (P : Params) : Array DictEntry := match (o3 P).data with | .dict es _ => es | _ => #[]
noncomputable def bEs (P : Params) : Array DictEntry := match (boot_o_0 P).data with | .dict es _ => es | _ => #[]
/-- the names of the text's own; of the built-ins -/
noncomputable def gl (P : Params) (x : Str) : Option Value := nsFind (gEs P) x
noncomputable def bl (P : Params) (x : Str) : Option Value := nsFind (bEs P) x

theorem TopH.g {w : World} {h : Heap} (T : TopH w h) : h.Ns mainGlobals (gl w.params) := by
  have e : h.get? mainNs = some (o3 w.params) := T.at_ 3 _ (TD_at _).2.2 (by decide)
  have n := Heap.Ns.of_isNs (isNs3 e)
  have : h.nsMap mainNs = gl w.params := by
    funext x
    unfold Heap.nsMap
    rw [e]
    rfl
  rw [this] at n
  exact n
theorem TopH.b {w : World} {h : Heap} (T : TopH w h) : h.Ns builtinsNs (bl w.params) := by
  have e : h.get? builtinsNs = some (boot_o_0 w.params) := T.at_ 0 _ (TD_at _).2.1 (by decide)
  have n := Heap.Ns.of_isNs (isNs0 e)
  have : h.nsMap builtinsNs = bl w.params := by
    funext x
    unfold Heap.nsMap
    rw [e]
    rfl
  rw [this] at n
  exact n
noncomputable def stEs (P : Params) : Array DictEntry := match (boot_o_2 P).data with | .dict es _ => es | _ => #[]
theorem isNs2 {h : Heap} {P : Params} (e : h.get? cStatics = some (boot_o_2 P)) : h.isNs cStatics = true := by
  unfold Heap.isNs; rw [e]; kernel_rfl
theorem st_none (P : Params) : nsFind (stEs P) (Str.ofString "sys.recursionlimit") = none := by kernel_rfl
theorem TopH.lim {w : World} {h : Heap} (T : TopH w h) : h.NoLimit := by
  have e : h.get? cStatics = some (boot_o_2 w.params) := T.at_ 2 _ (TD_at _).1 (by decide)
  refine ⟨_, Heap.Ns.of_isNs (isNs2 e), ?_⟩
  unfold Heap.nsMap
  rw [e]
  exact st_none w.params

/-- room enough for n calls, one in another -/
structure Room (A : Around) (n : Nat) : Prop where
  handled : A.handled = none
  depth : A.depth + n < recursionLimit
  units : A.units + 20 * n < cLine
theorem Room.deeper {A : Around} {n : Nat} (h : Room A (n + 1)) (env : Env) : Room (A.deeper env) n :=
  ⟨h.handled, by have := h.depth; show A.depth + 1 + n < _; omega, by have := h.units; show A.units + 3 + _ < _; omega⟩

/-- a def of the top's -/
structure FnAt (P : Params) (a : Addr) (name : Str) (st : Stmt) (cd : Value) : Prop where
  obj : ∃ o pm, (TD P).get a = some o ∧ o.cls = .type "function" ∧ o.data = .func (docDef name (fArgs st) (fBody st) (fScope st) pm cd .none)
  code : ∃ c o vs t, cd = .ref c ∧ (TD P).get c = some o ∧ o.data = .fields vs ∧ vs[1]? = some (.str name t) ∧ c ≠ 157
  low : a ≠ 157

section
variable {w : World} {A : Around} {E : Value → Shared → Prop} {s : Shared}

theorem FnAt.get {a : Addr} {name : Str} {st : Stmt} {cd : Value} (f : FnAt w.params a name st cd) {h : Heap} (T : TopH w h) :
    ∃ o pm, h.get? a = some o ∧ o.data = .func (docDef name (fArgs st) (fBody st) (fScope st) pm cd .none) :=
  let ⟨o, pm, e, _, d⟩ := f.obj; ⟨o, pm, T.at_ a o e f.low, d⟩
theorem FnAt.rec_ {a : Addr} {name : Str} {st : Stmt} {cd : Value} (f : FnAt w.params a name st cd) {h : Heap} (T : TopH w h) : h.CodeRec cd name :=
  let ⟨c, o, vs, t, e, g, d, v, n⟩ := f.code; ⟨c, o, vs, t, e, T.at_ c o g n, d, v⟩

/-- entering a plain def -/
theorem enter {a : Addr} {name : Str} {st : Stmt} {cd : Value} {n : Nat} {args : List Value} {R : Result → Shared → Prop} (ps : List Str) (T : TopH w s.heap) (hr : Room A (n + 1)) (f : FnAt w.params a name st cd)
    (hps : (fArgs st).args.map (·.arg) = ps)
    (hloc : (ps.all fun x => decide ((fScope st).names.lookup x = some .local)) = true)
    (hbind : ∀ pm, bindArgs (docDef name (fArgs st) (fBody st) (fScope st) pm cd .none) ⟨args, []⟩ = pure (ps.zip args))
    (hco : ((fScope st).isCoroutine, (fScope st).isGenerator) = (false, false)) (hk : (fScope st).kind = .function) (hcell : ((fScope st).names.all fun x => decide (x.2 ≠ .cell)) = true)
    (h : ∀ h₁ tk, s.toks ≤ tk → Fr s.heap s.heap.objs.size h₁ (fun x => (ps.zip args).reverse.lookup x) → TopH w h₁ → Room (A.deeper (envOf name (fScope st) s.heap.objs.size a cd)) n →
      wpAny (model pw w) (A.deeper (envOf name (fScope st) s.heap.objs.size a cd)) (execs (fBody st) (envOf name (fScope st) s.heap.objs.size a cd))
        (fun f s' => R (.ok (.ret (match f with | .ret v => v | _ => .none))) s') (fun _ _ => False)
        { s with heap := h₁, toks := tk }) :
    codeAny (model pw w) A (.call (.ref a) ⟨args, []⟩) R s := by
  obtain ⟨o, pm, ho, hd⟩ := f.get T
  have hloc' : ∀ x ∈ ps.zip args, (fScope st).names.lookup x.1 = some .local := fun x hx =>
    of_decide_eq_true (List.all_eq_true.mp hloc x.1 (List.of_mem_zip hx).1)
  have hcell' : ∀ x ∈ (fScope st).names, x.2 ≠ .cell := fun x hx => of_decide_eq_true (List.all_eq_true.mp hcell x hx)
  refine codeAny_call_function (by have := hr.depth; omega) ho hd (Prod.mk.inj hco).1 (Prod.mk.inj hco).2 rfl (f.rec_ T) ?_
  rw [hbind pm]
  refine wpAny_pure (wpAny_newFunctionEnv hcell' hloc' (fun h₁ hns hsb => ⟨T.lim.fresh _ hsb, ?_⟩) hk)
  show codeAny _ _ (.func (fBody st) (envOf name (fScope st) s.heap.objs.size a cd)) _ _
  have F : Fr s.heap s.heap.objs.size h₁ (fun x => (ps.zip args).reverse.lookup x) := ⟨hns, fun b o e => hsb.extBut b o (Nat.ne_of_lt (Heap.lt_size e)) (Heap.get?_push_of_some _ e), Nat.le_refl _⟩
  refine codeAny_func (wpAny_mono (h h₁ _ (Nat.le_add_right _ _) F (T.keeps F.keep) (hr.deeper _)) (fun _ _ x => x) (fun _ _ x => x.elim))
end

noncomputable def dFields (o : Obj) : Array Value := match o.data with | .fields vs => vs | _ => #[]
noncomputable def tokAt (o : Obj) : Tok := match (dFields o).toList[1]? with | some (PySem.Value.str _ t) => t | _ => 0
noncomputable def pmOf (o : Obj) : Value := match o.data with | .func fd => fd.pyModule | _ => .none

noncomputable def seen3 {α : Type} (r : Option (Except Value α × Pos × KS)) : Option (Except Value α × Nat × Nat) :=
  @Option.rec (Except Value α × Pos × KS) (fun _ => Option (Except Value α × Nat × Nat)) none (fun x => some (x.1, x.2.2.n, x.2.2.toks)) r
/-- a tree that reads and changes nothing of the heap below -/
theorem use_exe {w : World} {A : Around} {α : Type} {t : Sem α} {s : Shared} {v : α} {n tk : Nat} {Q : α → Shared → Prop} {E : Value → Shared → Prop}
    (h : ∀ Γ p, seen3 (exe (S0 w) (rcQ w) Γ t p ⟨.nil, s.heap.objs.size, s.toks⟩) = some (.ok v, n, tk))
    (hq : ∀ h', h'.objs.size = n → (∀ b o, s.heap.get? b = some o → h'.get? b = some o) → s.heap.objs.size ≤ n → Q v { s with heap := h', toks := tk }) : wpAny (model pw w) A t Q E s := by
  intro Γ p _
  cases e : exe (S0 w) (rcQ w) Γ t p ⟨.nil, s.heap.objs.size, s.toks⟩ with
  | none => have := h Γ p; rw [e] at this; cases this
  | some r =>
    have h' := h Γ p
    rw [e] at h'
    obtain ⟨r1, p', ⟨T', n', tk'⟩⟩ := r
    cases h'
    have R : Rep s ⟨.nil, s.heap.objs.size, s.toks⟩ := ⟨rfl, rfl, fun i o e => by cases e⟩
    refine Sem.wp_mono _ Γ _ (fun a q s' h => ?_) (fun e q s h => absurd h.1 (by intro h; cases h)) _ _ (exe_sound (good_rcQ w) Γ t p _ _ _ _ s e R)
    obtain ⟨e1, -, R', H⟩ := h
    cases e1
    have z := hq s'.heap R'.size (fun b o hb => ((H.hole b (Heap.lt_size hb) rfl).2).trans hb) H.le
    have es : ({ s with heap := s'.heap, toks := tk' } : Shared) = s' := by
      obtain ⟨a1, a2, a3, a4, a5⟩ := s'
      have g := H.same.gens; have d := H.same.drawn; have o := H.same.os; have tt := R'.toks
      simp only at g d o tt
      rw [g, d, o, tt]
    rw [es] at z
    exact z

theorem Fr.off {h₀ h h' : Heap} {L : Addr} {m : Str → Option Value} {wr : List Addr} (F : Fr h₀ L h m) (hL : L ∉ wr) (hw : ∀ b ∈ wr, h₀.get? b = none)
    (k : ∀ b o, b ∉ wr → h.get? b = some o → h'.get? b = some o) : Fr h₀ L h' m :=
  ⟨F.ns.at' fun o e => k _ o hL e, fun b o e => k b o (fun hb => by rw [hw b hb] at e; cases e) (F.keep b o e), F.above⟩
theorem fresh_none (h : Heap) : h.get? h.objs.size = none := by
  cases e : h.get? h.objs.size with
  | none => rfl
  | some o => exact absurd (Heap.lt_size e) (Nat.lt_irrefl _)
theorem ne_of_none {h : Heap} {a b : Addr} {o : Obj} (h1 : h.get? a = some o) (h2 : h.get? b = none) : a ≠ b := by
  rintro rfl; rw [h1] at h2; cases h2

end Mine
namespace Mine
open PySem PySem.W PySem.Challenge PySem.Calls PyProof.Rows

theorem fnMul (P : Params) : FnAt P 77 (Str.ofString "mul") (stA 7) (.ref 76) :=
  ⟨⟨o77 P, pmOf (o77 P), by kernel_rfl, by kernel_rfl, by kernel_rfl⟩, ⟨76, o76 P, dFields (o76 P), tokAt (o76 P), rfl, by kernel_rfl, by kernel_rfl, by kernel_rfl, by decide⟩, by decide⟩

section
variable {w : World} {A : Around} {E : Value → Shared → Prop} {s : Shared} {Q : Value → Shared → Prop} {n : Nat}

theorem mul_call {x : Str} {t u : Tok} {k : Int} (T : TopH w s.heap) (hr : Room A (n + 1)) (hk : MulOk x k)
    (h : ∀ h' t' tk, (∀ b o, s.heap.get? b = some o → h'.get? b = some o) → Q (.str (Txt.mul x k) t') { s with heap := h', toks := tk }) :
    wpAny (model pw w) A (call (.ref 77) [.str x t, .int k u]) Q E s := by
  refine wpAny_call (enter [Str.ofString "a", Str.ofString "b"] T hr (fnMul _) (by kernel_rfl) (by kernel_rfl) (fun pm => by kernel_rfl) (by kernel_rfl) (by kernel_rfl) (by kernel_rfl) (fun h₁ tk htk F T₁ hr₁ => ?_))
  refine wpAny_execs_cons (wpAny_Return_some (wpAny_BinOp ?_))
  refine ld F rfl (ld F rfl (SB.mul hk fun t' k' => ?_))
  exact h h₁ t' k' F.keep
end
end Mine
namespace Mine
open PySem PySem.W PySem.Challenge PySem.Calls PyProof.Rows

/-- what is to hold behind a step, under a name of its own -/
theorem hideQ {α : Type} {M : Model} {A : Around} {t : Sem α} {Q₀ : α → Shared → Prop} {E : Value → Shared → Prop} {s : Shared} (h : ∀ Q, Q = Q₀ → wpAny M A t Q E s) : wpAny M A t Q₀ E s := h Q₀ rfl

/-- Walks, and what an item is may hang on the count of tokens -/
structure WalksX (w : World) (A : Around) (I : Addr) (fp wr : List Addr) (n : Nat) (P : Nat → Nat → Value → Prop) (St : Nat → Heap → Prop) : Prop where
  sub : ∀ b ∈ wr, b ∈ fp
  frame : ∀ i h h', St i h → (∀ b ∈ fp, ∀ o, h.get? b = some o → h'.get? b = some o) → St i h'
  item : ∀ i (s : Shared) (Q : Option Value → Shared → Prop) (E : Value → Shared → Prop), i < n → St i s.heap →
    (∀ v h' tk, P s.toks i v → St (i + 1) h' → (∀ b o, b ∉ wr → s.heap.get? b = some o → h'.get? b = some o) → Q (some v) { s with heap := h', toks := tk }) → wpAny (model pw w) A (pyNext (.ref I)) Q E s
  done : ∀ (s : Shared) (Q : Option Value → Shared → Prop) (E : Value → Shared → Prop), St n s.heap →
    (∀ h' tk, (∀ b o, b ∉ wr → s.heap.get? b = some o → h'.get? b = some o) → Q none { s with heap := h', toks := tk }) → wpAny (model pw w) A (pyNext (.ref I)) Q E s

theorem walksToX {w : World} {A : Around} {I : Addr} {fp wr : List Addr} {n : Nat} {P : Nat → Value → Prop} {St : Nat → Heap → Prop} (W : Walks pw w A I fp wr n P St) : WalksX w A I fp wr n (fun _ => P) St :=
  ⟨W.sub, W.frame, W.item, W.done⟩

noncomputable def SignAtK (x : Str) (tk i : Nat) (v : Value) : Prop := ∃ c u, x.cps[i]? = some c ∧ v = .str ⟨#[c]⟩ u ∧ tk ≤ u

theorem pyIter_strX {w : World} {A : Around} {E : Value → Shared → Prop} {s : Shared} {x : Str} {t : Tok} {Q : Value → Shared → Prop}
    (hQ : ∀ (o : Obj) (St : Nat → Heap → Prop), (∀ A' : Around, A'.handled = none → WalksX w A' s.heap.objs.size [s.heap.objs.size] [s.heap.objs.size] x.cps.size (SignAtK x) St) → St 0 (s.heap.push o) →
      Q (.ref s.heap.objs.size) { s with heap := s.heap.push o }) : wpAny (model pw w) A (pyIter (.str x t)) Q E s := by
  cases ha : x.cps.all (· < 128)
  · refine wpAny_pyIter_wide ha (hQ _ (fun i h => h.IsStrIter s.heap.objs.size "str_iterator" x t i) (fun A' hA => ⟨(Walks.strWide (prog := pw) (w := w) hA _ x t).sub, (Walks.strWide (prog := pw) (w := w) hA _ x t).frame, ?_, (Walks.strWide (prog := pw) (w := w) hA _ x t).done⟩) ⟨_, Heap.get?_push_size _ rfl, rfl, rfl⟩)
    intro i s Q E hi st hQ
    refine wpAny_pyNext_wide_item st (c := x.cps[i]) (by simp [hi]) fun h' hit' hs' => ?_
    exact hQ _ h' (s.toks + 1) ⟨_, _, by simp [hi], rfl, Nat.le_refl _⟩ hit' fun b o hb e => hs'.extBut b o (fun h => hb (by simp [h])) e
  · refine wpAny_pyIter_ascii ha (hQ _ (fun i h => h.IsStrIter s.heap.objs.size "str_ascii_iterator" x t i) (fun A' hA => ⟨(Walks.strAscii (prog := pw) (w := w) hA _ x t).sub, (Walks.strAscii (prog := pw) (w := w) hA _ x t).frame, ?_, (Walks.strAscii (prog := pw) (w := w) hA _ x t).done⟩) ⟨_, Heap.get?_push_size _ rfl, rfl, rfl⟩)
    intro i s Q E hi st hQ
    refine wpAny_pyNext_ascii_item st (c := x.cps[i]) (by simp [hi]) fun h' hit' hs' => ?_
    exact hQ _ h' (s.toks + 1) ⟨_, _, by simp [hi], rfl, Nat.le_refl _⟩ hit' fun b o hb e => hs'.extBut b o (fun h => hb (by simp [h])) e


/-- the locals L hold m, and what K says stands -/
structure Fx (K : Addr → Obj → Prop) (L : Addr) (h : Heap) (m : Str → Option Value) : Prop where
  ns : h.Ns L m
  keep : ∀ b o, K b o → h.get? b = some o
  off : ∀ o, ¬ K L o

theorem Fx.of {h₀ h : Heap} {L : Addr} {m : Str → Option Value} (F : Fr h₀ L h m) : Fx (fun b o => h₀.get? b = some o) L h m :=
  ⟨F.ns, F.keep, fun _ e => absurd (Heap.lt_size e) (Nat.not_lt.mpr F.above)⟩
theorem Fx.fr {K : Addr → Obj → Prop} {L : Addr} {h : Heap} {m : Str → Option Value} (F : Fx K L h m) : Fr {} L h m :=
  ⟨F.ns, fun b o e => by simp [Heap.get?] at e, Nat.zero_le _⟩
theorem Fx.set {K : Addr → Obj → Prop} {L : Addr} {h h' : Heap} {m m' : Str → Option Value} (F : Fx K L h m) (hn : h'.Ns L m') (hs : Heap.SameBut L h h') : Fx K L h' m' :=
  ⟨hn, fun b o e => (hs.2 b fun q => F.off o (q ▸ e)).trans (F.keep b o e), F.off⟩
theorem Fx.mono {K K' : Addr → Obj → Prop} {L : Addr} {h : Heap} {m : Str → Option Value} (F : Fx K L h m) (hk : ∀ b o, K' b o → K b o) : Fx K' L h m :=
  ⟨F.ns, fun b o e => F.keep b o (hk b o e), fun o e => F.off o (hk L o e)⟩
/-- all stands, but what lies at wr -/
theorem Fx.but {K : Addr → Obj → Prop} {L : Addr} {h h' : Heap} {m : Str → Option Value} {wr : List Addr} (F : Fx K L h m) (hL : L ∉ wr) (hw : ∀ b ∈ wr, ∀ o, ¬ K b o)
    (k : ∀ b o, b ∉ wr → h.get? b = some o → h'.get? b = some o) : Fx K L h' m :=
  ⟨F.ns.at' fun o e => k _ o hL e, fun b o e => k b o (fun hb => hw b hb o e) (F.keep b o e), F.off⟩
theorem Fx.keeps {K : Addr → Obj → Prop} {L : Addr} {h h' : Heap} {m : Str → Option Value} (F : Fx K L h m) (k : ∀ b o, h.get? b = some o → h'.get? b = some o) : Fx K L h' m :=
  ⟨F.ns.at' fun o e => k _ o e, fun b o e => k b o (F.keep b o e), F.off⟩
theorem Fx.push {K : Addr → Obj → Prop} {L : Addr} {h : Heap} {m : Str → Option Value} (F : Fx K L h m) (o : Obj) : Fx K L (h.push o) m :=
  F.keeps fun _ _ e => Heap.get?_push_of_some _ e
theorem Fx.ltL {K : Addr → Obj → Prop} {L : Addr} {h : Heap} {m : Str → Option Value} (F : Fx K L h m) : L < h.objs.size := F.ns.lt
theorem Fx.new {K : Addr → Obj → Prop} {L : Addr} {h : Heap} {m : Str → Option Value} (F : Fx K L h m) (o : Obj) (hf : o.isFreed = false := by rfl) :
    Fx (fun b o' => K b o' ∨ (b = h.objs.size ∧ o' = o)) L (h.push o) m :=
  ⟨(F.push o).ns, fun b o' e => e.elim (fun e => Heap.get?_push_of_some _ (F.keep b o' e)) (fun e => by rw [e.1, e.2]; exact Heap.get?_push_size _ hf),
    fun o' e => e.elim (F.off o') (fun e => absurd e.1 (Nat.ne_of_lt F.ltL))⟩
theorem Fx.notThere {K : Addr → Obj → Prop} {L : Addr} {h : Heap} {m : Str → Option Value} (F : Fx K L h m) : ∀ o, ¬ K h.objs.size o :=
  fun o e => absurd (Heap.lt_size (F.keep _ o e)) (Nat.lt_irrefl _)
theorem Fx.top {w : World} {h₀ : Heap} {K : Addr → Obj → Prop} {L : Addr} {h : Heap} {m : Str → Option Value} (F : Fx K L h m) (T : TopH w h₀) (hk : ∀ b o, h₀.get? b = some o → K b o) : TopH w h :=
  T.keeps fun b o e => F.keep b o (hk b o e)

theorem stx {M : Model} {A : Around} {E : Value → Shared → Prop} {s : Shared} {env : Env} {K : Addr → Obj → Prop} {m : Str → Option Value} {x : Str} {v : Value} {Q : Unit → Shared → Prop} (F : Fx K env.locals s.heap m)
    (h : ∀ h', Fx K env.locals h' (fun y => if y = x then some v else m y) → Heap.SameBut env.locals s.heap h' → Q () { s with heap := h', toks := s.toks + 1 })
    (hl : env.kindOf x = some .local := by rfl) (hp : (env.scope.kind == .class || (env.scope.kind == .module && env.locals != env.globals)) = false := by rfl) :
    wpAny M A (storeName env x v) Q E s :=
  wpAny_storeName_local hl F.ns (fun h' hn hs => h h' (F.set hn hs) hs) hp

section
variable {w : World} {A : Around} {s : Shared}
/-- a for over an iterator, its target a name; the count of tokens never falls -/
theorem loopX {env : Env} {R : Result → Shared → Prop} {x : Str} {px : Pos} {body : List Stmt} {I : Addr} {fp wr : List Addr} {n : Nat} {P : Nat → Nat → Value → Prop} {St : Nat → Heap → Prop} {K : Addr → Obj → Prop}
    (W : WalksX w A I fp wr n P St) (hx : env.kindOf x = some .local) (hp : (env.scope.kind == .class || (env.scope.kind == .module && env.locals != env.globals)) = false) (hL : env.locals ∉ fp) (hst : St 0 s.heap)
    (hw : ∀ b ∈ wr, ∀ o, ¬ K b o)
    (J : Nat → Heap → (Str → Option Value) → Prop) (stable : ∀ i h h' m, J i h m → (∀ b o, b ≠ env.locals → b ∉ wr → h.get? b = some o → h'.get? b = some o) → J i h' m)
    {m₀ : Str → Option Value} (F₀ : Fx K env.locals s.heap m₀) (h0 : J 0 s.heap m₀)
    (step : ∀ i v tk m h₁ tk₀ (K' : Addr → Obj → Prop), (∀ b o, K b o → K' b o) → (∀ b o, K' b o → K b o ∨ b ∈ fp) → i < n → s.toks ≤ tk₀ → tk₀ ≤ tk → P tk₀ i v → J i h₁ m → St (i + 1) h₁ →
      Fx K' env.locals h₁ (fun y => if y = x then some v else m y) →
      wpAny (model pw w) A (execs body env) (fun f s₂ => match f with
        | .next | .cont => ∃ h₂ tk₂ m₂, s₂ = { s with heap := h₂, toks := tk₂ } ∧ Fx K' env.locals h₂ m₂ ∧ J (i + 1) h₂ m₂
        | .brk => R (.ok .next) s₂
        | .ret v => R (.ok (.ret v)) s₂) (fun _ _ => False) { s with heap := h₁, toks := tk })
    (fin : ∀ h tk m, s.toks ≤ tk → Fx K env.locals h m → J n h m → R (.ok .next) { s with heap := h, toks := tk }) :
    codeAny (model pw w) A (.forLoop (.Name x px) (.ref I) body [] env) R s := by
  have hLw : env.locals ∉ wr := fun h => hL (W.sub _ h)
  refine codeAny_forLoop (fun k s' => ∃ h tk i m, s' = { s with heap := h, toks := tk } ∧ s.toks ≤ tk ∧ St i h ∧ Fx K env.locals h m ∧ J i h m ∧ i ≤ n ∧ k = n + 1 - i) ?_ (n + 1) ⟨s.heap, s.toks, 0, m₀, rfl, Nat.le_refl _, hst, F₀, h0, Nat.zero_le _, rfl⟩
  intro k s' JJ
  refine hideG fun GG hGG => ?_
  obtain ⟨h, tk, i, m, rfl, htk, hs, F, hJ, hi, rfl⟩ := JJ
  subst hGG
  by_cases hlt : i < n
  · refine wpAny_with_toks (n := tk) (Nat.le_refl _) (W.item i _ _ _ hlt hs fun v h₁ tk₁ hP hs₁ hk₁ hle => ?_)
    have hle : tk ≤ tk₁ := hle
    have F₁ := F.but hLw hw hk₁
    have hJ₁ := stable i h h₁ m hJ (fun b o _ hb => hk₁ b o hb)
    refine wpAny_assign_Name (stx F₁ (fun h₂ F₂ hs₂ => ?_) hx hp)
    have hJ₂ := stable i h₁ h₂ m hJ₁ (fun b o hb _ e => (hs₂.2 b hb).trans e)
    have hst₂ : St (i + 1) h₂ := W.frame _ _ _ hs₁ fun b hb o e => (hs₂.2 b fun q => hL (q ▸ hb)).trans e
    have F₃ : Fx (fun b o => K b o ∨ (b ∈ fp ∧ h₂.get? b = some o)) env.locals h₂ (fun y => if y = x then some v else m y) :=
      ⟨F₂.ns, fun b o e => e.elim (F₂.keep b o) And.right, fun o e => e.elim (F₂.off o) fun e => hL e.1⟩
    have big := wpAny_toks (step i v (tk₁ + 1) m h₂ tk (fun b o => K b o ∨ (b ∈ fp ∧ h₂.get? b = some o)) (fun _ _ e => .inl e) (fun _ _ e => e.elim .inl fun e => .inr e.1) hlt htk (by lia) hP hJ₂ hst₂ F₃)
    refine wpAny_mono (wpAny_mono big (fun f s₃ h₃ => ?_) (fun _ _ e => e.2.elim)) (fun _ _ e => e) fun _ _ e => e
    obtain ⟨htk₃, hf⟩ := h₃
    have fin' : ∀ {s₃ : Shared}, tk₁ + 1 ≤ s₃.toks → (∃ h₂' tk₂ m₂, s₃ = { s with heap := h₂', toks := tk₂ } ∧ Fx (fun b o => K b o ∨ (b ∈ fp ∧ h₂.get? b = some o)) env.locals h₂' m₂ ∧ J (i + 1) h₂' m₂) →
        ∃ k', k' < n + 1 - i ∧ ∃ h tk i m, s₃ = { s with heap := h, toks := tk } ∧ s.toks ≤ tk ∧ St i h ∧ Fx K env.locals h m ∧ J i h m ∧ i ≤ n ∧ k' = n + 1 - i := by
      rintro s₃ ht ⟨h₃, tk₃, m₃, rfl, F₄, hJ₄⟩
      have ht : tk₁ + 1 ≤ tk₃ := ht
      exact ⟨n + 1 - (i + 1), by lia, h₃, tk₃, i + 1, m₃, rfl, by lia, W.frame _ _ _ hst₂ fun b hb o e => F₄.keep b o (.inr ⟨hb, e⟩), F₄.mono fun b o e => .inl e, hJ₄, hlt, rfl⟩
    cases f with
    | next => exact fin' htk₃ hf
    | cont => exact fin' htk₃ hf
    | brk => exact hf
    | ret v => exact hf
  · have hin : i = n := by lia
    subst hin
    refine wpAny_with_toks (n := tk) (Nat.le_refl _) (W.done _ _ _ hs fun h₁ tk₁ hk₁ hle => wpAny_execs_nil (fin h₁ tk₁ m ?_ (F.but hLw hw hk₁) (stable _ h h₁ m hJ fun b o _ hb => hk₁ b o hb)))
    exact Nat.le_trans htk hle
end

section
variable {w : World} {A : Around} {s : Shared}
noncomputable abbrev kp (h : Heap) : Addr → Obj → Prop := fun b o => h.get? b = some o
/-- entering a plain def -/
theorem enterX {a : Addr} {name : Str} {st : Stmt} {cd : Value} {n : Nat} {args : List Value} {R : Result → Shared → Prop} (ps : List Str) (T : TopH w s.heap) (hr : Room A (n + 1)) (f : FnAt w.params a name st cd)
    (hps : (fArgs st).args.map (·.arg) = ps)
    (hloc : (ps.all fun x => decide ((fScope st).names.lookup x = some .local)) = true)
    (hbind : ∀ pm, bindArgs (docDef name (fArgs st) (fBody st) (fScope st) pm cd .none) ⟨args, []⟩ = pure (ps.zip args))
    (hco : ((fScope st).isCoroutine, (fScope st).isGenerator) = (false, false)) (hk : (fScope st).kind = .function) (hcell : ((fScope st).names.all fun x => decide (x.2 ≠ .cell)) = true)
    (h : ∀ h₁ tk, s.toks ≤ tk → Fx (kp s.heap) s.heap.objs.size h₁ (fun x => (ps.zip args).reverse.lookup x) → TopH w h₁ → Room (A.deeper (envOf name (fScope st) s.heap.objs.size a cd)) n →
      wpAny (model pw w) (A.deeper (envOf name (fScope st) s.heap.objs.size a cd)) (execs (fBody st) (envOf name (fScope st) s.heap.objs.size a cd))
        (fun f s' => R (.ok (.ret (match f with | .ret v => v | _ => .none))) s') (fun _ _ => False)
        { s with heap := h₁, toks := tk }) :
    codeAny (model pw w) A (.call (.ref a) ⟨args, []⟩) R s :=
  enter ps T hr f hps hloc hbind hco hk hcell fun h₁ tk htk F T₁ hr₁ => h h₁ tk htk (Fx.of F) T₁ hr₁
end

/-- no reader has booked a token -/
theorem st_none2 (P : Params) : nsFind (stEs P) sharingNotToldKey = none := by kernel_rfl
theorem TopH.booked {w : World} {h : Heap} (T : TopH w h) : NoneBooked h := by
  have e : h.get? cStatics = some (boot_o_2 w.params) := T.at_ 2 _ (TD_at _).1 (by decide)
  refine ⟨_, Heap.Ns.of_isNs (isNs2 e), ?_⟩
  unfold Heap.nsMap
  rw [e]
  exact st_none2 w.params
end Mine
namespace Mine
open PySem PySem.W PySem.Challenge PySem.Calls PyProof.Rows

theorem fnConcat (P : Params) : FnAt P 84 (Str.ofString "concat") (stA 8) (.ref 83) :=
  ⟨⟨o84 P, pmOf (o84 P), by kernel_rfl, by kernel_rfl, by kernel_rfl⟩, ⟨83, o83 P, dFields (o83 P), tokAt (o83 P), rfl, by kernel_rfl, by kernel_rfl, by kernel_rfl, by decide⟩, by decide⟩
theorem fnCountOf (P : Params) : FnAt P 91 (Str.ofString "countOf") (stA 9) (.ref 90) :=
  ⟨⟨o91 P, pmOf (o91 P), by kernel_rfl, by kernel_rfl, by kernel_rfl⟩, ⟨90, o90 P, dFields (o90 P), tokAt (o90 P), rfl, by kernel_rfl, by kernel_rfl, by kernel_rfl, by decide⟩, by decide⟩

theorem hasattr_str (w : World) (Γ : Ctx) (p : Pos) (n tk : Nat) (x : Str) (t u : Tok) :
    seen3 (exe (S0 w) (rcQ w) Γ (call (.builtin "hasattr") [.str x t, .str (Str.ofString "__getitem__") u]) p ⟨.nil, n, tk⟩) = some (.ok (.bool true), Nat.succ n, tk) := by kernel_rfl

section
variable {w : World} {A : Around} {E : Value → Shared → Prop} {s : Shared} {Q : Value → Shared → Prop} {n : Nat}

/-- a built-in by its name -/
theorem nameB {env : Env} {x : Str} {p : Pos} {v : Value} (T : TopH w s.heap) (h : Q v s) (hn : gl w.params x = none) (hb : bl w.params x = some v)
    (hk : env.scope.kind = .function) (hx : env.kindOf x = some .globalImplicit) (hd : (x == ("__debug__" : Str)) = false) (hgl : env.globals = mainGlobals) (hbl : env.builtins = builtinsNs) :
    wpAny (model pw w) A (eval (.Name x p) env) Q E s :=
  Name_function_global hk hx (loadGlobal_builtin (hgl ▸ T.g) hn (hbl ▸ T.b) hb h) hd
/-- a name of the text's own -/
theorem nameG {env : Env} {x : Str} {p : Pos} {v : Value} (T : TopH w s.heap) (h : Q v s) (hn : gl w.params x = some v)
    (hk : env.scope.kind = .function) (hx : env.kindOf x = some .globalImplicit) (hd : (x == ("__debug__" : Str)) = false) (hgl : env.globals = mainGlobals) :
    wpAny (model pw w) A (eval (.Name x p) env) Q E s :=
  Name_function_global hk hx (loadGlobal_global (hgl ▸ T.g) hn h) hd

theorem concat_call {x y : Str} {t u : Tok} (T : TopH w s.heap) (hr : Room A (n + 1)) (hsz : x.length + y.length ≤ sizeLine)
    (h : ∀ h' t' tk, (∀ b o, s.heap.get? b = some o → h'.get? b = some o) → Q (.str (x ++ y) t') { s with heap := h', toks := tk }) :
    wpAny (model pw w) A (call (.ref 84) [.str x t, .str y u]) Q E s := by
  refine wpAny_call (enter [Str.ofString "a", Str.ofString "b"] T hr (fnConcat _) (by kernel_rfl) (by kernel_rfl) (fun pm => by kernel_rfl) (by kernel_rfl) (by kernel_rfl) (by kernel_rfl) (fun h₁ tk htk F T₁ hr₁ => ?_))
  refine wpAny_execs_cons (wpAny_If (wpAny_isTrue_Not (wpAny_isTrue_value (Call_Name2 (nameB (v := .builtin "hasattr") T₁ ?_ (by kernel_rfl) (by kernel_rfl) (by kernel_rfl) (by kernel_rfl) (by kernel_rfl) rfl rfl)))))
  refine callWith_builtin rfl (evalArgs_plain (spliced_cons (ld F rfl (spliced_cons (Constant_str (spliced_nil ?_))))))
  refine use_exe (fun Γ p => hasattr_str w Γ p _ _ x t _) (fun h₂ hsz₂ hk₂ hle₂ => ?_)
  refine wpAny_truthy_bool ?_
  show wpAny _ _ (execs [] _) _ _ _
  have F₂ : Fr s.heap s.heap.objs.size h₂ (fun z => ([Str.ofString "a", Str.ofString "b"].zip [Value.str x t, Value.str y u]).reverse.lookup z) := ⟨F.ns.at' fun o e => hk₂ _ o e, fun b o e => hk₂ _ o (F.keep b o e), F.above⟩
  refine wpAny_execs_nil ?_
  refine wpAny_execs_cons (wpAny_Return_some (wpAny_BinOp ?_))
  refine ld F₂ rfl (ld F₂ rfl (SB.add (fun t' k' => ?_) hsz))
  exact h h₂ t' k' F₂.keep

/-- `is` of two strs of unlike tokens -/
theorem is_strs {x y : Str} {t u : Tok} (h0 : (t == 0 || u == 0) = false) (htu : (t == u) = false) (hb : NoneBooked s.heap) (h : ∀ b, (b = true → x = y) → Q (.bool b) s) :
    wpAny (model pw w) A (compareOp .Is (.str x t) (.str y u)) Q E s := by
  show wpAny _ A (do return .bool (← isSame (.str x t) (.str y u))) Q E s
  cases hxy : (x == y)
  · rw [isSame_str_other x y t u h0 htu hxy]
    exact wpAny_bind (wpAny_pure (wpAny_pure (h false (fun e => nomatch e))))
  · exact wpAny_bind (wpAny_isSame_str h0 hb fun b => wpAny_pure (h b fun _ => eq_of_beq hxy))

theorem toks_apart {u u' a : Nat} (hu : 0 < u) (hut : u < a) (h : a ≤ u') : (u' == 0 || u == 0) = false ∧ (u' == u) = false := by
  have h1 : u' ≠ 0 := by lia
  have h2 : u ≠ 0 := by lia
  have h3 : u' ≠ u := by lia
  simp [h1, h2, h3]

noncomputable def cnt (c : Nat) (l : List Nat) : Int := ((l.filter (· == c)).length : Nat)

theorem cnt_step {c d : Nat} {l : List Nat} {i : Nat} (h : l[i]? = some d) : cnt c (l.take (i + 1)) = cnt c (l.take i) + (if d = c then 1 else 0) := by
  have e : l.take (i + 1) = l.take i ++ [d] := by rw [List.take_add_one, h]; rfl
  unfold cnt
  rw [e, List.filter_append]
  by_cases hd : d = c
  · simp [hd]
  · simp [hd]

theorem countOf_call {x : Str} {t u : Tok} {c : Nat} (T : TopH w s.heap) (hr : Room A (n + 1)) (hu : 0 < u) (hut : u < s.toks)
    (h : ∀ h' t' tk, (∀ b o, s.heap.get? b = some o → h'.get? b = some o) → Q (.int (cnt c x.cps.toList) t') { s with heap := h', toks := tk }) :
    wpAny (model pw w) A (call (.ref 91) [.str x t, .str ⟨#[c]⟩ u]) Q E s := by
  refine wpAny_call (enterX [Str.ofString "a", Str.ofString "b"] T hr (fnCountOf _) (by kernel_rfl) (by kernel_rfl) (fun pm => by kernel_rfl) (by kernel_rfl) (by kernel_rfl) (by kernel_rfl) (fun h₁ tk htk F T₁ hr₁ => ?_))
  refine wpAny_execs_cons (wpAny_Assign_Name (wpAny_Constant_int (stx F fun h₂ F₂ _ => ?_)))
  refine wpAny_execs_cons (wpAny_For (ld F₂.fr rfl (pyIter_strX fun o St W h0 => ?_)))
  refine loopX (W _ hr₁.handled) (by kernel_rfl) (by kernel_rfl) (by simpa [envOf] using Nat.ne_of_lt F₂.ltL) h0 (by simpa using F₂.notThere)
    (fun i _ m => ∃ t', m (Str.ofString "b") = some (.str ⟨#[c]⟩ u) ∧ m (Str.ofString "count") = some (.int (cnt c (x.cps.toList.take i)) t'))
    (fun _ _ _ _ e _ => e) (F₂.push o) ⟨_, rfl, rfl⟩ ?_ ?_
  · rintro i v tk₁ m h₃ tk₀ K' hK hK' hi htk₀ htk₁ ⟨d, u', hd, rfl, hu'⟩ ⟨t', eb, ec⟩ hst F₄
    have T₄ : TopH w h₃ := F₄.top T hK
    dsimp only at htk₀
    obtain ⟨e0, e1⟩ := toks_apart (u := u) (u' := u') hu hut (Nat.le_trans (Nat.le_trans htk (Nat.le_trans (Nat.le_add_right tk 2) htk₀)) hu')
    have hd' : x.cps.toList[i]? = some d := by simpa using hd
    have hc := cnt_step (c := c) hd'
    refine wpAny_execs_cons (wpAny_If (wpAny_mono (Q := fun b s' => b = decide (d = c) ∧ s' = { s with heap := h₃, toks := tk₁ }) (E := fun _ _ => False) ?_ ?_ (fun _ _ e => e)))
    · refine wpAny_isTrue_BoolOp (wpAny_allTrue_Or_cons (wpAny_isTrue_Compare1 (ld F₄.fr rfl (ld F₄.fr eb (is_strs e0 e1 T₄.booked fun b hb => wpAny_truthy_bool ?_)))))
      have ones : (∀ d c : Nat, (Str.mk #[d] = Str.mk #[c]) ↔ d = c) := fun d c => by simp
      cases b
      · refine wpAny_allTrue_Or_cons (wpAny_isTrue_Compare1 (ld F₄.fr rfl (ld F₄.fr eb (P.eq_str (wpAny_truthy_bool ?_)))))
        by_cases hdc : d = c
        · subst hdc
          have : (([d] : List Nat) == [d]) = true := by simp
          simp only [this]
          simp
        · have : (([d] : List Nat) == [c]) = false := by simp [hdc]
          simp only [this]
          exact wpAny_allTrue_Or_nil ⟨by simp [hdc], rfl⟩
      · have := (ones _ _).mp (hb rfl)
        exact ⟨by simp [this], rfl⟩
    · rintro b s' ⟨rfl, rfl⟩
      by_cases hdc : d = c
      · simp only [hdc, decide_true, if_true]
        simp only [hdc, if_true] at hc
        refine wpAny_execs_cons (wpAny_AugAssign_Name (ldn F₄.fr ec (wpAny_Constant_int (wpAny_iadd_int (stx F₄ fun h₅ F₅ _ => ?_)))))
        refine wpAny_execs_nil (wpAny_execs_nil ⟨_, _, _, rfl, F₅, tk₁ + 1, eb, ?_⟩)
        rw [hc]; exact if_pos rfl
      · simp only [hdc, decide_false, Bool.false_eq_true, if_false]
        simp only [hdc, if_false, Int.add_zero] at hc
        refine wpAny_execs_nil (wpAny_execs_nil ⟨_, _, _, rfl, F₄, t', eb, ?_⟩)
        rw [hc]; exact ec
  · rintro h₃ tk₁ m htk₁ F₃ ⟨t', eb, ec⟩
    refine wpAny_execs_cons (wpAny_Return_some (ld F₃.fr ec ?_))
    have e : x.cps.toList.take x.cps.size = x.cps.toList := List.take_of_length_le (by simp)
    rw [e]
    exact h _ _ _ F₃.keep
end
end Mine
namespace Mine
open PySem PySem.W PySem.Challenge PySem.Calls PyProof.Rows

theorem gone_of_size {h : Heap} {a : Addr} (e : h.objs.size ≤ a) : h.get? a = none := by
  cases g : h.get? a with
  | none => rfl
  | some o => exact absurd (Heap.lt_size g) (Nat.not_lt.mpr e)

/-- what a turn of a loop leaves -/
noncomputable def Turn (s : Shared) (K' : Addr → Obj → Prop) (L : Addr) (J : Heap → (Str → Option Value) → Prop) (R : Flow → Shared → Prop) (f : Flow) (s₂ : Shared) : Prop :=
  match f with
  | .next | .cont => ∃ h₂ tk₂ m₂, s₂ = { s with heap := h₂, toks := tk₂ } ∧ Fx K' L h₂ m₂ ∧ J h₂ m₂
  | .brk => R .next s₂
  | .ret v => R (.ret v) s₂

section
variable {w : World} {A : Around} {s : Shared}
/-- a for over numbers in a row: what comes after the range stands -/
theorem rangeLoop {env : Env} {x : Str} {px : Pos} {body : List Stmt} {r : Addr} {lo hi : Int} {t u v : Tok} {n : Nat} {K : Addr → Obj → Prop} {m₀ : Str → Option Value} {Q : Flow → Shared → Prop} {E : Value → Shared → Prop}
    (hh : A.handled = none) (hr : IsRange s.heap r lo hi 1 t u v) (hn : (hi - lo).toNat = n) (h1 : -(2 ^ 62) ≤ lo) (h2 : lo < 2 ^ 62) (h3 : -(2 ^ 62) ≤ hi) (h4 : hi < 2 ^ 62)
    (hx : env.kindOf x = some .local) (hp : (env.scope.kind == .class || (env.scope.kind == .module && env.locals != env.globals)) = false)
    (F : Fx K env.locals s.heap m₀)
    (J : Nat → Heap → (Str → Option Value) → Prop) (stable : ∀ i h h' m, J i h m → (∀ b o, b ≠ env.locals → s.heap.get? b ≠ none → h.get? b = some o → h'.get? b = some o) → J i h' m)
    (h0 : J 0 s.heap m₀)
    (step : ∀ i t tk m h₁ (K' : Addr → Obj → Prop), (∀ b o, K b o → K' b o) → (∀ b o, K' b o → K b o ∨ s.heap.get? b = none) → i < n → s.toks ≤ tk → J i h₁ m →
      Fx K' env.locals h₁ (fun y => if y = x then some (.int (lo + i) t) else m y) →
      wpAny (model pw w) A (execs body env) (Turn s K' env.locals (J (i + 1)) Q) (fun _ _ => False) { s with heap := h₁, toks := tk })
    (fin : ∀ h tk m, s.toks ≤ tk → Fx K env.locals h m → J n h m → Q .next { s with heap := h, toks := tk }) :
    wpAny (model pw w) A (pyIter (.ref r)) (fun it s₂ => codeAny (model pw w) A (.forLoop (.Name x px) it body [] env) (fun r s' => match r with | .ok f => Q f s' | .error e => cameBackBy (model pw w) A env E e s') s₂) E s := by
  refine wpAny_pyIter_range hr (small_one h1 h2 h3 h4) ?_
  have hsz : Builtin.Range.rangeSize lo hi 1 = ((hi - lo).toNat : Int) := by rw [rangeSize_one]; split <;> lia
  have hI : s.heap.get? s.heap.objs.size = none := gone_of_size (Nat.le_refl _)
  subst hn
  refine loopX (walksToX (Walks.range (prog := pw) (w := w) hh s.heap.objs.size lo 1 (hi - lo).toNat)) hx hp (by simpa using Nat.ne_of_lt F.ltL) ?_ (by simpa using F.notThere) J ?_ (F.push _) ?_ ?_ ?_
  · have e : lo + ((0 : Nat) : Int) * 1 = lo := by simp
    have e2 : (((hi - lo).toNat : Int) - ((0 : Nat) : Int)) = Builtin.Range.rangeSize lo hi 1 := by rw [hsz]; simp
    rw [e, e2]
    exact Heap.get?_push_size _ rfl
  · intro i h h' m hJ k
    exact stable i h h' m hJ fun b o hb hne e => k b o hb (fun hb' => hne (by simp at hb'; rw [hb']; exact hI)) e
  · exact stable 0 _ _ m₀ h0 fun b o _ _ e => Heap.get?_push_of_some _ e
  · rintro i v tk m h₁ tk₀ K' hK hK' hi htk₀ htk₁ ⟨t', rfl⟩ hJ hst F₁
    have e : lo + (i : Int) * 1 = lo + i := by simp
    rw [e] at F₁
    exact wpAny_mono (step i t' tk m h₁ K' hK (fun b o e => (hK' b o e).imp id fun hb => by simp at hb; rw [hb]; exact hI) hi (Nat.le_trans htk₀ htk₁) hJ F₁) (fun f s₂ hf => by cases f <;> exact hf) fun _ _ e => e
  · intro h tk m htk F₁ hJ
    exact fin h tk m htk F₁ hJ

/-- a for over a list that stays -/
theorem listLoop {env : Env} {x : Str} {px : Pos} {body : List Stmt} {l : Addr} {items : Array Value} {K : Addr → Obj → Prop} {m₀ : Str → Option Value} {Q : Flow → Shared → Prop} {E : Value → Shared → Prop}
    (hh : A.handled = none) {o : Obj} (hK : K l o) (hc : o.cls = .type "list") (hd : ∃ n, o.data = .seq items n)
    (hx : env.kindOf x = some .local) (hp : (env.scope.kind == .class || (env.scope.kind == .module && env.locals != env.globals)) = false)
    (F : Fx K env.locals s.heap m₀)
    (J : Nat → Heap → (Str → Option Value) → Prop) (stable : ∀ i h h' m, J i h m → (∀ b o, b ≠ env.locals → s.heap.get? b ≠ none → h.get? b = some o → h'.get? b = some o) → J i h' m)
    (h0 : J 0 s.heap m₀)
    (step : ∀ i v tk m h₁ (K' : Addr → Obj → Prop), (∀ b o, K b o → K' b o) → (∀ b o, K' b o → K b o ∨ s.heap.get? b = none) → items[i]? = some v → s.toks ≤ tk → J i h₁ m →
      Fx K' env.locals h₁ (fun y => if y = x then some v else m y) →
      wpAny (model pw w) A (execs body env) (Turn s K' env.locals (J (i + 1)) Q) (fun _ _ => False) { s with heap := h₁, toks := tk })
    (fin : ∀ h tk m, s.toks ≤ tk → Fx K env.locals h m → J items.size h m → Q .next { s with heap := h, toks := tk }) :
    wpAny (model pw w) A (pyIter (.ref l)) (fun it s₂ => codeAny (model pw w) A (.forLoop (.Name x px) it body [] env) (fun r s' => match r with | .ok f => Q f s' | .error e => cameBackBy (model pw w) A env E e s') s₂) E s := by
  have hl : s.heap.IsList l items := ⟨o, F.keep _ _ hK, hc, hd⟩
  refine wpAny_pyIter_list hl ?_
  have hI : s.heap.get? s.heap.objs.size = none := gone_of_size (Nat.le_refl _)
  have hlI : l ≠ s.heap.objs.size := Nat.ne_of_lt (Heap.lt_size (F.keep _ _ hK))
  have hLl : env.locals ≠ l := fun e => F.off o (e ▸ hK)
  refine loopX (walksToX (Walks.list (prog := pw) (w := w) hh s.heap.objs.size l hlI items)) hx hp ?_ ?_ ?_ J ?_ (F.push _) ?_ ?_ ?_
  · simp only [List.mem_cons, List.not_mem_nil, or_false, not_or]
    exact ⟨Nat.ne_of_lt F.ltL, hLl⟩
  · exact ⟨⟨_, Heap.get?_push_size _ rfl, rfl, rfl⟩, ⟨o, Heap.get?_push_of_some _ (F.keep _ _ hK), hc, hd⟩⟩
  · simpa using F.notThere
  · intro i h h' m hJ k
    exact stable i h h' m hJ fun b o hb hne e => k b o hb (fun hb' => hne (by simp at hb'; rw [hb']; exact hI)) e
  · exact stable 0 _ _ m₀ h0 fun b o _ _ e => Heap.get?_push_of_some _ e
  · rintro i v tk m h₁ tk₀ K' hK₁ hK' hi htk₀ htk₁ hv hJ hst F₁
    refine wpAny_mono (step i v tk m h₁ (fun b o => K' b o ∧ (K b o ∨ s.heap.get? b = none)) (fun b o e => ⟨hK₁ b o e, .inl e⟩) (fun b o e => e.2) hv (Nat.le_trans htk₀ htk₁) hJ (F₁.mono fun b o e => e.1)) (fun f s₂ hf => ?_) fun _ _ e => e
    have key : (∃ h₂ tk₂ m₂, s₂ = { s with heap := h₂, toks := tk₂ } ∧ Fx (fun b o => K' b o ∧ (K b o ∨ s.heap.get? b = none)) env.locals h₂ m₂ ∧ J (i + 1) h₂ m₂) → ∃ h₂ tk₂ m₂, s₂ = { s with heap := h₂, toks := tk₂ } ∧ Fx K' env.locals h₂ m₂ ∧ J (i + 1) h₂ m₂ := by
      rintro ⟨h₂, tk₂, m₂, rfl, F₂, hJ₂⟩
      refine ⟨h₂, tk₂, m₂, rfl, ⟨F₂.ns, fun b o' e => ?_, F₁.off⟩, hJ₂⟩
      rcases hK' b o' e with e' | e'
      · exact F₂.keep b o' ⟨e, .inl e'⟩
      · simp at e'
        rcases e' with e' | e'
        · exact F₂.keep b o' ⟨e, .inr (by rw [e']; exact hI)⟩
        · have : o' = o := by
            have a := F₁.keep b o' e
            have c := F₁.keep b o (e' ▸ hK₁ l o hK)
            rw [a] at c; exact Option.some.inj c
          subst this
          subst e'
          exact F₂.keep _ _ ⟨e, .inl hK⟩
    cases f with
    | next => exact key hf
    | cont => exact key hf
    | brk => exact hf
    | ret v => exact hf
  · intro h tk m htk F₁ hJ
    exact fin h tk m htk F₁ hJ
end
end Mine
namespace Mine
open PySem PySem.W PySem.Challenge PySem.Calls PyProof.Rows

theorem Fx.wr {K : Addr → Obj → Prop} {L a : Addr} {h h' : Heap} {m : Str → Option Value} (F : Fx K L h m) (hs : Heap.SameBut a h h') (ha : a ≠ L) (hK : ∀ o, ¬ K a o) : Fx K L h' m :=
  F.but (wr := [a]) (by simpa using ha.symm) (by simpa using hK) fun b o hb e => (hs.2 b (by simpa using hb)).trans e

section
variable {w : World} {A : Around} {s : Shared} {E : Value → Shared → Prop}

theorem gcall {env : Env} {x name : Str} {f : Addr} {st : Stmt} {cd : Value} {p pos : Pos} {args : List Expr} {a : Sem Value} {trees : List (Bool × Sem Value)} {Q : Value → Shared → Prop} (T : TopH w s.heap) (fn : FnAt w.params f name st cd)
    (hn : gl w.params x = some (.ref f)) (ht : backTo pos (starEach args env) = (false, a) :: trees)
    (h : wpAny (model pw w) A (spliced ((false, a) :: trees)) (fun vs s₁ => TopH w s₁.heap ∧ wpAny (model pw w) A (call (.ref f) vs) Q E s₁) E s)
    (hk : env.scope.kind = .function) (hx : env.kindOf x = some .globalImplicit) (hd : (x == ("__debug__" : Str)) = false) (hgl : env.globals = mainGlobals) :
    wpAny (model pw w) A (eval (.Call (.Name x p) args [] pos) env) Q E s := by
  obtain ⟨o, pm, e, _, d⟩ := fn.obj
  refine Call_Name ht (nameG T (callWith_function (o := o) (fd := _) (evalArgs_plain (wpAny_mono h (fun vs s₁ h₁ => ⟨⟨h₁.1.at_ f o e fn.low, d⟩, h₁.2⟩) fun _ _ e => e))) hn hk hx hd hgl)

theorem bcall {env : Env} {x : Str} {id : String} {p pos : Pos} {args : List Expr} {a : Sem Value} {trees : List (Bool × Sem Value)} {Q : Value → Shared → Prop} (T : TopH w s.heap)
    (hn : gl w.params x = none) (hb : bl w.params x = some (.builtin id)) (ht : backTo pos (starEach args env) = (false, a) :: trees) (hplain : (((false, a) :: trees).any (·.1)) = false)
    (h : wpAny (model pw w) A (spliced ((false, a) :: trees)) (fun vs s₁ => wpAny (model pw w) A (call (.builtin id) vs) Q E s₁) E s)
    (hk : env.scope.kind = .function) (hx : env.kindOf x = some .globalImplicit) (hd : (x == ("__debug__" : Str)) = false) (hgl : env.globals = mainGlobals) (hbl : env.builtins = builtinsNs) :
    wpAny (model pw w) A (eval (.Call (.Name x p) args [] pos) env) Q E s :=
  Call_Name ht (nameB T (callWith_builtin hplain (evalArgs_plain h)) hn hb hk hx hd hgl hbl)
theorem tcall {env : Env} {x : Str} {id : String} {p pos : Pos} {args : List Expr} {a : Sem Value} {trees : List (Bool × Sem Value)} {Q : Value → Shared → Prop} (T : TopH w s.heap)
    (hn : gl w.params x = none) (hb : bl w.params x = some (.type id)) (ht : backTo pos (starEach args env) = (false, a) :: trees) (hplain : (((false, a) :: trees).any (·.1)) = false)
    (h : wpAny (model pw w) A (spliced ((false, a) :: trees)) (fun vs s₁ => wpAny (model pw w) A (call (.type id) vs) Q E s₁) E s)
    (hk : env.scope.kind = .function) (hx : env.kindOf x = some .globalImplicit) (hd : (x == ("__debug__" : Str)) = false) (hgl : env.globals = mainGlobals) (hbl : env.builtins = builtinsNs) :
    wpAny (model pw w) A (eval (.Call (.Name x p) args [] pos) env) Q E s :=
  Call_Name ht (nameB T (PyProof.Rows.callWith_type hplain (evalArgs_plain h)) hn hb hk hx hd hgl hbl)

theorem gcall1 {env : Env} {x name : Str} {f : Addr} {st : Stmt} {cd : Value} {p pos : Pos} {e1 : Expr} {Q : Value → Shared → Prop} (T : TopH w s.heap) (fn : FnAt w.params f name st cd)
    (hn : gl w.params x = some (.ref f)) (ht : backTo pos (starEach [e1] env) = [(false, eval e1 env)])
    (h : wpAny (model pw w) A (eval e1 env) (fun v1 s1 => TopH w s1.heap ∧ wpAny (model pw w) A (call (.ref f) [v1]) Q E s1) E s)
    (hk : env.scope.kind = .function) (hx : env.kindOf x = some .globalImplicit) (hd : (x == ("__debug__" : Str)) = false) (hgl : env.globals = mainGlobals) :
    wpAny (model pw w) A (eval (.Call (.Name x p) [e1] [] pos) env) Q E s :=
  gcall T fn hn ht (spliced_cons (wpAny_mono h (fun _ _ x => spliced_nil x) fun _ _ e => e)) hk hx hd hgl
theorem gcall2 {env : Env} {x name : Str} {f : Addr} {st : Stmt} {cd : Value} {p pos : Pos} {e1 e2 : Expr} {Q : Value → Shared → Prop} (T : TopH w s.heap) (fn : FnAt w.params f name st cd)
    (hn : gl w.params x = some (.ref f)) (ht : backTo pos (starEach [e1, e2] env) = [(false, eval e1 env), (false, eval e2 env)])
    (h : wpAny (model pw w) A (eval e1 env) (fun v1 s1 => wpAny (model pw w) A (eval e2 env) (fun v2 s2 => TopH w s2.heap ∧ wpAny (model pw w) A (call (.ref f) [v1, v2]) Q E s2) E s1) E s)
    (hk : env.scope.kind = .function) (hx : env.kindOf x = some .globalImplicit) (hd : (x == ("__debug__" : Str)) = false) (hgl : env.globals = mainGlobals) :
    wpAny (model pw w) A (eval (.Call (.Name x p) [e1, e2] [] pos) env) Q E s :=
  gcall T fn hn ht (spliced_cons (wpAny_mono h (fun _ _ x => spliced_cons (wpAny_mono x (fun _ _ x => spliced_nil x) fun _ _ e => e)) fun _ _ e => e)) hk hx hd hgl
theorem gcall3 {env : Env} {x name : Str} {f : Addr} {st : Stmt} {cd : Value} {p pos : Pos} {e1 e2 e3 : Expr} {Q : Value → Shared → Prop} (T : TopH w s.heap) (fn : FnAt w.params f name st cd)
    (hn : gl w.params x = some (.ref f)) (ht : backTo pos (starEach [e1, e2, e3] env) = [(false, eval e1 env), (false, eval e2 env), (false, eval e3 env)])
    (h : wpAny (model pw w) A (eval e1 env) (fun v1 s1 => wpAny (model pw w) A (eval e2 env) (fun v2 s2 => wpAny (model pw w) A (eval e3 env) (fun v3 s3 => TopH w s3.heap ∧ wpAny (model pw w) A (call (.ref f) [v1, v2, v3]) Q E s3) E s2) E s1) E s)
    (hk : env.scope.kind = .function) (hx : env.kindOf x = some .globalImplicit) (hd : (x == ("__debug__" : Str)) = false) (hgl : env.globals = mainGlobals) :
    wpAny (model pw w) A (eval (.Call (.Name x p) [e1, e2, e3] [] pos) env) Q E s :=
  gcall T fn hn ht (spliced_cons (wpAny_mono h (fun _ _ x => spliced_cons (wpAny_mono x (fun _ _ x => spliced_cons (wpAny_mono x (fun _ _ x => spliced_nil x) fun _ _ e => e)) fun _ _ e => e)) fun _ _ e => e)) hk hx hd hgl
theorem bcall1 {env : Env} {x : Str} {id : String} {p pos : Pos} {e1 : Expr} {Q : Value → Shared → Prop} (T : TopH w s.heap)
    (hn : gl w.params x = none) (hb : bl w.params x = some (.builtin id)) (ht : backTo pos (starEach [e1] env) = [(false, eval e1 env)])
    (h : wpAny (model pw w) A (eval e1 env) (fun v1 s1 => wpAny (model pw w) A (call (.builtin id) [v1]) Q E s1) E s)
    (hk : env.scope.kind = .function) (hx : env.kindOf x = some .globalImplicit) (hd : (x == ("__debug__" : Str)) = false) (hgl : env.globals = mainGlobals) (hbl : env.builtins = builtinsNs) :
    wpAny (model pw w) A (eval (.Call (.Name x p) [e1] [] pos) env) Q E s :=
  bcall T hn hb ht rfl (spliced_cons (wpAny_mono h (fun _ _ x => spliced_nil x) fun _ _ e => e)) hk hx hd hgl hbl
theorem bcall2 {env : Env} {x : Str} {id : String} {p pos : Pos} {e1 e2 : Expr} {Q : Value → Shared → Prop} (T : TopH w s.heap)
    (hn : gl w.params x = none) (hb : bl w.params x = some (.builtin id)) (ht : backTo pos (starEach [e1, e2] env) = [(false, eval e1 env), (false, eval e2 env)])
    (h : wpAny (model pw w) A (eval e1 env) (fun v1 s1 => wpAny (model pw w) A (eval e2 env) (fun v2 s2 => wpAny (model pw w) A (call (.builtin id) [v1, v2]) Q E s2) E s1) E s)
    (hk : env.scope.kind = .function) (hx : env.kindOf x = some .globalImplicit) (hd : (x == ("__debug__" : Str)) = false) (hgl : env.globals = mainGlobals) (hbl : env.builtins = builtinsNs) :
    wpAny (model pw w) A (eval (.Call (.Name x p) [e1, e2] [] pos) env) Q E s :=
  bcall T hn hb ht rfl (spliced_cons (wpAny_mono h (fun _ _ x => spliced_cons (wpAny_mono x (fun _ _ x => spliced_nil x) fun _ _ e => e)) fun _ _ e => e)) hk hx hd hgl hbl
theorem bcall3 {env : Env} {x : Str} {id : String} {p pos : Pos} {e1 e2 e3 : Expr} {Q : Value → Shared → Prop} (T : TopH w s.heap)
    (hn : gl w.params x = none) (hb : bl w.params x = some (.builtin id)) (ht : backTo pos (starEach [e1, e2, e3] env) = [(false, eval e1 env), (false, eval e2 env), (false, eval e3 env)])
    (h : wpAny (model pw w) A (eval e1 env) (fun v1 s1 => wpAny (model pw w) A (eval e2 env) (fun v2 s2 => wpAny (model pw w) A (eval e3 env) (fun v3 s3 => wpAny (model pw w) A (call (.builtin id) [v1, v2, v3]) Q E s3) E s2) E s1) E s)
    (hk : env.scope.kind = .function) (hx : env.kindOf x = some .globalImplicit) (hd : (x == ("__debug__" : Str)) = false) (hgl : env.globals = mainGlobals) (hbl : env.builtins = builtinsNs) :
    wpAny (model pw w) A (eval (.Call (.Name x p) [e1, e2, e3] [] pos) env) Q E s :=
  bcall T hn hb ht rfl (spliced_cons (wpAny_mono h (fun _ _ x => spliced_cons (wpAny_mono x (fun _ _ x => spliced_cons (wpAny_mono x (fun _ _ x => spliced_nil x) fun _ _ e => e)) fun _ _ e => e)) fun _ _ e => e)) hk hx hd hgl hbl
theorem tcall1 {env : Env} {x : Str} {id : String} {p pos : Pos} {e1 : Expr} {Q : Value → Shared → Prop} (T : TopH w s.heap)
    (hn : gl w.params x = none) (hb : bl w.params x = some (.type id)) (ht : backTo pos (starEach [e1] env) = [(false, eval e1 env)])
    (h : wpAny (model pw w) A (eval e1 env) (fun v1 s1 => wpAny (model pw w) A (call (.type id) [v1]) Q E s1) E s)
    (hk : env.scope.kind = .function) (hx : env.kindOf x = some .globalImplicit) (hd : (x == ("__debug__" : Str)) = false) (hgl : env.globals = mainGlobals) (hbl : env.builtins = builtinsNs) :
    wpAny (model pw w) A (eval (.Call (.Name x p) [e1] [] pos) env) Q E s :=
  tcall T hn hb ht rfl (spliced_cons (wpAny_mono h (fun _ _ x => spliced_nil x) fun _ _ e => e)) hk hx hd hgl hbl
theorem tcall2 {env : Env} {x : Str} {id : String} {p pos : Pos} {e1 e2 : Expr} {Q : Value → Shared → Prop} (T : TopH w s.heap)
    (hn : gl w.params x = none) (hb : bl w.params x = some (.type id)) (ht : backTo pos (starEach [e1, e2] env) = [(false, eval e1 env), (false, eval e2 env)])
    (h : wpAny (model pw w) A (eval e1 env) (fun v1 s1 => wpAny (model pw w) A (eval e2 env) (fun v2 s2 => wpAny (model pw w) A (call (.type id) [v1, v2]) Q E s2) E s1) E s)
    (hk : env.scope.kind = .function) (hx : env.kindOf x = some .globalImplicit) (hd : (x == ("__debug__" : Str)) = false) (hgl : env.globals = mainGlobals) (hbl : env.builtins = builtinsNs) :
    wpAny (model pw w) A (eval (.Call (.Name x p) [e1, e2] [] pos) env) Q E s :=
  tcall T hn hb ht rfl (spliced_cons (wpAny_mono h (fun _ _ x => spliced_cons (wpAny_mono x (fun _ _ x => spliced_nil x) fun _ _ e => e)) fun _ _ e => e)) hk hx hd hgl hbl
theorem tup1 {env : Env} {k : Nat} {pos : Pos} {e1 : Expr} {Q : Value → Shared → Prop} (ht : backTo pos (starEach [e1] env) = [(false, eval e1 env)])
    (h : wpAny (model pw w) A (eval e1 env) (fun v1 s1 => wpAny (model pw w) A (newTuple [v1]) Q E s1) E s) :
    wpAny (model pw w) A (eval (.Tuple [e1] k pos) env) Q E s :=
  Tuple_ (by rw [ht]; exact spliced_cons (wpAny_mono h (fun _ _ x => spliced_nil x) fun _ _ e => e))
theorem tup2 {env : Env} {k : Nat} {pos : Pos} {e1 e2 : Expr} {Q : Value → Shared → Prop} (ht : backTo pos (starEach [e1, e2] env) = [(false, eval e1 env), (false, eval e2 env)])
    (h : wpAny (model pw w) A (eval e1 env) (fun v1 s1 => wpAny (model pw w) A (eval e2 env) (fun v2 s2 => wpAny (model pw w) A (newTuple [v1, v2]) Q E s2) E s1) E s) :
    wpAny (model pw w) A (eval (.Tuple [e1, e2] k pos) env) Q E s :=
  Tuple_ (by rw [ht]; exact spliced_cons (wpAny_mono h (fun _ _ x => spliced_cons (wpAny_mono x (fun _ _ x => spliced_nil x) fun _ _ e => e)) fun _ _ e => e))
theorem tup3 {env : Env} {k : Nat} {pos : Pos} {e1 e2 e3 : Expr} {Q : Value → Shared → Prop} (ht : backTo pos (starEach [e1, e2, e3] env) = [(false, eval e1 env), (false, eval e2 env), (false, eval e3 env)])
    (h : wpAny (model pw w) A (eval e1 env) (fun v1 s1 => wpAny (model pw w) A (eval e2 env) (fun v2 s2 => wpAny (model pw w) A (eval e3 env) (fun v3 s3 => wpAny (model pw w) A (newTuple [v1, v2, v3]) Q E s3) E s2) E s1) E s) :
    wpAny (model pw w) A (eval (.Tuple [e1, e2, e3] k pos) env) Q E s :=
  Tuple_ (by rw [ht]; exact spliced_cons (wpAny_mono h (fun _ _ x => spliced_cons (wpAny_mono x (fun _ _ x => spliced_cons (wpAny_mono x (fun _ _ x => spliced_nil x) fun _ _ e => e)) fun _ _ e => e)) fun _ _ e => e))
theorem lst1 {env : Env} {pos : Pos} {e1 : Expr} {Q : Value → Shared → Prop} (ht : backTo pos (starEach [e1] env) = [(false, eval e1 env)])
    (h : wpAny (model pw w) A (eval e1 env) (fun v1 s1 => wpAny (model pw w) A (newList [v1]) Q E s1) E s) :
    wpAny (model pw w) A (eval (.List [e1] pos) env) Q E s :=
  List_ (by rw [ht]; exact spliced_cons (wpAny_mono h (fun _ _ x => spliced_nil x) fun _ _ e => e))
theorem lst2 {env : Env} {pos : Pos} {e1 e2 : Expr} {Q : Value → Shared → Prop} (ht : backTo pos (starEach [e1, e2] env) = [(false, eval e1 env), (false, eval e2 env)])
    (h : wpAny (model pw w) A (eval e1 env) (fun v1 s1 => wpAny (model pw w) A (eval e2 env) (fun v2 s2 => wpAny (model pw w) A (newList [v1, v2]) Q E s2) E s1) E s) :
    wpAny (model pw w) A (eval (.List [e1, e2] pos) env) Q E s :=
  List_ (by rw [ht]; exact spliced_cons (wpAny_mono h (fun _ _ x => spliced_cons (wpAny_mono x (fun _ _ x => spliced_nil x) fun _ _ e => e)) fun _ _ e => e))
theorem lst3 {env : Env} {pos : Pos} {e1 e2 e3 : Expr} {Q : Value → Shared → Prop} (ht : backTo pos (starEach [e1, e2, e3] env) = [(false, eval e1 env), (false, eval e2 env), (false, eval e3 env)])
    (h : wpAny (model pw w) A (eval e1 env) (fun v1 s1 => wpAny (model pw w) A (eval e2 env) (fun v2 s2 => wpAny (model pw w) A (eval e3 env) (fun v3 s3 => wpAny (model pw w) A (newList [v1, v2, v3]) Q E s3) E s2) E s1) E s) :
    wpAny (model pw w) A (eval (.List [e1, e2, e3] pos) env) Q E s :=
  List_ (by rw [ht]; exact spliced_cons (wpAny_mono h (fun _ _ x => spliced_cons (wpAny_mono x (fun _ _ x => spliced_cons (wpAny_mono x (fun _ _ x => spliced_nil x) fun _ _ e => e)) fun _ _ e => e)) fun _ _ e => e))
theorem newTupX {K : Addr → Obj → Prop} {L : Addr} {m : Str → Option Value} {vs : List Value} {Q : Value → Shared → Prop} (F : Fx K L s.heap m)
    (h : ∀ h', Fx (fun b o => K b o ∨ (b = s.heap.objs.size ∧ o = { cls := .type "tuple", data := .seq vs.toArray })) L h' m → (∀ b o, s.heap.get? b = some o → h'.get? b = some o) → IsTup h' s.heap.objs.size vs.toArray → Q (.ref s.heap.objs.size) { s with heap := h' }) (hsz : vs.length ≤ sizeLine) :
    wpAny (model pw w) A (newTuple vs) Q E s :=
  wpAny_newObj_type (h _ (F.new _) (fun _ _ e => Heap.get?_push_of_some _ e) ⟨_, Heap.get?_push_size _ rfl, rfl, _, rfl⟩) (by show vs.toArray.size ≤ sizeLine; rw [List.size_toArray]; exact hsz)
theorem newListX {K : Addr → Obj → Prop} {L : Addr} {m : Str → Option Value} {vs : List Value} {Q : Value → Shared → Prop} (F : Fx K L s.heap m)
    (h : ∀ h', Fx K L h' m → (∀ b o, s.heap.get? b = some o → h'.get? b = some o) → PlainL h' s.heap.objs.size vs.toArray → Q (.ref s.heap.objs.size) { s with heap := h' }) (hsz : vs.length ≤ sizeLine) :
    wpAny (model pw w) A (newList vs) Q E s :=
  wpAny_newObj_type (h _ (F.push _) (fun _ _ e => Heap.get?_push_of_some _ e) ⟨_, _, Heap.get?_push_size _ rfl, rfl, rfl, rfl⟩) (by show vs.toArray.size ≤ sizeLine; rw [List.size_toArray]; exact hsz)

theorem range_gl (P : Params) : gl P (Str.ofString "range") = none := by kernel_rfl
theorem range_bl (P : Params) : bl P (Str.ofString "range") = some (.type "range") := by kernel_rfl

/-- a for over range(n) -/
theorem forRange1 {env : Env} {x : Str} {px p cp pos : Pos} {e : Expr} {body : List Stmt} {n : Nat} {K : Addr → Obj → Prop} {m₀ : Str → Option Value} {Q : Flow → Shared → Prop}
    (T : TopH w s.heap) (hh : A.handled = none) (hn : n < 2 ^ 62)
    (hx : env.kindOf x = some .local) (hp : (env.scope.kind == .class || (env.scope.kind == .module && env.locals != env.globals)) = false)
    (hk : env.scope.kind = .function) (hr : env.kindOf (Str.ofString "range") = some .globalImplicit) (hgl : env.globals = mainGlobals) (hbl : env.builtins = builtinsNs)
    (ht : backTo cp (starEach [e] env) = [(false, eval e env)])
    (hs : ∀ x, foldedSetIterable (.Call (.Name (Str.ofString "range") p) [e] [] cp) env x = pure x)
    (F : Fx K env.locals s.heap m₀)
    (he : ∀ Q' E' : Value → Shared → Prop, (∀ t tk, Q' (.int (n : Nat) t) { s with toks := tk }) → wpAny (model pw w) A (eval e env) Q' E' s)
    (J : Nat → Heap → (Str → Option Value) → Prop) (stable : ∀ i h h' m, J i h m → (∀ b o, b ≠ env.locals → s.heap.get? b ≠ none → h.get? b = some o → h'.get? b = some o) → J i h' m)
    (h0 : J 0 s.heap m₀)
    (step : ∀ i t tk m h₁ (K' : Addr → Obj → Prop), (∀ b o, K b o → K' b o) → (∀ b o, K' b o → K b o ∨ s.heap.get? b = none) → i < n → s.toks ≤ tk → J i h₁ m →
      Fx K' env.locals h₁ (fun y => if y = x then some (.int (i : Nat) t) else m y) →
      wpAny (model pw w) A (execs body env) (Turn s K' env.locals (J (i + 1)) Q) (fun _ _ => False) { s with heap := h₁, toks := tk })
    (fin : ∀ h tk m, s.toks ≤ tk → Fx K env.locals h m → J n h m → Q .next { s with heap := h, toks := tk }) :
    wpAny (model pw w) A (exec (.For (.Name x px) (.Call (.Name (Str.ofString "range") p) [e] [] cp) body [] pos) env) Q E s := by
  refine wpAny_For ?_ hs
  refine wpAny_with_toks (Nat.le_refl _) (tcall T (range_gl _) (range_bl _) ht rfl (spliced_cons (he _ _ fun t tk => spliced_nil ?_)) hk hr (by decide) hgl hbl)
  refine call_range_1 fun htk => ?_
  have htk : s.toks ≤ tk + 1 + 1 := htk
  refine rangeLoop hh (IsRange.new ..) (n := n) (by simp) (by decide) (by decide) (by lia) (by lia) hx hp (F.push _) J ?_ ?_ ?_ ?_
  · intro i h h' m hJ k
    refine stable i h h' m hJ fun b o hb hne e => k b o hb (fun hnone => hne ?_) e
    cases g : s.heap.get? b with
    | none => rfl
    | some o' => have := Heap.get?_push_of_some { cls := .type "range", data := .fields #[.int 0 tk, .int n t, .int 1 (tk + 1)] } g; dsimp only at hnone; rw [this] at hnone; cases hnone
  · exact stable 0 _ _ m₀ h0 fun b o _ _ e => Heap.get?_push_of_some _ e
  · intro i t' tk' m h₁ K' hK hK' hi htk' hJ F₁
    have e : (0 : Int) + (i : Int) = (i : Nat) := by simp
    rw [e] at F₁
    refine wpAny_mono (step i t' tk' m h₁ K' hK (fun b o e => (hK' b o e).imp id fun hnone => ?_) hi (Nat.le_trans htk htk') hJ F₁) (fun f s₂ hf => by cases f <;> exact hf) fun _ _ e => e
    cases g : s.heap.get? b with
    | none => rfl
    | some o' => have := Heap.get?_push_of_some { cls := .type "range", data := .fields #[.int 0 tk, .int n t, .int 1 (tk + 1)] } g; dsimp only at hnone; rw [this] at hnone; cases hnone
  · intro h tk' m htk' F₁ hJ
    exact fin h tk' m (Nat.le_trans htk htk') F₁ hJ

theorem unpackX {K : Addr → Obj → Prop} {L : Addr} {m : Str → Option Value} {t : Addr} {items : Array Value} {n : Nat} {Q : List Value → Shared → Prop} (F : Fx K L s.heap m) (ht : IsTup s.heap t items)
    (hh : A.handled = none) (hn : n = items.size) (h : ∀ h', Fx K L h' m → (∀ b o, s.heap.get? b = some o → h'.get? b = some o) → Q items.toList { s with heap := h' }) : wpAny (model pw w) A (unpackItems (.ref t) n none) Q E s := by
  subst hn
  refine unpackItems_tuple hh ht fun h' he => ?_
  have k : ∀ b o, s.heap.get? b = some o → h'.get? b = some o := fun b o e => he b o (Nat.ne_of_lt (Heap.lt_size e)) e
  exact h h' (F.keeps k) k

theorem order2 {f g : Value → Sem Unit} {x y : Value} {Q : Unit → Shared → Prop} {M : Model}
    (h : wpAny M A (f x) (fun _ s₁ => wpAny M A (g y) Q E s₁) E s) : wpAny M A (assignInOrder [f, g] [x, y]) Q E s := by
  show wpAny M A (do holding [y] (f x); do holding [] (g y); pure ()) Q E s
  exact wpAny_bind (wpAny_holding (wpAny_mono h (fun _ s₁ h₁ => wpAny_bind (wpAny_holding (wpAny_mono h₁ (fun _ _ x => wpAny_pure x) fun _ _ e => e))) fun _ _ e => e))
theorem order3 {f g k : Value → Sem Unit} {x y z : Value} {Q : Unit → Shared → Prop} {M : Model}
    (h : wpAny M A (f x) (fun _ s₁ => wpAny M A (g y) (fun _ s₂ => wpAny M A (k z) Q E s₂) E s₁) E s) : wpAny M A (assignInOrder [f, g, k] [x, y, z]) Q E s := by
  show wpAny M A (do holding [y, z] (f x); do holding [z] (g y); do holding [] (k z); pure ()) Q E s
  exact wpAny_bind (wpAny_holding (wpAny_mono h (fun _ s₁ h₁ => wpAny_bind (wpAny_holding (wpAny_mono h₁ (fun _ s₂ h₂ => wpAny_bind (wpAny_holding (wpAny_mono h₂ (fun _ _ x => wpAny_pure x) fun _ _ e => e))) fun _ _ e => e))) fun _ _ e => e))
end

theorem StrsAre.snoc {vs : List Value} {ys : List Str} {y : Str} {t : Tok} (h : StrsAre vs ys) : StrsAre (vs ++ [.str y t]) (ys ++ [y]) := by
  induction h with
  | nil => exact .cons y t .nil
  | cons z u _ ih => exact .cons z u ih
end Mine
set_option maxHeartbeats 4000000
namespace Mine
open PySem PySem.W PySem.Challenge PySem.Calls PyProof.Rows

theorem fnGrown (P : Params) : FnAt P 193 (Str.ofString "_law_grown") (stA 21) (.ref 192) :=
  ⟨⟨o193 P, pmOf (o193 P), by kernel_rfl, by kernel_rfl, by kernel_rfl⟩, ⟨192, o192 P, dFields (o192 P), tokAt (o192 P), rfl, by kernel_rfl, by kernel_rfl, by kernel_rfl, by decide⟩, by decide⟩

/-- a word of so many a's, b's and c's -/
noncomputable def wordI (a b c : Int) : Str := (Txt.mul (Str.ofString "a") a ++ Txt.mul (Str.ofString "b") b) ++ Txt.mul (Str.ofString "c") c
noncomputable def grownAt (top mid low : Int) (k more last : Nat) : List Str :=
  if mid + more ≤ top ∧ low + last ≤ mid then [wordI (top + k - more - last) (mid + more) (low + last)] else []
noncomputable def grownIn (top mid low : Int) (k more n : Nat) : List Str := (List.range n).flatMap (grownAt top mid low k more)
noncomputable def grownTo (top mid low : Int) (k n : Nat) : List Str := (List.range n).flatMap fun more => grownIn top mid low k more (k + 1 - more)
noncomputable def grown (x : Str) (k : Nat) : List Str :=
  grownTo ((x.length : Int) - cnt 98 x.cps.toList - cnt 99 x.cps.toList) (cnt 98 x.cps.toList) (cnt 99 x.cps.toList) k (k + 1)
theorem grownIn_succ (top mid low : Int) (k more n : Nat) : grownIn top mid low k more (n + 1) = grownIn top mid low k more n ++ grownAt top mid low k more n := by
  simp [grownIn, List.range_succ]
theorem grownTo_succ (top mid low : Int) (k n : Nat) : grownTo top mid low k (n + 1) = grownTo top mid low k n ++ grownIn top mid low k n (k + 1 - n) := by
  simp [grownTo, List.range_succ]

theorem grownAt_len (top mid low : Int) (k more last : Nat) : (grownAt top mid low k more last).length ≤ 1 := by
  unfold grownAt; split <;> simp
theorem grownIn_len (top mid low : Int) (k more n : Nat) : (grownIn top mid low k more n).length ≤ n := by
  induction n with
  | zero => simp [grownIn]
  | succ n ih => rw [grownIn_succ, List.length_append]; have := grownAt_len top mid low k more n; lia
theorem grownTo_len (top mid low : Int) (k n : Nat) (hn : n ≤ k + 1) : (grownTo top mid low k n).length ≤ n * (k + 1) := by
  induction n with
  | zero => simp [grownTo]
  | succ n ih =>
    rw [grownTo_succ, List.length_append]
    have h1 := grownIn_len top mid low k n (k + 1 - n)
    have h2 := ih (by lia)
    rw [Nat.succ_mul]; lia

/-- the names and the list of _law_grown -/
structure GJ (top mid low : Int) (k : Nat) (W : Addr) (ws : List Str) (h : Heap) (m : Str → Option Value) : Prop where
  size : ∃ t, m (Str.ofString "size") = some (.int k t)
  mid : ∃ t, m (Str.ofString "mid") = some (.int mid t)
  low : ∃ t, m (Str.ofString "low") = some (.int low t)
  top : ∃ t, m (Str.ofString "top") = some (.int top t)
  words : m (Str.ofString "words") = some (.ref W)
  list : ∃ ys, PlainL h W ys ∧ StrsAre ys.toList ws
theorem GJ.stable {top mid low : Int} {k : Nat} {W : Addr} {ws : List Str} {h h' : Heap} {m : Str → Option Value} (g : GJ top mid low k W ws h m) (hk : ∀ o, h.get? W = some o → h'.get? W = some o) : GJ top mid low k W ws h' m :=
  ⟨g.size, g.mid, g.low, g.top, g.words, let ⟨ys, ⟨o, n, e, r⟩, st⟩ := g.list; ⟨ys, ⟨o, n, hk o e, r⟩, st⟩⟩

section
variable {w : World} {A : Around} {E : Value → Shared → Prop} {s : Shared} {Q : Value → Shared → Prop} {n : Nat}

theorem cnt_bounds {c : Nat} {l : List Nat} {N : Nat} (h : l.length ≤ N) : 0 ≤ cnt c l ∧ cnt c l ≤ N := by
  unfold cnt
  have := List.length_filter_le (· == c) l
  lia

theorem one_mul {n : Int} {x : Str} (hx : x.length = 1) (h1 : -1000 ≤ n) (h2 : n ≤ 1000) : MulOk x n ∧ (Txt.mul x n).length ≤ 1000 :=
  ⟨mulOk_of 1 1000 (by lia) (by lia) (by lia) (by decide) (by decide), by have := len_mul_leN (x := x) (n := n) (L := 1) (N := 1000) (by lia) (by lia); lia⟩

theorem countOf_eval {env : Env} {p1 p2 p3 pos : Pos} {k : Nat} {x y : Str} {t : Tok} {c : Nat} {m : Str → Option Value} {K : Addr → Obj → Prop} (T : TopH w s.heap) (hr : Room A (n + 1)) (hpos : 0 < s.toks) (hy : y = ⟨#[c]⟩)
    (F : Fx K env.locals s.heap m) (hm : m (Str.ofString "text") = some (.str x t))
    (hl : env.kindOf (Str.ofString "text") = some .local) (hx : env.kindOf (Str.ofString "countOf") = some .globalImplicit) (hk : env.scope.kind = .function) (hgl : env.globals = mainGlobals)
    (ht : backTo pos (starEach [.Name (Str.ofString "text") p2, .Constant (.str y) k p3] env) = [(false, eval (.Name (Str.ofString "text") p2) env), (false, eval (.Constant (.str y) k p3) env)])
    (h : ∀ h' t' tk, (∀ b o, s.heap.get? b = some o → h'.get? b = some o) → 0 < tk → Q (.int (cnt c x.cps.toList) t') { s with heap := h', toks := tk }) :
    wpAny (model pw w) A (eval (.Call (.Name (Str.ofString "countOf") p1) [.Name (Str.ofString "text") p2, .Constant (.str y) k p3] [] pos) env) Q E s := by
  subst hy
  refine wpAny_with_toks (n := 1) hpos (gcall2 T (fnCountOf _) (by kernel_rfl) ht ?_ hk hx (by decide) hgl)
  refine wpAny_Name (wpAny_loadName_local hk hl F.ns hm (Constant_str ⟨T, ?_⟩)) (by decide)
  exact countOf_call T hr hpos (Nat.lt_succ_self _) fun h' t' tk k htk => h h' t' tk k htk

theorem grown_call {x : Str} {t u : Tok} {k : Nat} (T : TopH w s.heap) (hr : Room A (n + 2)) (hpos : 0 < s.toks) (hx : x.length ≤ 100) (hk : k ≤ 100)
    (h : ∀ h' l tk ys, (∀ b o, s.heap.get? b = some o → h'.get? b = some o) → s.heap.get? l = none → PlainL h' l ys → StrsAre ys.toList (grown x k) → s.toks ≤ tk → Q (.ref l) { s with heap := h', toks := tk }) :
    wpAny (model pw w) A (call (.ref 193) [.str x t, .int k u]) Q E s := by
  refine wpAny_call (codeAny_with_toks (Nat.le_refl _) (enterX [Str.ofString "text", Str.ofString "size"] T hr (fnGrown _) (by kernel_rfl) (by kernel_rfl) (fun pm => by kernel_rfl) (by kernel_rfl) (by kernel_rfl) (by kernel_rfl) (fun h₁ tk htk F T₁ hr₁ => ?_)))
  try dsimp only
  refine wpAny_execs_cons (Assign_Tuple_swapped (names := [Str.ofString "mid", Str.ofString "low"]) ?_ (by kernel_rfl) (by kernel_rfl))
  refine tup2 (by kernel_rfl) ?_
  have rest : Room (A.deeper (envOf (Str.ofString "_law_grown") (fScope (stA 21)) s.heap.objs.size 193 (Value.ref 192))) (n + 1) := hr₁
  refine countOf_eval (c := 98) T₁ rest (Nat.lt_of_lt_of_le hpos htk) (by kernel_rfl) F rfl (by kernel_rfl) (by kernel_rfl) (by kernel_rfl) rfl (by kernel_rfl) (fun h₂ t₂ tk₂ k₂ hp₂ => ?_)
  try dsimp only
  have F₂ := F.keeps k₂
  have T₂ := T₁.keeps k₂
  refine countOf_eval (c := 99) T₂ rest hp₂ (by kernel_rfl) F₂ rfl (by kernel_rfl) (by kernel_rfl) (by kernel_rfl) rfl (by kernel_rfl) (fun h₃ t₃ tk₃ k₃ hp₃ => ?_)
  try dsimp only
  have F₃ := F₂.keeps k₃
  have T₃ := T₂.keeps k₃
  refine newTupX F₃ (fun h₄ F₄ k₄ ht₄ => ?_) (by show 2 ≤ sizeLine; decide)
  refine unpackX F₄ ht₄ hr₁.handled rfl (fun h₅ F₅ k₅ => ?_)
  try dsimp only
  have T₅ := (T₃.keeps k₄).keeps k₅
  refine order2 (bindName_ (stx F₅ (fun h₆ F₆ s₆ => bindName_ (stx F₆ (fun h₇ F₇ s₇ => ?_))))) 
  try dsimp only
  have hK : ∀ b o, s.heap.get? b = some o → (fun b o => kp s.heap b o ∨ (b = h₃.objs.size ∧ o = { cls := .type "tuple", data := .seq [Value.int (cnt 98 x.cps.toList) t₂, Value.int (cnt 99 x.cps.toList) t₃].toArray })) b o := fun b o e => .inl e
  have F₇ : Fx (kp s.heap) _ h₇ _ := F₇.mono hK
  have T₇ : TopH w h₇ := F₇.top T fun b o e => e
  clear F₆ F₅ F₄ ht₄ hK
  try dsimp only
  refine wpAny_execs_cons (wpAny_Assign_Name (wpAny_BinOp (wpAny_BinOp (bcall1 T₇ (by kernel_rfl) (by kernel_rfl) (by kernel_rfl) (ld F₇.fr rfl (P.len_str (by have := hx; lia) ?_)) (by kernel_rfl) (by kernel_rfl) (by kernel_rfl) rfl rfl)))) 
  refine ld F₇.fr rfl (P.sub_int (ld F₇.fr rfl (P.sub_int (stx F₇ fun h₈ F₈ s₈ => ?_))))
  try dsimp only
  refine wpAny_execs_cons (wpAny_Assign_Name (List_ (spliced_nil (newListX F₈ (fun h₉ F₉ k₉ P₉ => ?_) (by decide)))))
  refine stx F₉ fun h₁₀ F₁₀ s₁₀ => ?_
  try dsimp only at F₁₀ P₉ s₁₀ ⊢
  have hWL : h₈.objs.size ≠ s.heap.objs.size := (Nat.ne_of_lt F₈.ltL).symm
  have P₁₀ : PlainL h₁₀ h₈.objs.size #[] := by obtain ⟨o, n, e, r⟩ := P₉; exact ⟨o, n, (s₁₀.2 _ hWL).trans e, r⟩
  have hWK : ∀ o, ¬ kp s.heap h₈.objs.size o := F₈.notThere
  have hWin : h₁₀.get? h₈.objs.size ≠ none := by obtain ⟨o, n, e, r⟩ := P₁₀; rw [e]; simp
  generalize hW : h₈.objs.size = W at *
  generalize hmid : cnt 98 x.cps.toList = mid at *
  generalize hlow : cnt 99 x.cps.toList = low at *
  have T₁₀ : TopH w h₁₀ := F₁₀.top T fun b o e => e
  have b1 : 0 ≤ mid ∧ mid ≤ 100 := by rw [← hmid]; exact cnt_bounds (by simpa [Str.length] using hx)
  have b2 : 0 ≤ low ∧ low ≤ 100 := by rw [← hlow]; exact cnt_bounds (by simpa [Str.length] using hx)
  have b3 : -200 ≤ (x.length : Int) - mid - low ∧ (x.length : Int) - mid - low ≤ 100 := by lia
  generalize htop : (x.length : Int) - mid - low = top at *
  refine wpAny_execs_cons (forRange1 (n := k + 1) T₁₀ hr₁.handled (by lia) (by kernel_rfl) (by kernel_rfl) (by kernel_rfl) (by kernel_rfl) rfl rfl (by kernel_rfl) (by intro _; kernel_rfl) F₁₀ ?_ (fun i h m => GJ top mid low k W (grownTo top mid low k i) h m) ?_ ⟨⟨_, rfl⟩, ⟨_, rfl⟩, ⟨_, rfl⟩, ⟨_, rfl⟩, rfl, ⟨_, P₁₀, .nil⟩⟩ ?_ ?_)
  · intro Q' E' hq
    exact wpAny_BinOp (ld F₁₀.fr rfl (wpAny_Constant_int (P.add_int (hq _ _))))
  · intro i h h' m g hk
    exact g.stable fun o e => hk _ o hWL hWin e
  · intro i t' tk' m h₁₁ K' hKK hKK' hi htk' g F₁₁
    have T₁₁ : TopH w h₁₁ := F₁₁.top T hKK
    have hWK' : ∀ o, ¬ K' W o := fun o e => (hKK' W o e).elim (hWK o) hWin
    have hWin' : h₁₁.get? W ≠ none := by obtain ⟨ys, ⟨o, n, e, r⟩, -⟩ := g.list; rw [e]; simp
    obtain ⟨ts, es⟩ := g.size
    have ek : (k : Int) + 1 - (i : Int) = ((k + 1 - i : Nat) : Int) := by lia
    refine wpAny_execs_cons (forRange1 (n := k + 1 - i) T₁₁ hr₁.handled (by lia) (by kernel_rfl) (by kernel_rfl) (by kernel_rfl) (by kernel_rfl) rfl rfl (by kernel_rfl) (by intro _; kernel_rfl) F₁₁ ?_
      (fun j h m => GJ top mid low k W (grownTo top mid low k i ++ grownIn top mid low k i j) h m ∧ ∃ t, m (Str.ofString "more") = some (.int (i : Nat) t)) ?_ ⟨⟨⟨_, es⟩, g.mid, g.low, g.top, g.words, by simpa [grownIn] using g.list⟩, _, rfl⟩ ?_ ?_)
    · intro Q' E' hq
      refine wpAny_BinOp (wpAny_BinOp (ld F₁₁.fr es (wpAny_Constant_int (P.add_int ?_))))
      refine ld F₁₁.fr rfl (P.sub_int ?_)
      rw [ek]
      exact hq _ _
    · intro j h h' m g hk
      exact ⟨g.1.stable fun o e => hk _ o hWL hWin' e, g.2⟩
    · intro j t₂ tk₂ m₂ h₁₂ K₂ hK₂ hK₂' hj htk₂ ⟨g₂, t₃, em⟩ F₁₂
      have hWK₂ : ∀ o, ¬ K₂ W o := fun o e => (hK₂' W o e).elim (hWK' o) hWin'
      have T₁₂ : TopH w h₁₂ := F₁₂.top T fun b o e => hK₂ b o (hKK b o e)
      obtain ⟨tz, ez⟩ := g₂.size
      obtain ⟨tm, emid⟩ := g₂.mid
      obtain ⟨tl, elow⟩ := g₂.low
      obtain ⟨tt, etop⟩ := g₂.top
      have ew := g₂.words
      refine wpAny_execs_cons (wpAny_If (wpAny_mono (Q := fun b s' => b = decide (mid + i ≤ top ∧ low + j ≤ mid) ∧ ∃ tk, s' = { s with heap := h₁₂, toks := tk }) (E := fun _ _ => False) ?_ ?_ (fun _ _ e => e)))
      · refine wpAny_isTrue_BoolOp (wpAny_allTrue_And_cons (wpAny_isTrue_Compare1 (wpAny_BinOp (ld F₁₂.fr emid (ld F₁₂.fr em (P.add_int (ld F₁₂.fr etop (P.le_int (wpAny_truthy_bool ?_)))))))))
        by_cases h1 : mid + i ≤ top
        · simp only [h1, decide_true, if_true]
          refine wpAny_allTrue_And_cons (wpAny_isTrue_Compare1 (wpAny_BinOp (ld F₁₂.fr elow (ld F₁₂.fr rfl (P.add_int (ld F₁₂.fr emid (P.le_int (wpAny_truthy_bool ?_))))))))
          by_cases h2 : low + j ≤ mid
          · simp only [h2, decide_true, if_true]
            exact wpAny_allTrue_And_nil ⟨by simp [h1, h2], _, rfl⟩
          · simp only [h2, decide_false, Bool.false_eq_true, if_false]
            exact ⟨by simp [h2], _, rfl⟩
        · simp only [h1, decide_false, Bool.false_eq_true, if_false]
          exact ⟨by simp [h1], _, rfl⟩
      · rintro b s' ⟨rfl, tk₃, rfl⟩
        by_cases hc : mid + i ≤ top ∧ low + j ≤ mid
        · simp only [hc, and_self, decide_true, if_true]
          have r₂ : Room (A.deeper (envOf (Str.ofString "_law_grown") (fScope (stA 21)) s.heap.objs.size 193 (Value.ref 192))) (n + 1) := hr₁
          obtain ⟨ma, la⟩ := one_mul (n := top + k - i - j) (x := Str.ofString "a") rfl (by lia) (by lia)
          obtain ⟨mb, lb⟩ := one_mul (n := mid + i) (x := Str.ofString "b") rfl (by lia) (by lia)
          obtain ⟨mc, lc⟩ := one_mul (n := low + j) (x := Str.ofString "c") rfl (by lia) (by lia)
          refine wpAny_execs_cons (wpAny_Assign_Name (gcall2 T₁₂ (fnConcat _) (by kernel_rfl) (by kernel_rfl) ?_ (by kernel_rfl) (by kernel_rfl) (by kernel_rfl) rfl) (by kernel_rfl))
          refine gcall2 T₁₂ (fnMul _) (by kernel_rfl) (by kernel_rfl) ?_ (by kernel_rfl) (by kernel_rfl) (by kernel_rfl) rfl
          refine Constant_str (wpAny_BinOp (wpAny_BinOp (wpAny_BinOp (ld F₁₂.fr etop (ld F₁₂.fr ez (P.add_int (ld F₁₂.fr em (P.sub_int (ld F₁₂.fr rfl (P.sub_int ⟨T₁₂, ?_⟩))))))))))
          refine mul_call T₁₂ r₂ ma fun h₂₀ t₂₀ tk₂₀ k₂₀ => ?_
          try dsimp only
          have F₂₀ := F₁₂.keeps k₂₀
          have T₂₀ := T₁₂.keeps k₂₀
          refine gcall2 T₂₀ (fnMul _) (by kernel_rfl) (by kernel_rfl) ?_ (by kernel_rfl) (by kernel_rfl) (by kernel_rfl) rfl
          refine Constant_str (wpAny_BinOp (ld F₂₀.fr emid (ld F₂₀.fr em (P.add_int ⟨T₂₀, ?_⟩))))
          refine mul_call T₂₀ r₂ mb fun h₂₁ t₂₁ tk₂₁ k₂₁ => ?_
          try dsimp only
          have F₂₁ := F₂₀.keeps k₂₁
          have T₂₁ := T₂₀.keeps k₂₁
          refine ⟨T₂₁, concat_call T₂₁ r₂ (by rw [sizeLine_eq]; lia) fun h₂₂ t₂₂ tk₂₂ k₂₂ => ?_⟩
          try dsimp only
          have F₂₂ := F₂₁.keeps k₂₂
          refine stx F₂₂ fun h₂₃ F₂₃ s₂₃ => ?_
          try dsimp only
          obtain ⟨ys, Py, hy⟩ := g₂.list
          have Py₂₃ : PlainL h₂₃ W ys := by
            obtain ⟨o, n, e, r⟩ := Py
            exact ⟨o, n, (s₂₃.2 _ hWL).trans (k₂₂ _ _ (k₂₁ _ _ (k₂₀ _ _ e))), r⟩
          refine wpAny_execs_cons (wpAny_Expr (wpAny_Call_append (by kernel_rfl) (by kernel_rfl) (by kernel_rfl) (by kernel_rfl) (ld F₂₃.fr ew ⟨W, ys, rfl, Py₂₃, ?_⟩)))
          refine wpAny_BinOp (ld F₂₃.fr rfl (wpAny_BinOp (Constant_str (wpAny_BinOp (ld F₂₃.fr elow (ld F₂₃.fr rfl (P.add_int (SB.mul mc fun t₂₄ tk₂₄ => SB.add (fun t₂₅ tk₂₅ => ?_) ?_))))))))
          · refine list_append_plainL Py₂₃ (fun h₂₆ P₂₆ s₂₆ => ?_) ?_
            · refine wpAny_execs_nil (wpAny_execs_nil ?_)
              refine ⟨_, _, _, rfl, F₂₃.wr s₂₆ hWL hWK₂, ⟨⟨_, ez⟩, ⟨_, emid⟩, ⟨_, elow⟩, ⟨_, etop⟩, ew, _, P₂₆, ?_⟩, _, em⟩
              have e2 : grownAt top mid low k i j = [wordI (top + k - i - j) (mid + i) (low + j)] := by unfold grownAt; rw [if_pos hc]
              rw [grownIn_succ, e2, ← List.append_assoc, Array.toList_push]
              exact StrsAre.snoc hy
            · have e3 := hy.len_eq
              rw [List.length_append] at e3
              have e4 := grownTo_len top mid low k i (by lia)
              have e5 := grownIn_len top mid low k i j
              have e6 : i * (k + 1) ≤ 101 * 101 := Nat.mul_le_mul (by lia) (by lia)
              rw [sizeLine_eq]
              have e7 : ys.size = ys.toList.length := by simp
              lia
          · rw [sizeLine_eq, Str.length_append]; lia
        · simp only [hc, decide_false, Bool.false_eq_true, if_false]
          refine wpAny_execs_nil (wpAny_execs_nil ⟨_, _, _, rfl, F₁₂, ⟨⟨_, ez⟩, ⟨_, emid⟩, ⟨_, elow⟩, ⟨_, etop⟩, ew, ?_⟩, _, em⟩)
          have : grownAt top mid low k i j = [] := by unfold grownAt; rw [if_neg hc]
          rw [grownIn_succ, this, List.append_nil]
          exact g₂.list
    · intro h₂ tk₂ m₂ htk₂ F₂ ⟨g₂, _⟩
      refine wpAny_execs_nil ⟨_, _, _, rfl, F₂, ?_⟩
      have := g₂
      rw [← grownTo_succ] at this
      exact this
  · intro h' tk' m htk' F' g
    refine wpAny_execs_cons (wpAny_Return_some (ld F'.fr g.words ?_))
    obtain ⟨ys, Py, hy⟩ := g.list
    refine fun hle => h _ _ _ ys F'.keep ?_ Py ?_ hle
    · cases e : s.heap.get? W with
      | none => rfl
      | some o => exact absurd e (hWK o)
    · unfold grown; rw [hmid, hlow, htop]; exact hy
end
end Mine
namespace Mine
open PySem PySem.W PySem.Challenge PySem.Calls PyProof.Rows

noncomputable def methDef (nm qn : Str) (params : Arguments) (body : List Stmt) (scope : Scope) (pm code : Value) : FuncData :=
  { name := nm, qualname := qn, params, body := .stmts body, scope, globals := mainGlobals, closure := [], defaults := .none, kwdefaults := .none, doc := .none, pyModule := pm, code, builtins := builtinsNs }
/-- a method of the class's -/
structure FnM (P : Params) (a : Addr) (nm qn : Str) (st : Stmt) (cd : Value) : Prop where
  obj : ∃ o pm, (TD P).get a = some o ∧ o.cls = .type "function" ∧ o.data = .func (methDef nm qn (fArgs st) (fBody st) (fScope st) pm cd)
  code : ∃ c o vs t, cd = .ref c ∧ (TD P).get c = some o ∧ o.data = .fields vs ∧ vs[1]? = some (.str qn t) ∧ c ≠ 157
  low : a ≠ 157

section
variable {w : World} {A : Around} {s : Shared}
theorem FnM.get {a : Addr} {nm qn : Str} {st : Stmt} {cd : Value} (f : FnM w.params a nm qn st cd) {h : Heap} (T : TopH w h) :
    ∃ o pm, h.get? a = some o ∧ o.cls = .type "function" ∧ o.data = .func (methDef nm qn (fArgs st) (fBody st) (fScope st) pm cd) :=
  let ⟨o, pm, e, c, d⟩ := f.obj; ⟨o, pm, T.at_ a o e f.low, c, d⟩
theorem enterM {a : Addr} {nm qn : Str} {st : Stmt} {cd : Value} {n : Nat} {args : List Value} {R : Result → Shared → Prop} (ps : List Str) (T : TopH w s.heap) (hr : Room A (n + 1)) (f : FnM w.params a nm qn st cd)
    (hloc : (ps.all fun x => decide ((fScope st).names.lookup x = some .local)) = true)
    (hbind : ∀ pm, bindArgs (methDef nm qn (fArgs st) (fBody st) (fScope st) pm cd) ⟨args, []⟩ = pure (ps.zip args))
    (hco : ((fScope st).isCoroutine, (fScope st).isGenerator) = (false, false)) (hk : (fScope st).kind = .function) (hcell : ((fScope st).names.all fun x => decide (x.2 ≠ .cell)) = true)
    (h : ∀ h₁ tk, s.toks ≤ tk → Fx (kp s.heap) s.heap.objs.size h₁ (fun x => (ps.zip args).reverse.lookup x) → TopH w h₁ → Room (A.deeper (envOf qn (fScope st) s.heap.objs.size a cd)) n →
      wpAny (model pw w) (A.deeper (envOf qn (fScope st) s.heap.objs.size a cd)) (execs (fBody st) (envOf qn (fScope st) s.heap.objs.size a cd))
        (fun f s' => R (.ok (.ret (match f with | .ret v => v | _ => .none))) s') (fun _ _ => False)
        { s with heap := h₁, toks := tk }) :
    codeAny (model pw w) A (.call (.ref a) ⟨args, []⟩) R s := by
  obtain ⟨o, pm, ho, _, hd⟩ := f.get T
  have hloc' : ∀ x ∈ ps.zip args, (fScope st).names.lookup x.1 = some .local := fun x hx =>
    of_decide_eq_true (List.all_eq_true.mp hloc x.1 (List.of_mem_zip hx).1)
  have hcell' : ∀ x ∈ (fScope st).names, x.2 ≠ .cell := fun x hx => of_decide_eq_true (List.all_eq_true.mp hcell x hx)
  have hrec : s.heap.CodeRec cd qn := let ⟨c, o, vs, t, e, g, d, v, n⟩ := f.code; ⟨c, o, vs, t, e, T.at_ c o g n, d, v⟩
  refine codeAny_call_function (by have := hr.depth; lia) ho hd (Prod.mk.inj hco).1 (Prod.mk.inj hco).2 rfl hrec ?_
  rw [hbind pm]
  refine wpAny_pure (wpAny_newFunctionEnv hcell' hloc' (fun h₁ hns hsb => ⟨T.lim.fresh _ hsb, ?_⟩) hk)
  show codeAny _ _ (.func (fBody st) (envOf qn (fScope st) s.heap.objs.size a cd)) _ _
  have F : Fr s.heap s.heap.objs.size h₁ (fun x => (ps.zip args).reverse.lookup x) := ⟨hns, fun b o e => hsb.extBut b o (Nat.ne_of_lt (Heap.lt_size e)) (Heap.get?_push_of_some _ e), Nat.le_refl _⟩
  refine codeAny_func (wpAny_mono (h h₁ _ (Nat.le_add_right _ _) (Fx.of F) (T.keeps F.keep) (hr.deeper _)) (fun _ _ x => x) (fun _ _ x => x.elim))
end

theorem fnPush (P : Params) : FnM P 49 (Str.ofString "push_token") (Str.ofString "_netrclex.push_token") (stM 3) (.ref 48) :=
  ⟨⟨o49 P, pmOf (o49 P), by kernel_rfl, by kernel_rfl, by kernel_rfl⟩, ⟨48, o48 P, dFields (o48 P), tokAt (o48 P), rfl, by kernel_rfl, by kernel_rfl, by kernel_rfl, by decide⟩, by decide⟩
theorem fnGet (P : Params) : FnM P 42 (Str.ofString "get_token") (Str.ofString "_netrclex.get_token") (stM 2) (.ref 41) :=
  ⟨⟨o42 P, pmOf (o42 P), by kernel_rfl, by kernel_rfl, by kernel_rfl⟩, ⟨41, o41 P, dFields (o41 P), tokAt (o41 P), rfl, by kernel_rfl, by kernel_rfl, by kernel_rfl, by decide⟩, by decide⟩

noncomputable def clEs (P : Params) : Array DictEntry := match (o51 P).data with | .dict es _ => es | _ => #[]
noncomputable def cl (P : Params) (x : Str) : Option Value := nsFind (clEs P) x
theorem isNs51 {h : Heap} {P : Params} (e : h.get? 51 = some (o51 P)) : h.isNs 51 = true := by
  unfold Heap.isNs; rw [e]; kernel_rfl
theorem TopH.cls {w : World} {h : Heap} (T : TopH w h) : ∃ nm q k2 k3, h.get? 52 = some (excClassObj nm q 52 51 [.type "object"] [.type "object"] true [] [] false none none none none k2 k3 (some (.bool true)) "object.__new__") :=
  ⟨_, _, _, _, (T.at_ 52 (o52 w.params) (by kernel_rfl) (by decide)).trans rfl⟩
theorem TopH.clsNs {w : World} {h : Heap} (T : TopH w h) : h.Ns 51 (cl w.params) := by
  have e : h.get? 51 = some (o51 w.params) := T.at_ 51 _ (by kernel_rfl) (by decide)
  have n := Heap.Ns.of_isNs (isNs51 e)
  have : h.nsMap 51 = cl w.params := by
    funext x
    unfold Heap.nsMap
    rw [e]
    rfl
  rw [this] at n
  exact n

/-- a place that is none of the top's -/
structure Free (w : World) (P : Addr) : Prop where
  top : ∀ i o, (TD w.params).get i = some o → i ≠ 157 → i ≠ P
  dict : (110 : Nat) ≠ P
theorem Free.of {w : World} {h : Heap} {P : Addr} (T : TopH w h) (e : h.get? P = none) : Free w P :=
  ⟨fun i o g n q => (by have := T.at_ i o g n; rw [q, e] at this; exact nomatch this), fun q => by
    obtain ⟨kvs, -, o, es, ep, ho, r⟩ := T.dict
    have q : (110 : Addr) = P := q
    rw [q, e] at ho; cases ho⟩
theorem TopH.but {w : World} {h h' : Heap} {P : Addr} (T : TopH w h) (f : Free w P) (k : ∀ b o, b ≠ P → h.get? b = some o → h'.get? b = some o) : TopH w h' :=
  ⟨fun i o e hn => k _ _ (f.top i o e hn) (T.at_ i o e hn), let ⟨kvs, a, b⟩ := T.dict; let ⟨o, es, ep, ho, r⟩ := b; ⟨kvs, a, o, es, ep, k _ _ f.dict ho, r⟩⟩

/-- a lexer -/
structure Lex (h : Heap) (x P : Addr) (mA : Str → Option Value) : Prop where
  inst : h.Inst x 52 mA
  pb : mA (Str.ofString "pushback") = some (.ref P)
theorem Inst.but {h h' : Heap} {x C P : Addr} {mA : Str → Option Value} {items : Array Value} (I : h.Inst x C mA) (hP : h.PlainList P items) (k : ∀ b o, b ≠ P → h.get? b = some o → h'.get? b = some o) : h'.Inst x C mA := by
  obtain ⟨n, eP⟩ := hP
  obtain ⟨o, e, c, nc, d⟩ := I
  have hx : x ≠ P := by rintro rfl; rw [eP] at e; cases e; cases c
  refine ⟨o, k _ _ hx e, c, nc, ?_⟩
  rcases d with d | ⟨dx, e1, e2, o', es, ep, e3, e4, r⟩
  · exact .inl d
  · have hd : dx ≠ P := by rintro rfl; rw [eP] at e3; cases e3; cases e4
    exact .inr ⟨dx, e1, e2, o', es, ep, k _ _ hd e3, e4, r⟩
theorem Inst.keeps {h h' : Heap} {x C : Addr} {mA : Str → Option Value} (I : h.Inst x C mA) (k : ∀ b o, h.get? b = some o → h'.get? b = some o) : h'.Inst x C mA := by
  obtain ⟨o, e, c, nc, d⟩ := I
  refine ⟨o, k _ _ e, c, nc, ?_⟩
  rcases d with d | ⟨dx, e1, e2, o', es, ep, e3, r⟩
  · exact .inl d
  · exact .inr ⟨dx, e1, e2, o', es, ep, k _ _ e3, r⟩

theorem cl_ga (P : Params) : cl P (Str.ofString "__getattribute__") = none := by kernel_rfl
theorem cl_gt (P : Params) : cl P (Str.ofString "__getattr__") = none := by kernel_rfl
theorem cl_pb (P : Params) : cl P (Str.ofString "pushback") = none := by kernel_rfl
theorem no_pb : typeLookup (.type "object") (Str.ofString "pushback") = pure none := by rw [typeLookup_type, builtinLookup_eq_fast]; kernel_rfl

section
variable {w : World} {A : Around} {E : Value → Shared → Prop} {s : Shared} {n : Nat} {Q : Value → Shared → Prop}
/-- an attribute of an object -/
theorem attrX {env : Env} {x : Addr} {nm attr : Str} {xp pos : Pos} {mA m : Str → Option Value} {v : Value} (T : TopH w s.heap) (I : s.heap.Inst x 52 mA) (hA : mA attr = some v)
    (hna : cl w.params attr = none) (hB : typeLookup (.type "object") attr = pure none) (hh : handedOut v = pure v)
    (hn : s.heap.Ns env.locals m) (hm : m nm = some (.ref x)) (hk : env.scope.kind = .function) (hl : env.kindOf nm = some .local) (hd : (nm == ("__debug__" : Str)) = false)
    (he : eval (.Attribute (.Name nm xp) attr pos) env = (do
      let o ← eval (.Name nm xp) env
      standAt pos.atName
      let r ← holding [o] (getAttr o attr true)
      letTemporaryGo (.Name nm xp) o r
      pure r))
    (h : Q v { s with toks := s.toks + 1 }) : wpAny (model pw w) A (eval (.Attribute (.Name nm xp) attr pos) env) Q E s := by
  obtain ⟨nm', q, k2, k3, hC⟩ := T.cls
  refine Attribute_Name_ (wpAny_Name (wpAny_loadName_local hk hl hn hm ?_) hd) he
  obtain ⟨hp, g, d, t, os⟩ := s
  exact load_attr hC T.clsNs (cl_ga _) hna hB I hA hh h
theorem pbX {env : Env} {x P : Addr} {xp pos : Pos} {mA m : Str → Option Value} (T : TopH w s.heap) (I : Lex s.heap x P mA)
    (hn : s.heap.Ns env.locals m) (hm : m (Str.ofString "self") = some (.ref x)) (hk : env.scope.kind = .function) (hl : env.kindOf (Str.ofString "self") = some .local)
    (h : Q (.ref P) { s with toks := s.toks + 1 }) : wpAny (model pw w) A (eval (.Attribute (.Name (Str.ofString "self") xp) (Str.ofString "pushback") pos) env) Q E s :=
  attrX T I.inst I.pb (cl_pb _) no_pb rfl hn hm hk hl (by decide) (by with_unfolding_all rfl) h
end
end Mine
namespace Mine
open PySem PySem.W PySem.Challenge PySem.Calls PyProof.Rows

section
variable {w : World} {A : Around} {E : Value → Shared → Prop} {s : Shared} {n : Nat} {Q : Value → Shared → Prop}

theorem PlainListL {h : Heap} {l : Addr} {its : Array Value} (x : h.PlainList l its) : PlainL h l its := let ⟨n, e⟩ := x; ⟨_, n, e, rfl, rfl, rfl⟩

theorem append_plain {l : Addr} {its : Array Value} {x : Value}
    (hl : s.heap.PlainList l its) (hQ : ∀ h', h'.PlainList l (its.push x) → Heap.SameBut l s.heap h' → Q .none { s with heap := h' })
    (hsz : its.size ≤ sizeLine) :
    wpAny (model pw w) A (call (.builtin "list.append") [.ref l, x]) Q E s := by
  obtain ⟨n, ho⟩ := id hl
  obtain ⟨n', hd'⟩ := Obj.data_mapSeq (o := { cls := .type "list", data := .seq its n }) rfl (·.push x)
  refine wpAny_call_entry slot_list_append hl.isList.typeIs entry_list_append ?_ (args_list_append _ _)
  show wpAny _ _ (updateSeq l (·.push x) >>= fun _ => ret .none) _ _ s
  refine wpAny_bind ?_
  refine wpAny_updateSeq ho rfl (wpAny_pure ⟨.none, rfl, hQ _ ?_ (Heap.SameBut.update ..)⟩)
  exact ⟨_, Heap.get?_update_self _ ho (Obj.isFreed_of_seq hd')⟩

theorem push_call {x P : Addr} {mA : Str → Option Value} {its : Array Value} {v : Value} (T : TopH w s.heap) (hr : Room A (n + 1)) (I : Lex s.heap x P mA) (hP : s.heap.PlainList P its) (hsz : its.size ≤ sizeLine)
    (h : ∀ h' tk, (∀ b o, b ≠ P → s.heap.get? b = some o → h'.get? b = some o) → h'.PlainList P (its.push v) → Q .none { s with heap := h', toks := tk }) :
    wpAny (model pw w) A (call (.ref 49) [.ref x, v]) Q E s := by
  refine wpAny_call (enterM [Str.ofString "self", Str.ofString "token"] T hr (fnPush _) (by kernel_rfl) (fun pm => by kernel_rfl) (by kernel_rfl) (by kernel_rfl) (by kernel_rfl) (fun h₁ tk htk F T₁ hr₁ => ?_))
  have I₁ : Lex h₁ x P mA := ⟨Inst.keeps I.inst F.keep, I.pb⟩
  have P₁ : h₁.PlainList P its := hP.at fun o e => F.keep _ o e
  refine wpAny_execs_cons (wpAny_Expr (wpAny_Call_append (by kernel_rfl) (by kernel_rfl) (by kernel_rfl) (by kernel_rfl) (pbX T₁ I₁ F.ns rfl (by kernel_rfl) (by kernel_rfl) ⟨P, its, rfl, PlainListL P₁, ?_⟩)))
  refine ld F.fr rfl (append_plain P₁ (fun h₂ P₂ s₂ => ?_) hsz)
  refine wpAny_execs_nil (h h₂ _ (fun b o hb e => (s₂.2 b hb).trans (F.keep b o e)) P₂)

theorem mapSeq_list (its : Array Value) (n : Nat) (f : Array Value → Array Value) : ∃ k, Obj.mapSeq f { cls := .type "list", data := .seq its n } = { cls := .type "list", data := .seq (f its) k } := ⟨_, rfl⟩

theorem pop0_plain {l : Addr} {v : Value} {vs : List Value} {u : Tok} (hl : s.heap.PlainList l (v :: vs).toArray) (hsz : vs.length + 1 ≤ sizeLine)
    (hQ : ∀ h', h'.PlainList l vs.toArray → Heap.SameBut l s.heap h' → Q v { s with heap := h' }) :
    wpAny (model pw w) A (call (.builtin "list.pop") [.ref l, .int 0 u]) Q E s := by
  obtain ⟨n, ho⟩ := id hl
  refine call_meets F.slot_list_pop hl.isList.typeIs F.entry_list_pop (F.args_list_pop_2 _ _) (MeetsSeq.list_pop_at l (v :: vs).toArray n 0 u 0 v rfl (by simp [seqIndex?]) (by simp) (by simpa using hsz)) ⟨ho, hQ _ ?_ (Heap.SameBut.update ..)⟩
  obtain ⟨n', hd'⟩ := Obj.data_mapSeq (o := { cls := .type "list", data := .seq (v :: vs).toArray n }) rfl (fun xs => xs.eraseIdxIfInBounds 0)
  have e : ((v :: vs).toArray.eraseIdxIfInBounds 0) = vs.toArray := by
    apply Array.ext'
    simp [Array.eraseIdxIfInBounds]
  obtain ⟨k, hk⟩ := mapSeq_list (v :: vs).toArray n (fun xs => xs.eraseIdxIfInBounds 0)
  exact ⟨k, (Heap.get?_update_self _ ho (Obj.isFreed_of_seq hd')).trans (by rw [hk, e])⟩

/-- a token got while some wait -/
theorem get_call {x P : Addr} {mA : Str → Option Value} {v : Value} {vs : List Value} (T : TopH w s.heap) (hr : Room A (n + 1)) (I : Lex s.heap x P mA) (hP : s.heap.PlainList P (v :: vs).toArray) (hsz : vs.length + 1 ≤ sizeLine)
    (h : ∀ h' tk, (∀ b o, b ≠ P → s.heap.get? b = some o → h'.get? b = some o) → h'.PlainList P vs.toArray → Q v { s with heap := h', toks := tk }) :
    wpAny (model pw w) A (call (.ref 42) [.ref x]) Q E s := by
  refine wpAny_call (enterM [Str.ofString "self"] T hr (fnGet _) (by kernel_rfl) (fun pm => by kernel_rfl) (by kernel_rfl) (by kernel_rfl) (by kernel_rfl) (fun h₁ tk htk F T₁ hr₁ => ?_))
  have I₁ : Lex h₁ x P mA := ⟨Inst.keeps I.inst F.keep, I.pb⟩
  have P₁ : h₁.PlainList P (v :: vs).toArray := hP.at fun o e => F.keep _ o e
  have b1 : ((v :: vs).toArray.size : Int) < 2 ^ 63 := by have := hsz; rw [sizeLine_eq] at this; simp; lia
  refine wpAny_execs_cons (wpAny_If (wpAny_isTrue_value (pbX T₁ I₁ F.ns rfl (by kernel_rfl) (by kernel_rfl) (wpAny_truthy_list P₁.isList b1 ?_)) (by kernel_rfl)))
  show wpAny _ _ (execs [_] _) _ _ _
  refine wpAny_execs_cons (wpAny_Return_some (Call_method1 (by kernel_rfl) (by kernel_rfl) (by kernel_rfl) (pbX T₁ I₁ F.ns rfl (by kernel_rfl) (by kernel_rfl) ?_)))
  refine ⟨"list", "list.pop", PySem.F.plainAttrs_list, PySem.F.slot_list_pop, PySem.F.type_list_pop, P₁.isList.typeIs, fun a e => ?_, ?_⟩
  · cases e
    obtain ⟨n, e⟩ := P₁
    exact ⟨_, e, rfl⟩
  · refine callWith_builtin rfl (evalArgs_plain (spliced_cons (wpAny_Constant_int (spliced_nil ?_))))
    exact pop0_plain P₁ hsz fun h₂ P₂ s₂ => h h₂ _ (fun b o hb e => (s₂.2 b hb).trans (F.keep b o e)) P₂
end
end Mine
namespace Mine
open PySem PySem.W PySem.Challenge PySem.Calls PyProof.Rows

section
variable {w : World} {A : Around} {E : Value → Shared → Prop} {s : Shared} {n : Nat} {Q : Value → Shared → Prop}

/-- the call of a method of the class on an object of it -/
theorem methC {env : Env} {x f : Addr} {nm name fnm fqn : Str} {st : Stmt} {cd : Value} {np apos pos : Pos} {args : List Expr} {trees : List (Bool × Sem Value)} {mA m : Str → Option Value} {y : Option Value} (T : TopH w s.heap) (I : s.heap.Inst x 52 mA) (hsh : mA name = none)
    (fn : FnM w.params f fnm fqn st cd) (hf : cl w.params name = some (.ref f)) (hB : typeLookup (.type "object") name = pure y)
    (hn : s.heap.Ns env.locals m) (hm : m nm = some (.ref x)) (hk : env.scope.kind = .function) (hl : env.kindOf nm = some .local) (hd : (nm == ("__debug__" : Str)) = false)
    (ht : backTo pos (starEach args env) = trees) (hline : (apos.endLine == pos.line) = true)
    (hbase : attributeBase (.Name nm np) name env (eval (.Name nm np) env) = eval (.Name nm np) env)
    (hfew : methodCallForm (args.length + ([] : List Keyword).length) trees (backToKw pos (keywordEach [] env)) = true)
    (hg : wpAny (model pw w) A (callWith pos (.ref f) [.ref x] trees []) Q E s) :
    wpAny (model pw w) A (eval (.Call (.Attribute (.Name nm np) name apos) args [] pos) env) Q E s := by
  obtain ⟨nm', q, k2, k3, hC⟩ := T.cls
  obtain ⟨of, pm, hof, hoc, _⟩ := fn.get T
  rw [arm_eval_Call, hbase]
  refine wpAny_bind (wpAny_Name (wpAny_loadName_local hk hl hn hm ?_) hd)
  refine wpAny_bind (wpAny_standAt ?_)
  subst ht
  have hpos : methodCallPos true (.Name nm np) env apos pos = pure pos := by unfold methodCallPos; simp [hline]
  unfold methodCall
  rw [hfew]
  refine wpAny_bind (wpAny_holding ?_)
  show wpAny _ _ (getMethod (.ref x) name _) _ _ _
  obtain ⟨hp, g, d, t, os⟩ := s
  exact method_of hC T.clsNs (cl_ga _) (cl_gt _) hf hof hoc hB I hsh (wpAny_bind (wpAny_of_eq hpos hg))

theorem methC0 {pos : Pos} {x f : Addr} {fnm fqn : Str} {st : Stmt} {cd : Value} (T : TopH w s.heap) (fn : FnM w.params f fnm fqn st cd)
    (h : wpAny (model pw w) A (call (.ref f) [.ref x]) Q E s) : wpAny (model pw w) A (callWith pos (.ref f) [.ref x] [] []) Q E s := by
  obtain ⟨o, pm, ho, _, d⟩ := fn.get T
  exact callWith_function (o := o) (PyProof.Rows.evalArgs_none ⟨⟨ho, d⟩, h⟩)
theorem methC1 {pos : Pos} {x f : Addr} {fnm fqn : Str} {st : Stmt} {cd : Value} {a : Sem Value} (fn : FnM w.params f fnm fqn st cd)
    (h : wpAny (model pw w) A a (fun v s₁ => TopH w s₁.heap ∧ wpAny (model pw w) A (call (.ref f) [.ref x, v]) Q E s₁) E s) : wpAny (model pw w) A (callWith pos (.ref f) [.ref x] [(false, a)] []) Q E s := by
  obtain ⟨o, pm, ho, _, d⟩ := fn.obj
  exact callWith_function (o := o) (evalArgs_plain (spliced_cons (wpAny_mono h (fun v s₁ h₁ => spliced_nil ⟨⟨h₁.1.at_ _ _ ho fn.low, d⟩, h₁.2⟩) fun _ _ e => e)))
end
theorem cl_push (P : Params) : cl P (Str.ofString "push_token") = some (.ref 49) := by kernel_rfl
theorem cl_get (P : Params) : cl P (Str.ofString "get_token") = some (.ref 42) := by kernel_rfl
theorem ob_push : typeLookup (.type "object") (Str.ofString "push_token") = pure none := by rw [typeLookup_type, builtinLookup_eq_fast]; kernel_rfl
theorem ob_get : typeLookup (.type "object") (Str.ofString "get_token") = pure none := by rw [typeLookup_type, builtinLookup_eq_fast]; kernel_rfl
end Mine
namespace Mine
open PySem PySem.W PySem.Challenge PySem.Calls PyProof.Rows

theorem Fx.cell {K : Addr → Obj → Prop} {L c : Addr} {h : Heap} {m : Str → Option Value} {v : Option Value} (F : Fx K L h m) (hc : h.IsCell c v) (hne : c ≠ L) :
    ∃ o, Fx (fun b o' => K b o' ∨ (b = c ∧ o' = o)) L h m ∧ o.data = .cell v := by
  obtain ⟨o, e, d⟩ := hc
  exact ⟨o, ⟨F.ns, fun b o' x => x.elim (F.keep b o') (fun x => by rw [x.1, x.2]; exact e), fun o' x => x.elim (F.off o') (fun x => hne x.1.symm)⟩, d⟩

section
variable {w : World} {A : Around} {s : Shared} {E : Value → Shared → Prop}

theorem ldE {M : Model} {env : Env} {x : Str} {pos : Pos} {K : Addr → Obj → Prop} {m : Str → Option Value} {v : Value} {Q : Value → Shared → Prop} (F : Fx K env.locals s.heap m) (hv : m x = some v) (h : Q v s)
    (hk : env.scope.kind = .function := by rfl) (hl : env.kindOf x = some .local := by rfl) (hd : (x == ("__debug__" : Str)) = false := by decide) :
    wpAny M A (eval (.Name x pos) env) Q E s := wpAny_Name (wpAny_loadName_local hk hl F.ns hv h) hd
theorem ldnE {M : Model} {env : Env} {x : Str} {K : Addr → Obj → Prop} {m : Str → Option Value} {v : Value} {Q : Value → Shared → Prop} (F : Fx K env.locals s.heap m) (hv : m x = some v) (h : Q v s)
    (hk : env.scope.kind = .function := by rfl) (hl : env.kindOf x = some .local := by rfl) :
    wpAny M A (loadName env x) Q E s := wpAny_loadName_local hk hl F.ns hv h
/-- a name that lies in a cell -/
theorem ldCell {M : Model} {env : Env} {x : Str} {pos : Pos} {c : Addr} {o : Obj} {v : Value} {Q : Value → Shared → Prop} (hc : env.cells.lookup x = some c) (ho : s.heap.get? c = some o) (hd' : o.data = .cell (some v)) (h : Q v s)
    (hk : env.scope.kind = .function := by rfl) (hl : env.kindOf x = some .cell := by rfl) (hd : (x == ("__debug__" : Str)) = false := by decide) :
    wpAny M A (eval (.Name x pos) env) Q E s := wpAny_Name (wpAny_loadName_cell hk hl hc ⟨o, ho, hd'⟩ h) hd
theorem ldFree {M : Model} {env : Env} {x : Str} {pos : Pos} {c : Addr} {o : Obj} {v : Value} {Q : Value → Shared → Prop} (hc : env.cells.lookup x = some c) (ho : s.heap.get? c = some o) (hd' : o.data = .cell (some v)) (h : Q v s)
    (hk : env.scope.kind = .function := by rfl) (hl : env.kindOf x = some .free := by rfl) (hd : (x == ("__debug__" : Str)) = false := by decide) (hn : (x == ("__classdict__" : Str)) = false := by decide) :
    wpAny M A (eval (.Name x pos) env) Q E s := wpAny_Name (wpAny_loadName_free hk hl hc ⟨o, ho, hd'⟩ h hn) hd

/-- entering a def with cells of its own -/
theorem enterC {a : Addr} {name : Str} {st : Stmt} {cd : Value} {n : Nat} {args : List Value} {R : Result → Shared → Prop} (ps : List Str) (T : TopH w s.heap) (hr : Room A (n + 1)) (f : FnAt w.params a name st cd)
    (hkind : ∀ L, (ps.all fun x => decide ((fScope st).names.lookup x = some .local) || (decide ((fScope st).names.lookup x = some .cell) && ((cellsFrom (L + 1) (fScope st).names []).lookup x).isSome)) = true)
    (hbind : ∀ pm, bindArgs (docDef name (fArgs st) (fBody st) (fScope st) pm cd .none) ⟨args, []⟩ = pure (ps.zip args))
    (hco : ((fScope st).isCoroutine, (fScope st).isGenerator) = (false, false)) (hk : (fScope st).kind = .function)
    (h : ∀ h₁ tk, s.toks ≤ tk → Fx (kp s.heap) s.heap.objs.size h₁ (bindL (envOfC name (fScope st) s.heap.objs.size a cd).kindOf (ps.zip args) fun _ => none) →
      Cl s.heap.objs.size (cellsFrom (s.heap.objs.size + 1) (fScope st).names []) h₁ (bindC (envOfC name (fScope st) s.heap.objs.size a cd).kindOf (ps.zip args) fun _ => none) →
      TopH w h₁ → Room (A.deeper (envOfC name (fScope st) s.heap.objs.size a cd)) n →
      wpAny (model pw w) (A.deeper (envOfC name (fScope st) s.heap.objs.size a cd)) (execs (fBody st) (envOfC name (fScope st) s.heap.objs.size a cd))
        (fun f s' => R (.ok (.ret (match f with | .ret v => v | _ => .none))) s') (fun _ _ => False)
        { s with heap := h₁, toks := tk }) :
    codeAny (model pw w) A (.call (.ref a) ⟨args, []⟩) R s := by
  obtain ⟨o, pm, ho, hd⟩ := f.get T
  refine codeAny_call_function (by have := hr.depth; omega) ho hd (Prod.mk.inj hco).1 (Prod.mk.inj hco).2 rfl (f.rec_ T) ?_
  rw [hbind pm]
  have hkind' : ∀ x ∈ ps.zip args, (fScope st).names.lookup x.1 = some .local ∨ ((fScope st).names.lookup x.1 = some .cell ∧ ((cellsFrom (s.heap.objs.size + 1) (fScope st).names []).lookup x.1).isSome = true) := fun x hx => by
    have := List.all_eq_true.mp (hkind s.heap.objs.size) x.1 (List.of_mem_zip hx).1
    rw [Bool.or_eq_true, Bool.and_eq_true, decide_eq_true_eq, decide_eq_true_eq] at this
    exact this
  refine wpAny_pure (wpAny_with_toks (Nat.le_refl _) (wpAny_newFunctionEnv_cells hk hkind' fun env he s' x hle => ?_))
  subst he
  obtain ⟨h₁, tk, rfl, _⟩ := x.done
  refine ⟨T.lim.keeps x.toInCall.keep, ?_⟩
  show codeAny _ _ (.func (fBody st) (envOfC name (fScope st) s.heap.objs.size a cd)) _ _
  refine codeAny_func (wpAny_mono (h h₁ tk hle ⟨x.toInCall.ns, x.toInCall.keep, fun o e => absurd (Heap.lt_size e) (Nat.lt_irrefl _)⟩ ⟨x.cell, x.apart, x.above⟩ (T.keeps x.toInCall.keep) (hr.deeper _)) (fun _ _ x => x) (fun _ _ x => x.elim))
end
end Mine
namespace Mine
open PySem PySem.W PySem.Challenge PySem.Calls PyProof.Rows

/-- what a comprehension's source and turns have to meet -/
structure CompOK (w : World) (A : Around) (env : Env) (scope : Scope) (cl : List (Str × Addr)) (x : Str) (ifs : List Expr) (elt : Expr) (I : Addr) (fp wr : List Addr) (n : Nat) (P : Nat → Nat → Value → Prop) (St : Nat → Heap → Prop)
    (K : Addr → Obj → Prop) (J : Nat → Heap → List Value → Prop) (Q : Value → Shared → Prop) (s₂ : Shared) : Prop where
  W : WalksX w A I fp wr n P St
  self : ∀ (s : Shared) (Q : Value → Shared → Prop) (E : Value → Shared → Prop), St 0 s.heap → Q (.ref I) s → wpAny (model pw w) A (pyIter (.ref I)) Q E s
  size : n ≤ sizeLine
  hst : St 0 s₂.heap
  hfp : ∀ b ∈ fp, b < s₂.heap.objs.size
  keep : ∀ b o, K b o → s₂.heap.get? b = some o
  hw : ∀ b ∈ wr, ∀ o, ¬ K b o
  stable : ∀ i h h' vs, J i h vs → (∀ b o, s₂.heap.get? b ≠ none → b ∉ wr → h.get? b = some o → h'.get? b = some o) → J i h' vs
  h0 : J 0 s₂.heap []
  step : ∀ i v tk m h₁ tk₀ C vs (K' : Addr → Obj → Prop), (∀ b o, K b o → K' b o) → (∀ b o, K' b o → K b o ∨ b ∈ fp ∨ s₂.heap.get? b = none) → s₂.heap.get? C = none → i < n → s₂.toks ≤ tk₀ → tk₀ ≤ tk → P tk₀ i v → J i h₁ vs → vs.length ≤ i →
    Fx K' C h₁ m → m x = some v →
    wpAny (model pw w) A (forIn ifs true fun c r => if r = true then do let ok ← isTrue c (compEnvC scope cl C env) (eval c (compEnvC scope cl C env)); pure (ForInStep.yield ok) else pure (ForInStep.yield r))
      (fun ok s₃ => if ok = true then wpAny (model pw w) A (eval elt (compEnvC scope cl C env)) (fun y s₄ => ∃ h₄ tk₄ m₄, s₄ = { s₂ with heap := h₄, toks := tk₄ } ∧ Fx K' C h₄ m₄ ∧ J (i + 1) h₄ (vs ++ [y])) (fun _ _ => False) s₃
        else ∃ h₃ tk₃ m₃, s₃ = { s₂ with heap := h₃, toks := tk₃ } ∧ Fx K' C h₃ m₃ ∧ J (i + 1) h₃ vs) (fun _ _ => False) { s₂ with heap := h₁, toks := tk }
  fin : ∀ h tk D vs, s₂.toks ≤ tk → (∀ b o, K b o → h.get? b = some o) → s₂.heap.get? D = none → h.PlainList D vs.toArray → J n h vs → Q (.ref D) { s₂ with heap := h, toks := tk }

section
variable {w : World} {A : Around} {s : Shared} {E : Value → Shared → Prop}

theorem compX {env : Env} {elt iter : Expr} {x : Str} {px : Pos} {ifs : List Expr} {scope : Scope} {cl : List (Str × Addr)} {pos : Pos} {Q : Value → Shared → Prop}
    (hclos : closureFor scope env = pure cl) (hcell : ∀ y ∈ scope.names, y.2 ≠ .cell) (hkind : scope.kind = .function)
    (hnames : ∀ y ∈ scope.names, y.2 = .local → scope.names.lookup y.1 = some .local) (hx : scope.names.lookup x = some .local)
    (h : wpAny (model pw w) A (eval iter env) (fun xv s₁ => wpAny (model pw w) A (pyIter xv) (fun it s₂ => ∃ I fp wr n P St K J, it = .ref I ∧ CompOK w A env scope cl x ifs elt I fp wr n P St K J Q s₂) E s₁) E s)
    (hs : ∀ x, foldedSetIterable iter env x = pure x) :
    wpAny (model pw w) A (eval (.ListComp elt [⟨.Name x px, iter, ifs, 0⟩] scope pos) env) Q E s := by
  rw [eval_ListComp]
  refine wpAny_comprehension_free (use := none) rfl hs hclos hkind hnames (wpAny_mono h (fun xv s₁ h₁ => wpAny_mono h₁ (fun it s₂ h₂ => ?_) fun _ _ e => e) fun _ _ e => e)
  refine hideG fun GG hGG => ?_
  obtain ⟨I, fp, wr, n, P, St, K, J, rfl, ok⟩ := h₂
  subst hGG
  refine wpAny_newObj_type (wpAny_newFunctionEnv hcell (by intro y hy; simp at hy) (fun h₁ hns₁ hsb₁ => ?_) hkind)
  dsimp only at hns₁ hsb₁ ⊢
  generalize hH2 : s₂.heap.push { cls := .type "list", dict := none, data := .seq ([] : List Value).toArray } = H2 at hns₁ hsb₁ ⊢
  have hC : H2.objs.size = s₂.heap.objs.size + 1 := by rw [← hH2, Heap.size_push]
  have hDC : s₂.heap.objs.size ≠ H2.objs.size := by rw [hC]; exact Nat.ne_of_lt (Nat.lt_succ_self _)
  have old : ∀ b o, s₂.heap.get? b = some o → h₁.get? b = some o := fun b o e => hsb₁.extBut b o (by have := Heap.lt_size e; rw [hC]; exact Nat.ne_of_lt (Nat.lt_succ_of_lt this)) (Heap.get?_push_of_some _ (hH2 ▸ Heap.get?_push_of_some _ e))
  have hacc : h₁.PlainList s₂.heap.objs.size #[] := ⟨_, hsb₁.extBut _ _ hDC (Heap.get?_push_of_some _ (hH2 ▸ Heap.get?_push_size _ rfl))⟩
  have hst₁ : St 0 h₁ := ok.W.frame _ _ _ ok.hst fun b _ o e => old b o e
  have hDnone : s₂.heap.get? s₂.heap.objs.size = none := gone_of_size (Nat.le_refl _)
  have hCnone : s₂.heap.get? H2.objs.size = none := gone_of_size (by rw [hC]; exact Nat.le_succ _)
  have hDfp : s₂.heap.objs.size ∉ fp := fun hm => Nat.lt_irrefl _ (ok.hfp _ hm)
  have hCfp : H2.objs.size ∉ fp := fun hm => by have := ok.hfp _ hm; rw [hC] at this; exact Nat.lt_irrefl _ (Nat.lt_of_succ_lt this)
  have hCwr : H2.objs.size ∉ wr := fun hm => hCfp (ok.W.sub _ hm)
  have hDwr : s₂.heap.objs.size ∉ wr := fun hm => hDfp (ok.W.sub _ hm)
  generalize hDD : s₂.heap.objs.size = D at *
  generalize hCC : H2.objs.size = C at *
  have hKD : ∀ o, ¬ K D o := fun o e => by have := ok.keep _ _ e; rw [hDnone] at this; cases this
  have hKC : ∀ o, ¬ K C o := fun o e => by have := ok.keep _ _ e; rw [hCnone] at this; cases this
  have F₁ : Fx K C h₁ _ := ⟨hns₁, fun b o e => old b o (ok.keep b o e), hKC⟩
  have J₁ : J 0 h₁ [] := ok.stable 0 _ _ _ ok.h0 fun b o _ _ e => old b o e
  have loop : ∀ s₃ : Shared, s₃ = { s₂ with heap := h₁, toks := s₂.toks + ([] : List (Str × Value)).length } →
      codeAny (model pw w) A (.compLoop (.ListComp elt [⟨.Name x px, iter, ifs, 0⟩] scope pos) 0 (.ref I) (.ref D) (compEnvC scope cl C env)) (compPost (model pw w) A E none Q (.ref D) C) s₃ := by
    rintro s₃ rfl
    refine codeAny_compLoop_tests (fun k s' => ∃ h tk i m vs, s' = { s₂ with heap := h, toks := tk } ∧ s₂.toks ≤ tk ∧ St i h ∧ Fx K C h m ∧ J i h vs ∧ h.PlainList D vs.toArray ∧ vs.length ≤ i ∧ i ≤ n ∧ k = n + 1 - i) ?_ (n + 1)
      ⟨h₁, _, 0, _, [], rfl, Nat.le_refl _, hst₁, F₁, J₁, hacc, Nat.le_refl _, Nat.zero_le _, rfl⟩
    intro k s' JJ
    refine hideG fun GG hGG => ?_
    obtain ⟨h, tk, i, m, vs, rfl, htk, hs, F, hJ, hP, hlen, hi, rfl⟩ := JJ
    subst hGG
    by_cases hlt : i < n
    · refine wpAny_with_toks (n := tk) (Nat.le_refl _) (ok.W.item i _ _ _ hlt hs fun v h₂ tk₂ hPv hs₂ hk₂ hle => ?_)
      have hle : tk ≤ tk₂ := hle
      have F₂ := F.but hCwr ok.hw hk₂
      have hJ₂ := ok.stable i h h₂ vs hJ (fun b o _ hb => hk₂ b o hb)
      have hP₂ := hP.at (h' := h₂) fun o e => hk₂ _ o hDwr e
      refine wpAny_assign_Name (stx (env := compEnvC scope cl C env) F₂ (fun h₃ F₃ hs₃ => ?_) (lookup_relabel_local hx) (by simp [compEnvC, relabel, hkind]))
      have hs₃ : Heap.SameBut C h₂ h₃ := hs₃
      have hJ₃ := ok.stable i h₂ h₃ vs hJ₂ (fun b o hb _ e => (hs₃.2 b fun q => hb (q ▸ hCnone)).trans e)
      have hst₃ : St (i + 1) h₃ := ok.W.frame _ _ _ hs₂ fun b hb o e => (hs₃.2 b fun q => hCfp (q ▸ hb)).trans e
      have hP₃ : h₃.PlainList D vs.toArray := hP₂.at fun o e => (hs₃.2 D hDC).trans e
      have F₃ : Fx (fun b o => K b o ∨ ((b ∈ fp ∨ b = D) ∧ h₃.get? b = some o)) C h₃ _ :=
        ⟨F₃.ns, fun b o e => e.elim (F₃.keep b o) And.right, fun o e => e.elim (F₃.off o) fun e => e.1.elim hCfp fun q => hDC q.symm⟩
      have big := wpAny_toks_of (n := tk₂ + 1) (Nat.le_refl _) (ok.step i v (tk₂ + 1) _ h₃ tk C vs (fun b o => K b o ∨ ((b ∈ fp ∨ b = D) ∧ h₃.get? b = some o)) (fun _ _ e => .inl e)
        (fun b o e => by
          rcases e with e | ⟨e | e, _⟩
          · exact .inl e
          · exact .inr (.inl e)
          · exact .inr (.inr (by rw [e]; exact hDnone))) hCnone hlt htk (by lia) hPv hJ₃ hlen F₃ (by simp))
      refine wpAny_mono (wpAny_mono big (fun okb s₄ h₄ => ?_) (fun _ _ e => e.2.elim)) (fun _ _ e => e) fun _ _ e => e
      obtain ⟨htk₄, h₄⟩ := h₄
      cases okb with
      | false =>
        simp only [Bool.false_eq_true, if_false] at h₄ ⊢
        obtain ⟨h₅, tk₅, m₅, rfl, F₅, hJ₅⟩ := h₄
        have htk₄ : tk₂ + 1 ≤ tk₅ := htk₄
        refine ⟨n + 1 - (i + 1), by lia, h₅, tk₅, i + 1, m₅, vs, rfl, by lia, ok.W.frame _ _ _ hst₃ fun b hb o e => F₅.keep b o (.inr ⟨.inl hb, e⟩), F₅.mono fun b o e => .inl e, hJ₅, hP₃.at fun o e => F₅.keep D o (.inr ⟨.inr rfl, e⟩), by lia, hlt, rfl⟩
      | true =>
        simp only [if_true] at h₄ ⊢
        refine wpAny_mono (wpAny_mono (wpAny_toks_of htk₄ h₄) (fun y s₅ h₅ => ?_) (fun _ _ e => e.2.elim)) (fun _ _ e => e) fun _ _ e => e
        obtain ⟨htk₅, h₅, tk₅, m₅, rfl, F₅, hJ₅⟩ := h₅
        have htk₅ : tk₂ + 1 ≤ tk₅ := htk₅
        have hP₅ : h₅.PlainList D vs.toArray := hP₃.at fun o e => F₅.keep D o (.inr ⟨.inr rfl, e⟩)
        refine append_plain hP₅ (fun h₆ hP₆ hs₆ => ?_) (by have := ok.size; simp; lia)
        have hs₆ : Heap.SameBut D h₅ h₆ := hs₆
        refine ⟨n + 1 - (i + 1), by lia, h₆, tk₅, i + 1, m₅, vs ++ [y], rfl, by lia, ok.W.frame _ _ _ hst₃ fun b hb o e => (hs₆.2 b fun q => hDfp (q ▸ hb)).trans (F₅.keep b o (.inr ⟨.inl hb, e⟩)),
          (F₅.mono fun b o e => .inl e).wr hs₆ hDC hKD, ok.stable _ _ _ _ hJ₅ fun b o hb _ e => (hs₆.2 b fun q => hb (q ▸ hDnone)).trans e, ?_, by simp; lia, hlt, rfl⟩
        have : vs.toArray.push y = (vs ++ [y]).toArray := by simp
        rw [← this]; exact hP₆
    · have hin : i = n := by lia
      subst hin
      refine wpAny_with_toks (n := tk) (Nat.le_refl _) (ok.W.done _ _ _ hs fun h₂ tk₂ hk₂ hle => ?_)
      have hle : tk ≤ tk₂ := hle
      have F₂ := F.but hCwr ok.hw hk₂
      refine ⟨m, F₂.ns, fun h₃ hs₃ => ?_⟩
      have hs₃ : Heap.SameBut C h₂ h₃ := hs₃
      refine ok.fin h₃ tk₂ D vs (by lia) (fun b o e => (hs₃.2 b fun q => hKC o (q ▸ e)).trans (F₂.keep b o e)) hDnone ?_ ?_
      · exact (hP.at (h' := h₂) fun o e => hk₂ _ o hDwr e).at fun o e => (hs₃.2 D hDC).trans e
      · exact ok.stable _ _ _ _ (ok.stable _ h h₂ vs hJ (fun b o _ hb => hk₂ b o hb)) fun b o hb _ e => (hs₃.2 b fun q => hb (q ▸ hCnone)).trans e
  exact codeAny_compStart_list (loop _ rfl) (ok.self _ _ _ hst₁ (loop _ rfl))
theorem compB {env : Env} {elt iter : Expr} {x : Str} {px : Pos} {ifs : List Expr} {scope : Scope} {cl : List (Str × Addr)} {pos : Pos} {Q : Value → Shared → Prop}
    (hclos : closureFor scope env = pure cl) (hcell : (scope.names.all fun y => decide (y.2 ≠ .cell)) = true) (hkind : scope.kind = .function)
    (hnames : (scope.names.all fun y => decide (y.2 ≠ .local) || decide (scope.names.lookup y.1 = some .local)) = true) (hx : scope.names.lookup x = some .local)
    (hs : ∀ x, foldedSetIterable iter env x = pure x)
    (h : wpAny (model pw w) A (eval iter env) (fun xv s₁ => wpAny (model pw w) A (pyIter xv) (fun it s₂ => ∃ I fp wr n P St K J, it = .ref I ∧ CompOK w A env scope cl x ifs elt I fp wr n P St K J Q s₂) E s₁) E s) :
    wpAny (model pw w) A (eval (.ListComp elt [⟨.Name x px, iter, ifs, 0⟩] scope pos) env) Q E s :=
  compX hclos (fun y hy => of_decide_eq_true (List.all_eq_true.mp hcell y hy)) hkind (fun y hy hl => by
    have := List.all_eq_true.mp hnames y hy
    rw [Bool.or_eq_true, decide_eq_true_eq, decide_eq_true_eq] at this
    exact this.elim (fun e => absurd hl e) id) hx h hs
end
end Mine
namespace Mine
open PySem PySem.W PySem.Challenge PySem.Calls PyProof.Rows

section
variable {w : World} {A : Around} {s : Shared} {E : Value → Shared → Prop}

theorem notNone_push {h : Heap} {b : Addr} (o : Obj) (e : h.get? b ≠ none) : (h.push o).get? b ≠ none := by
  cases g : h.get? b with
  | none => exact absurd g e
  | some o' => rw [Heap.get?_push_of_some _ g]; simp
theorem none_of_push {h : Heap} {b : Addr} (o : Obj) (e : (h.push o).get? b = none) : h.get? b = none := by
  cases g : h.get? b with
  | none => rfl
  | some o' => rw [Heap.get?_push_of_some _ g] at e; cases e

/-- a comprehension over range(n): what comes after the range stands -/
theorem rangeComp {env : Env} {scope : Scope} {cl : List (Str × Addr)} {x : Str} {ifs : List Expr} {elt : Expr} {r : Addr} {n : Nat} {t u v : Tok} {Q : Value → Shared → Prop} (K : Addr → Obj → Prop) (J : Nat → Heap → List Value → Prop)
    (hh : A.handled = none) (hr : IsRange s.heap r 0 n 1 t u v) (hn : n ≤ sizeLine)
    (keep : ∀ b o, K b o → s.heap.get? b = some o)
    (stable : ∀ i h h' vs, J i h vs → (∀ b o, s.heap.get? b ≠ none → h.get? b = some o → h'.get? b = some o) → J i h' vs)
    (h0 : J 0 s.heap [])
    (step : ∀ i t tk m h₁ C vs (K' : Addr → Obj → Prop), (∀ b o, K b o → K' b o) → (∀ b o, K' b o → K b o ∨ s.heap.get? b = none) → s.heap.get? C = none → i < n → s.toks ≤ tk → J i h₁ vs → vs.length ≤ i →
      Fx K' C h₁ m → m x = some (.int (i : Nat) t) →
      wpAny (model pw w) A (forIn ifs true fun c r => if r = true then do let ok ← isTrue c (compEnvC scope cl C env) (eval c (compEnvC scope cl C env)); pure (ForInStep.yield ok) else pure (ForInStep.yield r))
        (fun ok s₃ => if ok = true then wpAny (model pw w) A (eval elt (compEnvC scope cl C env)) (fun y s₄ => ∃ h₄ tk₄ m₄, s₄ = { s with heap := h₄, toks := tk₄ } ∧ Fx K' C h₄ m₄ ∧ J (i + 1) h₄ (vs ++ [y])) (fun _ _ => False) s₃
          else ∃ h₃ tk₃ m₃, s₃ = { s with heap := h₃, toks := tk₃ } ∧ Fx K' C h₃ m₃ ∧ J (i + 1) h₃ vs) (fun _ _ => False) { s with heap := h₁, toks := tk })
    (fin : ∀ h tk D vs, s.toks ≤ tk → (∀ b o, K b o → h.get? b = some o) → s.heap.get? D = none → h.PlainList D vs.toArray → J n h vs → Q (.ref D) { s with heap := h, toks := tk }) :
    wpAny (model pw w) A (pyIter (.ref r)) (fun it s₂ => ∃ I fp wr n P St K J, it = .ref I ∧ CompOK w A env scope cl x ifs elt I fp wr n P St K J Q s₂) E s := by
  rw [sizeLine_eq] at hn
  refine wpAny_pyIter_range hr (small_one (by decide) (by decide) (by lia) (by lia)) ?_
  have hsz : Builtin.Range.rangeSize 0 n 1 = (n : Int) := by rw [rangeSize_one]; split <;> lia
  have hI : s.heap.get? s.heap.objs.size = none := gone_of_size (Nat.le_refl _)
  refine ⟨s.heap.objs.size, [s.heap.objs.size], [s.heap.objs.size], n, _, _, K, J, rfl, ⟨(walksToX (Walks.range (prog := pw) (w := w) hh s.heap.objs.size 0 1 n)), ?_, ?_, ?_, ?_, ?_, ?_, ?_, ?_, ?_, ?_⟩⟩
  · intro s' Q' E' hst hq; exact (Walks.range (prog := pw) (w := w) hh s.heap.objs.size 0 1 n).self 0 s' Q' E' hst hq
  · rw [sizeLine_eq]; lia
  · have e : (0 : Int) + ((0 : Nat) : Int) * 1 = 0 := by simp
    have e2 : ((n : Int) - ((0 : Nat) : Int)) = Builtin.Range.rangeSize 0 n 1 := by rw [hsz]; simp
    rw [e, e2]
    exact Heap.get?_push_size _ rfl
  · intro b hb; simp at hb; subst hb; show s.heap.objs.size < (s.heap.push _).objs.size; rw [Heap.size_push]; exact Nat.lt_succ_self _
  · exact fun b o e => Heap.get?_push_of_some _ (keep b o e)
  · intro b hb o e; simp at hb; subst hb; have := keep _ o e; rw [hI] at this; cases this
  · intro i h h' vs hJ k
    exact stable i h h' vs hJ fun b o hne e => k b o (notNone_push _ hne) (by simp; rintro rfl; exact hne hI) e
  · exact stable 0 _ _ [] h0 fun b o _ e => Heap.get?_push_of_some _ e
  · rintro i v tk m h₁ tk₀ C vs K' hK hK' hC hi htk₀ htk₁ ⟨t', rfl⟩ hJ hlen F hm
    have e : (0 : Int) + (i : Int) * 1 = (i : Nat) := by simp
    rw [e] at hm
    exact step i t' tk m h₁ C vs K' hK (fun b o e => (hK' b o e).imp id fun e => e.elim (fun e => by simp at e; rw [e]; exact hI) (none_of_push _)) (none_of_push _ hC) hi (Nat.le_trans htk₀ htk₁) hJ hlen F hm
  · intro h tk D vs htk hk hD hP hJ
    exact fin h tk D vs htk hk (none_of_push _ hD) hP hJ
end
end Mine
namespace Mine
open PySem PySem.W PySem.Challenge PySem.Calls PyProof.Rows

theorem fnDone (P : Params) : FnAt P 198 (Str.ofString "_law_done") (stA 22) (.ref 197) :=
  ⟨⟨o198 P, pmOf (o198 P), by kernel_rfl, by kernel_rfl, by kernel_rfl⟩, ⟨197, o197 P, dFields (o197 P), tokAt (o197 P), rfl, by kernel_rfl, by kernel_rfl, by kernel_rfl, by decide⟩, by decide⟩

noncomputable def stepWords (ws : List Str) (k : Nat) : List Str := ws.flatMap (grown · k)
noncomputable def runWords (ws : List Str) (ks : List Nat) : List Str := ks.foldl stepWords ws
noncomputable def Small (ws : List Str) : Prop := ws.length ≤ 1000 ∧ ∀ x ∈ ws, x.length ≤ 100
theorem runWords_succ {ws : List Str} {ks : List Nat} {i k : Nat} (h : ks[i]? = some k) : runWords ws (ks.take (i + 1)) = stepWords (runWords ws (ks.take i)) k := by
  unfold runWords
  have e : ks.take (i + 1) = ks.take i ++ [k] := by rw [List.take_add_one, h]; rfl
  rw [e, List.foldl_append]; rfl
theorem flatMap_split {ws : List Str} {j : Nat} {x : Str} (f : Str → List Str) (h : ws[j]? = some x) : ws.flatMap f = (ws.take j).flatMap f ++ (f x ++ (ws.drop (j + 1)).flatMap f) := by
  have e : ws = ws.take j ++ x :: ws.drop (j + 1) := by
    have hj : j < ws.length := by rcases Nat.lt_or_ge j ws.length with h' | h'; exact h'; simp [List.getElem?_eq_none h'] at h
    have hx : ws[j] = x := by simpa [List.getElem?_eq_getElem hj] using h
    rw [← hx, List.getElem_cons_drop, List.take_append_drop]
  conv => lhs; rw [e]
  rw [List.flatMap_append, List.flatMap_cons]
theorem take_flat {ws : List Str} {j : Nat} {x : Str} (f : Str → List Str) (h : ws[j]? = some x) : (ws.take (j + 1)).flatMap f = (ws.take j).flatMap f ++ f x := by
  have e : ws.take (j + 1) = ws.take j ++ [x] := by rw [List.take_add_one, h]; rfl
  rw [e, List.flatMap_append]; simp
theorem take_one {α : Type} {l : List α} {q : Nat} {x : α} (h : l[q]? = some x) : l.take (q + 1) = l.take q ++ [x] := by rw [List.take_add_one, h]; rfl

/-- the ints of a row -/
noncomputable def IntRow (items : Array Value) (ks : List Nat) : Prop := items.size = ks.length ∧ ∀ (i : Nat) (v : Value), items[i]? = some v → ∃ (k : Nat) (t : Tok), ks[i]? = some k ∧ v = Value.int k t

/-- sorted(words, key=_strxfrm) -/
noncomputable def SortsK (w : World) (ws : List Str) : Prop :=
  ∀ (A : Around) (E : Value → Shared → Prop) (s : Shared) (Q : Value → Shared → Prop) (l : Addr) (vs : List Value) (n : Nat), TopH w s.heap → Room A (n + 2) → s.heap.PlainList l vs.toArray → StrsAre vs ws →
    (∀ h' l' tk ys ss, (∀ b o, s.heap.get? b = some o → h'.get? b = some o) → s.heap.get? l' = none → PlainL h' l' ys → StrsAre ys.toList ss → ss.Perm ws → sortedS ss = true → Q (.ref l') { s with heap := h', toks := tk }) →
    wpAny (model pw w) A (call (.builtin "sorted") [.ref l] [(Str.ofString "key", .ref 63)]) Q E s

section
variable {w : World} {A : Around} {E : Value → Shared → Prop} {s : Shared} {n : Nat} {Q : Value → Shared → Prop}

/-- the call of a method of the class on what a name holds -/
theorem methN {env : Env} {x f : Addr} {nm name fnm fqn : Str} {st : Stmt} {cd : Value} {np apos pos : Pos} {args : List Expr} {trees : List (Bool × Sem Value)} {mA : Str → Option Value} {y : Option Value} (T : TopH w s.heap) (I : s.heap.Inst x 52 mA) (hsh : mA name = none)
    (fn : FnM w.params f fnm fqn st cd) (hf : cl w.params name = some (.ref f)) (hB : typeLookup (.type "object") name = pure y)
    (ho : ∀ Q' : Value → Shared → Prop, Q' (.ref x) s → wpAny (model pw w) A (eval (.Name nm np) env) Q' E s)
    (ht : backTo pos (starEach args env) = trees) (hline : (apos.endLine == pos.line) = true)
    (hbase : attributeBase (.Name nm np) name env (eval (.Name nm np) env) = eval (.Name nm np) env)
    (hfew : methodCallForm (args.length + ([] : List Keyword).length) trees (backToKw pos (keywordEach [] env)) = true)
    (hg : wpAny (model pw w) A (callWith pos (.ref f) [.ref x] trees []) Q E s) :
    wpAny (model pw w) A (eval (.Call (.Attribute (.Name nm np) name apos) args [] pos) env) Q E s := by
  refine hideG fun GG hGG => ?_
  obtain ⟨nm', q, k2, k3, hC⟩ := T.cls
  obtain ⟨of, pm, hof, hoc, _⟩ := fn.get T
  subst hGG
  rw [arm_eval_Call, hbase]
  refine wpAny_bind (ho _ ?_)
  refine wpAny_bind (wpAny_standAt ?_)
  subst ht
  have hpos : methodCallPos true (.Name nm np) env apos pos = pure pos := by unfold methodCallPos; simp [hline]
  unfold methodCall
  rw [hfew]
  refine wpAny_bind (wpAny_holding ?_)
  show wpAny _ _ (getMethod (.ref x) name _) _ _ _
  refine hideG fun GG hGG => ?_
  obtain ⟨hp, g, d, t, os⟩ := s
  subst hGG
  exact method_of hC T.clsNs (cl_ga _) (cl_gt _) hf hof hoc hB I hsh (wpAny_bind (wpAny_of_eq hpos hg))

theorem methN0 {env : Env} {x f : Addr} {nm name fnm fqn : Str} {st : Stmt} {cd : Value} {np apos pos : Pos} {mA : Str → Option Value} {y : Option Value} (T : TopH w s.heap) (I : s.heap.Inst x 52 mA) (hsh : mA name = none)
    (fn : FnM w.params f fnm fqn st cd) (hf : cl w.params name = some (.ref f)) (hB : typeLookup (.type "object") name = pure y)
    (ho : ∀ Q' : Value → Shared → Prop, Q' (.ref x) s → wpAny (model pw w) A (eval (.Name nm np) env) Q' E s)
    (ht : backTo pos (starEach [] env) = []) (hline : (apos.endLine == pos.line) = true)
    (hbase : attributeBase (.Name nm np) name env (eval (.Name nm np) env) = eval (.Name nm np) env)
    (hfew : methodCallForm (([] : List Expr).length + ([] : List Keyword).length) [] (backToKw pos (keywordEach [] env)) = true)
    (hg : wpAny (model pw w) A (call (.ref f) [.ref x]) Q E s) :
    wpAny (model pw w) A (eval (.Call (.Attribute (.Name nm np) name apos) [] [] pos) env) Q E s :=
  methN T I hsh fn hf hB ho ht hline hbase hfew (methC0 T fn hg)
theorem methN1 {env : Env} {x f : Addr} {nm name fnm fqn : Str} {st : Stmt} {cd : Value} {np apos pos : Pos} {e : Expr} {mA : Str → Option Value} {y : Option Value} (T : TopH w s.heap) (I : s.heap.Inst x 52 mA) (hsh : mA name = none)
    (fn : FnM w.params f fnm fqn st cd) (hf : cl w.params name = some (.ref f)) (hB : typeLookup (.type "object") name = pure y)
    (ho : ∀ Q' : Value → Shared → Prop, Q' (.ref x) s → wpAny (model pw w) A (eval (.Name nm np) env) Q' E s)
    (ht : backTo pos (starEach [e] env) = [(false, eval e env)]) (hline : (apos.endLine == pos.line) = true)
    (hbase : attributeBase (.Name nm np) name env (eval (.Name nm np) env) = eval (.Name nm np) env)
    (hfew : methodCallForm ([e].length + ([] : List Keyword).length) [(false, eval e env)] (backToKw pos (keywordEach [] env)) = true)
    (hg : wpAny (model pw w) A (eval e env) (fun v s₁ => TopH w s₁.heap ∧ wpAny (model pw w) A (call (.ref f) [.ref x, v]) Q E s₁) E s) :
    wpAny (model pw w) A (eval (.Call (.Attribute (.Name nm np) name apos) [e] [] pos) env) Q E s :=
  methN T I hsh fn hf hB ho ht hline hbase hfew (methC1 fn hg)

/-- a built-in by its name, one argument and one keyword -/
theorem bcallK {env : Env} {x kn : Str} {id : String} {p pos kp : Pos} {e kv : Expr} {Q : Value → Shared → Prop} (T : TopH w s.heap)
    (hn : gl w.params x = none) (hb : bl w.params x = some (.builtin id)) (ht : backTo pos (starEach [e] env) = [(false, eval e env)])
    (h : wpAny (model pw w) A (eval e env) (fun v s₁ => wpAny (model pw w) A (eval kv env) (fun u s₂ => wpAny (model pw w) A (call (.builtin id) [v] [(kn, u)]) Q E s₂) E s₁) E s)
    (hk : env.scope.kind = .function) (hx : env.kindOf x = some .globalImplicit) (hd : (x == ("__debug__" : Str)) = false) (hgl : env.globals = mainGlobals) (hbl : env.builtins = builtinsNs) :
    wpAny (model pw w) A (eval (.Call (.Name x p) [e] [⟨some kn, kv, kp⟩] pos) env) Q E s := by
  have hh : wpAny (model pw w) A (eval (.Name x p) env) (fun f s₁ => wpAny (model pw w) A (callWith pos f [] (backTo pos (starEach [e] env)) (backToKw pos (keywordEach [⟨some kn, kv, kp⟩] env))) Q E s₁) E s := by
    refine nameB T ?_ hn hb hk hx hd hgl hbl
    refine callWith_kw ?_ (by rw [ht]; rfl) (by rw [ht]; rfl) rfl rfl
    rw [ht]
    exact spliced_cons (wpAny_mono h (fun v s₁ h₁ => spliced_nil (kws_cons (wpAny_mono h₁ (fun u s₂ h₂ => kws_nil h₂) fun _ _ e => e))) fun _ _ e => e)
  exact wpAny_bind hh

theorem done_call {x P z : Addr} {mA : Str → Option Value} {y : Str} {t : Tok} {ks : List Nat} {zs : Array Value} {oz : Obj} {nz : Nat} (T : TopH w s.heap) (fr : Free w P) (hr : Room A (n + 4)) (hpos : 0 < s.toks) (I : Lex s.heap x P mA) (hP : s.heap.PlainList P #[])
    (ha : mA (Str.ofString "push_token") = none) (hb : mA (Str.ofString "get_token") = none)
    (hz : s.heap.get? z = some oz) (hzc : oz.cls = .type "list") (hzd : oz.data = .seq zs nz) (hzP : z ≠ P) (hzi : IntRow zs ks)
    (hk : ∀ k ∈ ks, k ≤ 100) (hsm : ∀ i, i ≤ ks.length → Small (runWords [y] (ks.take i))) (hsort : SortsK w (runWords [y] ks))
    (h : ∀ h' l tk ys ss, (∀ b o, b ≠ P → s.heap.get? b = some o → h'.get? b = some o) → h'.PlainList P #[] → s.heap.get? l = none → PlainL h' l ys → StrsAre ys.toList ss → ss.Perm (runWords [y] ks) → sortedS ss = true → s.toks ≤ tk →
      Q (.ref l) { s with heap := h', toks := tk }) :
    wpAny (model pw w) A (call (.ref 198) [.ref x, .str y t, .ref z]) Q E s := by
  refine wpAny_call (codeAny_with_toks (Nat.le_refl _) (enterC [Str.ofString "lexer", Str.ofString "text", Str.ofString "sizes"] T hr (fnDone _) (by intro _; kernel_rfl) (fun pm => by kernel_rfl) (by kernel_rfl) (by kernel_rfl) (fun h₁ tk htk F X T₁ hr₁ => ?_)))
  try dsimp only
  refine hideG fun GG hGG => ?_
  have hPlt : P < s.heap.objs.size := by obtain ⟨n, e⟩ := hP; exact Heap.lt_size e
  have F₀keep : ∀ b o, s.heap.get? b = some o → h₁.get? b = some o := F.keep
  obtain ⟨oc, F, hoc⟩ := F.cell (X.cell (Str.ofString "lexer") (s.heap.objs.size + 1) (by kernel_rfl)) (Nat.ne_of_gt (Nat.lt_succ_self _))
  have hoc : oc.data = .cell (some (.ref x)) := hoc
  subst hGG
  -- what stands all through: all of the caller's but the list of waiting tokens, and the cell
  have F : Fx (fun b o => (s.heap.get? b = some o ∧ b ≠ P) ∨ (b = s.heap.objs.size + 1 ∧ o = oc)) s.heap.objs.size h₁ _ := F.mono fun b o e => e.imp And.left id
  have below : ∀ {K' : Addr → Obj → Prop} {L : Addr} {h : Heap} {m : Str → Option Value}, Fx K' L h m → (∀ b o, (s.heap.get? b = some o ∧ b ≠ P) ∨ (b = s.heap.objs.size + 1 ∧ o = oc) → K' b o) → (∀ b o, b ≠ P → s.heap.get? b = some o → h.get? b = some o) :=
    fun F hK b o hb e => F.keep b o (hK b o (.inl ⟨e, hb⟩))
  have top : ∀ {h : Heap}, (∀ b o, b ≠ P → s.heap.get? b = some o → h.get? b = some o) → TopH w h ∧ Lex h x P mA := fun k => ⟨T.but fr k, ⟨Inst.but I.inst hP k, I.pb⟩⟩
  have hPL : P ≠ s.heap.objs.size := Nat.ne_of_lt hPlt
  have hPK : ∀ o, ¬ ((s.heap.get? P = some o ∧ P ≠ P) ∨ (P = s.heap.objs.size + 1 ∧ o = oc)) := fun o e => e.elim (fun e => e.2 rfl) fun e => Nat.ne_of_lt (Nat.lt_succ_of_lt hPlt) e.1
  have P₁ : h₁.PlainList P #[] := by obtain ⟨n, e⟩ := hP; exact ⟨n, F₀keep _ _ e⟩
  obtain ⟨T₁', I₁⟩ := top (fun b o _ e => F₀keep b o e)
  have hlook : (envOfC (Str.ofString "_law_done") (fScope (stA 22)) s.heap.objs.size 198 (Value.ref 197)).cells.lookup (Str.ofString "lexer") = some (s.heap.objs.size + 1) := by kernel_rfl
  refine wpAny_execs_cons (wpAny_with_toks (n := s.toks) htk (wpAny_Expr (methN1 T₁ I₁.inst ha (fnPush _) (cl_push _) ob_push (fun Q' hq => ldCell hlook (F.keep _ _ (.inr ⟨rfl, rfl⟩)) hoc hq) (by kernel_rfl) (by kernel_rfl) (by kernel_rfl) (by kernel_rfl) (ldE F rfl ⟨T₁, ?_⟩)) (by kernel_rfl)))
  have hr₂ : Room (A.deeper (envOfC (Str.ofString "_law_done") (fScope (stA 22)) s.heap.objs.size 198 (Value.ref 197))) (n + 2 + 1) := hr₁
  refine push_call T₁ hr₂ I₁ P₁ (by decide) fun h₂ tk₂ k₂ P₂ (htk₂ : s.toks ≤ tk₂) => ?_
  try dsimp only
  have F₂ := F.but (wr := [P]) (by simpa using hPL.symm) (by simpa using hPK) (fun b o hb e => k₂ b o (by simpa using hb) e)
  refine wpAny_execs_cons (wpAny_Assign_Name (wpAny_Constant_int (stx F₂ fun h₃ F₃ s₃ => ?_)))
  try dsimp only
  have P₃ : h₃.PlainList P #[.str y t] := P₂.at fun o e => (s₃.2 P hPL).trans e
  refine wpAny_execs_cons (wpAny_For (ldE F₃ rfl ?_) (by intro _; kernel_rfl))
  refine listLoop (K := fun b o => (s.heap.get? b = some o ∧ b ≠ P) ∨ (b = s.heap.objs.size + 1 ∧ o = oc)) hr₁.handled (.inl ⟨hz, hzP⟩) hzc ⟨nz, hzd⟩ (by kernel_rfl) (by kernel_rfl) F₃
    (fun i h m => ∃ (vals : List Value) (t' : Tok), h.PlainList P vals.toArray ∧ StrsAre vals (runWords [y] (ks.take i)) ∧ m (Str.ofString "waiting") = some (.int ((runWords [y] (ks.take i)).length : Nat) t'))
    ?_ ⟨[.str y t], _, P₃, .cons y t .nil, rfl⟩ ?_ ?_
  · rintro i h h' m J0J k
    refine hideG fun GG hGG => ?_
    obtain ⟨vals, t', a, b, c⟩ := J0J
    subst hGG
    exact ⟨vals, t', a.at fun o e => k P o hPL (by obtain ⟨n, e⟩ := P₃; dsimp only; rw [e]; simp) e, b, c⟩
  · intro i v tk₄ m h₄ K₄ hK₄ hK₄' hv htk₄ JJ F₄
    refine hideQ fun Q' hQ' => ?_
    refine hideG fun GG hGG => ?_
    obtain ⟨vals, t₄, P₄, S₄, w₄⟩ := JJ
    subst hGG
    try dsimp only
    refine hideG fun GG hGG => ?_
    obtain ⟨k, tz, hki, rfl⟩ := hzi.2 i v hv
    have hk100 : k ≤ 100 := hk k (List.mem_of_getElem? hki)
    have hilt : i < ks.length := by rcases Nat.lt_or_ge i ks.length with h' | h'; exact h'; simp [List.getElem?_eq_none h'] at hki
    have hw₀ := hsm i (Nat.le_of_lt hilt)
    have hw₁ := hsm (i + 1) hilt
    rw [runWords_succ hki] at hw₁
    have hP₄ne : ∀ o, ¬ K₄ P o := fun o e => (hK₄' P o e).elim (hPK o) (by obtain ⟨n, e⟩ := P₃; dsimp only; rw [e]; simp)
    subst hGG
    generalize hws : runWords [y] (ks.take i) = ws at *
    refine wpAny_execs_cons (wpAny_Assign_Name (wpAny_Constant_int (stx F₄ fun h₅ F₅ s₅ => ?_)))
    try dsimp only
    have P₅ : h₅.PlainList P vals.toArray := P₄.at fun o e => (s₅.2 P hPL).trans e
    have k₅ := below F₅ hK₄
    obtain ⟨T₅, I₅⟩ := top k₅
    refine wpAny_execs_cons (forRange1 (n := ws.length) T₅ hr₁.handled (by have := hw₀.1; lia) (by kernel_rfl) (by kernel_rfl) (by kernel_rfl) (by kernel_rfl) rfl rfl (by kernel_rfl) (by intro _; kernel_rfl) F₅ (fun Q' E' hq => ldE F₅ w₄ (hq _ _))
      (fun j h m => ∃ (vals : List Value) (t' : Tok), h.PlainList P vals.toArray ∧ StrsAre vals (ws.drop j ++ (ws.take j).flatMap (grown · k)) ∧ m (Str.ofString "late") = some (.int (((ws.take j).flatMap (grown · k)).length : Nat) t') ∧ ∃ tz, m (Str.ofString "size") = some (.int (k : Nat) tz))
      ?_ ⟨vals, _, P₅, by simpa using S₄, rfl, _, rfl⟩ ?_ ?_)
    · rintro j h h' m J0J kk
      refine hideG fun GG hGG => ?_
      obtain ⟨vals, t', a, b, c⟩ := J0J
      subst hGG
      exact ⟨vals, t', a.at fun o e => kk P o hPL (by obtain ⟨n, e⟩ := P₅; dsimp only; rw [e]; simp) e, b, c⟩
    · intro j t₆ tk₆ m₆ h₆ K₆ hK₆ hK₆' hj htk₆ JJ F₆
      refine hideQ fun Q' hQ' => ?_
      refine hideG fun GG hGG => ?_
      obtain ⟨vals₆, t₆', P₆, S₆, l₆, tz₆, z₆⟩ := JJ
      have hP₆ne : ∀ o, ¬ K₆ P o := fun o e => (hK₆' P o e).elim (hP₄ne o) (by obtain ⟨n, e⟩ := P₅; dsimp only; rw [e]; simp)
      have hK : ∀ b o, (s.heap.get? b = some o ∧ b ≠ P) ∨ (b = s.heap.objs.size + 1 ∧ o = oc) → K₆ b o := fun b o e => hK₆ b o (hK₄ b o e)
      obtain ⟨T₆, I₆⟩ := top (below F₆ hK)
      obtain ⟨x₀, hx₀⟩ : ∃ x₀, ws[j]? = some x₀ := ⟨ws[j], by simp [hj]⟩
      have hx100 : x₀.length ≤ 100 := hw₀.2 x₀ (List.mem_of_getElem? hx₀)
      have ed : ws.drop j = x₀ :: ws.drop (j + 1) := by
        have hx : ws[j] = x₀ := by simpa [List.getElem?_eq_getElem hj] using hx₀
        rw [← hx]; exact (List.getElem_cons_drop ..).symm
      have hfl : ((ws.take j).flatMap (grown · k)).length + (grown x₀ k).length ≤ 1000 := by
        have e := hw₁.1
        unfold stepWords at e
        rw [flatMap_split (grown · k) hx₀, List.length_append, List.length_append] at e
        lia
      have hdl : (ws.drop (j + 1)).length ≤ 1000 := by have := hw₀.1; rw [List.length_drop]; lia
      rw [ed, List.cons_append] at S₆
      obtain ⟨v₀, vals₇, rfl, u₀, rfl, S₇⟩ : ∃ v₀ vals₇, vals₆ = v₀ :: vals₇ ∧ ∃ u₀, v₀ = .str x₀ u₀ ∧ StrsAre vals₇ (ws.drop (j + 1) ++ (ws.take j).flatMap (grown · k)) := by
        cases S₆ with
        | cons _ u S => exact ⟨_, _, rfl, u, rfl, S⟩
      have hl₇ := S₇.len_eq
      rw [List.length_append] at hl₇
      subst hGG
      refine wpAny_execs_cons (wpAny_For (gcall2 T₆ (fnGrown _) (by kernel_rfl) (by kernel_rfl) ?_ (by kernel_rfl) (by kernel_rfl) (by kernel_rfl) rfl) (by intro _; kernel_rfl))
      refine wpAny_with_toks (n := 1) (Nat.lt_of_lt_of_le hpos (show s.toks ≤ tk₆ from by dsimp only at htk₄ htk₆; lia)) (methN0 T₆ I₆.inst hb (fnGet _) (cl_get _) ob_get (fun Q' hq => ldCell hlook (F₆.keep _ _ (hK _ _ (.inr ⟨rfl, rfl⟩))) hoc hq) (by kernel_rfl) (by kernel_rfl) (by kernel_rfl) (by kernel_rfl)
        (get_call T₆ hr₂ I₆ P₆ (by rw [sizeLine_eq]; lia) fun h₇ tk₇ k₇ P₇ htk₇ => ?_))
      try dsimp only
      have F₇ : Fx K₆ s.heap.objs.size h₇ _ := F₆.but (wr := [P]) (show s.heap.objs.size ∉ [P] by simpa using hPL.symm) (by simpa using hP₆ne) (fun b o hb e => k₇ b o (by simpa using hb) e)
      obtain ⟨T₇, I₇⟩ := top (below F₇ hK)
      refine ldE F₇ z₆ ⟨T₇, grown_call (n := n) T₇ ⟨hr₂.handled, by have := hr₂.depth; lia, by have := hr₂.units; lia⟩ htk₇ hx100 hk100 fun h₈ l tk₈ ys k₈ ln₈ L₈ S₈ htk₈ => ?_⟩
      try dsimp only
      refine hideG fun GG hGG => ?_
      obtain ⟨ol, nl, el, cl₈, dl, dtl⟩ := L₈
      have F₈ : Fx (fun b o => K₆ b o ∨ (b = l ∧ o = ol)) s.heap.objs.size h₈ (fun y => if y = Str.ofString "spare" then some (Value.int (j : Nat) t₆) else m₆ y) :=
        ⟨(F₇.keeps k₈).ns, fun b o e => e.elim ((F₇.keeps k₈).keep b o) (fun e => by rw [e.1, e.2]; exact el), fun o e => e.elim (F₆.off o) (fun e => by
          obtain ⟨oL, _, _, eL, _⟩ := F₇.ns
          exact ne_of_none eL ln₈ e.1)⟩
      have hPl : P ≠ l := by obtain ⟨nP, eP⟩ := P₇; exact ne_of_none eP ln₈
      have P₈ : h₈.PlainList P vals₇.toArray := P₇.at fun o e => k₈ _ o e
      have hP₈ne : ∀ o, ¬ (K₆ P o ∨ (P = l ∧ o = ol)) := fun o e => e.elim (hP₆ne o) fun e => hPl e.1
      have hP₈in : h₈.get? P ≠ none := by obtain ⟨nP, eP⟩ := P₈; rw [eP]; simp
      have hlen₈ := S₈.len_eq
      subst hGG
      refine listLoop (K := fun b o => K₆ b o ∨ (b = l ∧ o = ol)) hr₁.handled (.inr ⟨rfl, rfl⟩) cl₈ ⟨nl, dtl⟩ (by kernel_rfl) (by kernel_rfl) F₈
        (fun q h m => ∃ (vals : List Value) (t' : Tok), h.PlainList P vals.toArray ∧ StrsAre vals (ws.drop (j + 1) ++ ((ws.take j).flatMap (grown · k) ++ (grown x₀ k).take q)) ∧ m (Str.ofString "late") = some (.int ((((ws.take j).flatMap (grown · k)).length : Nat) + (q : Nat) : Int) t') ∧ ∃ tz, m (Str.ofString "size") = some (.int (k : Nat) tz))
        ?_ ⟨vals₇, t₆', P₈, by simpa using S₇, by show m₆ (Str.ofString "late") = _; simpa using l₆, _, z₆⟩ ?_ ?_
      · rintro q h h' m J0J kk
        refine hideG fun GG hGG => ?_
        obtain ⟨vals, t', a, b, c⟩ := J0J
        subst hGG
        exact ⟨vals, t', a.at fun o e => kk P o hPL hP₈in e, b, c⟩
      · intro q v tk₉ m₉ h₉ K₉ hK₉ hK₉' hv htk₉ JJ F₉
        refine hideQ fun Q' hQ' => ?_
        refine hideG fun GG hGG => ?_
        obtain ⟨vals₉, t₉', P₉, S₉, l₉, tz₉, z₉⟩ := JJ
        subst hGG
        try dsimp only
        refine hideG fun GG hGG => ?_
        obtain ⟨y₉, u₉, rfl, hy₉⟩ := StrsAre.item S₈ q v (by simpa using hv)
        have hP₉ne : ∀ o, ¬ K₉ P o := fun o e => (hK₉' P o e).elim (hP₈ne o) hP₈in
        have hK' : ∀ b o, (s.heap.get? b = some o ∧ b ≠ P) ∨ (b = s.heap.objs.size + 1 ∧ o = oc) → K₉ b o := fun b o e => hK₉ b o (.inl (hK b o e))
        obtain ⟨T₉, I₉⟩ := top (below F₉ hK')
        have hl₉ := S₉.len_eq
        rw [List.length_append, List.length_append, List.length_take] at hl₉
        subst hGG
        refine wpAny_execs_cons (wpAny_Expr (methN1 T₉ I₉.inst ha (fnPush _) (cl_push _) ob_push (fun Q' hq => ldCell hlook (F₉.keep _ _ (hK' _ _ (.inr ⟨rfl, rfl⟩))) hoc hq) (by kernel_rfl) (by kernel_rfl) (by kernel_rfl) (by kernel_rfl) (ldE F₉ rfl ⟨T₉, ?_⟩)) (by kernel_rfl))
        refine push_call T₉ hr₂ I₉ P₉ (by rw [sizeLine_eq]; simp; lia) fun h₁₀ tk₁₀ k₁₀ P₁₀ => ?_
        try dsimp only
        have F₁₀ : Fx K₉ s.heap.objs.size h₁₀ _ := F₉.but (wr := [P]) (show s.heap.objs.size ∉ [P] by simpa using hPL.symm) (by simpa using hP₉ne) (fun b o hb e => k₁₀ b o (by simpa using hb) e)
        refine wpAny_execs_cons (wpAny_AugAssign_Name (ldnE F₁₀ l₉ (wpAny_Constant_int (wpAny_iadd_int (stx F₁₀ fun h₁₁ F₁₁ s₁₁ => ?_)))))
        try dsimp only
        have P₁₁ : h₁₁.PlainList P (vals₉ ++ [Value.str y₉ u₉]).toArray := by
          have e : (vals₉ ++ [Value.str y₉ u₉]).toArray = vals₉.toArray.push (.str y₉ u₉) := by simp
          rw [e]; exact P₁₀.at fun o e => (s₁₁.2 P hPL).trans e
        subst hQ'
        refine wpAny_execs_nil ⟨_, _, _, rfl, F₁₁, vals₉ ++ [.str y₉ u₉], tk₁₀ + 1, P₁₁, ?_, ?_, tz₉, z₉⟩
        · rw [take_one hy₉, ← List.append_assoc, ← List.append_assoc]
          rw [← List.append_assoc] at S₉
          exact StrsAre.snoc S₉
        · have e : (((((ws.take j).flatMap (grown · k)).length : Nat) : Int) + ((q + 1 : Nat) : Int)) = ((((ws.take j).flatMap (grown · k)).length : Nat) : Int) + (q : Nat) + 1 := by lia
          rw [e]; rfl
      · rintro h₉ tk₉ m₉ htk₉ F₉ J0J
        refine hideG fun GG hGG => ?_
        obtain ⟨vals₉, t₉', P₉, S₉, l₉, tz₉, z₉⟩ := J0J
        subst hGG
        try dsimp only
        have hys : ys.size = (grown x₀ k).length := by rw [← hlen₈]; simp
        rw [hys] at S₉ l₉
        rw [List.take_of_length_le (Nat.le_refl _), ← take_flat (grown · k) hx₀] at S₉
        subst hQ'
        refine wpAny_execs_nil ⟨_, _, _, rfl, F₉.mono fun b o e => .inl e, vals₉, t₉', P₉, S₉, ?_, tz₉, z₉⟩
        rw [take_flat (grown · k) hx₀, List.length_append]
        exact_mod_cast l₉
    · rintro h₆ tk₆ m₆ htk₆ F₆ J0J
      refine hideG fun GG hGG => ?_
      obtain ⟨vals₆, t₆', P₆, S₆, l₆, tz₆, z₆⟩ := J0J
      subst hGG
      try dsimp only
      refine wpAny_execs_cons (wpAny_Assign_Name (ldE F₆ l₆ (stx F₆ fun h₇ F₇ s₇ => ?_)))
      try dsimp only
      subst hQ'
      refine wpAny_execs_nil ⟨_, _, _, rfl, F₇, vals₆, t₆', P₆.at fun o e => (s₇.2 P hPL).trans e, ?_, ?_⟩
      · rw [runWords_succ hki, hws]; simpa [stepWords] using S₆
      · rw [runWords_succ hki, hws]; simp [stepWords]
  · rintro h₄ tk₄ m htk₄ F₄ J0J
    refine hideG fun GG hGG => ?_
    obtain ⟨vals, t₄, P₄, S₄, w₄⟩ := J0J
    subst hGG
    try dsimp only
    have htk : ks.take zs.size = ks := List.take_of_length_le (by rw [hzi.1]; exact Nat.le_refl _)
    rw [htk] at S₄ w₄
    have hlast := hsm ks.length (Nat.le_refl _)
    rw [List.take_of_length_le (Nat.le_refl _)] at hlast
    generalize hws : runWords [y] ks = ws at *
    have hPne : ∀ o, ¬ ((s.heap.get? P = some o ∧ P ≠ P) ∨ (P = s.heap.objs.size + 1 ∧ o = oc)) := hPK
    obtain ⟨T₄, I₄⟩ := top (below F₄ fun b o e => e)
    refine wpAny_execs_cons (wpAny_Return_some (bcallK (id := "sorted") T₄ (by kernel_rfl) (by kernel_rfl) (by kernel_rfl) ?_ (by kernel_rfl) (by kernel_rfl) (by kernel_rfl) rfl rfl))
    refine compB (cl := [(Str.ofString "lexer", s.heap.objs.size + 1)]) (by kernel_rfl) (by kernel_rfl) (by kernel_rfl) (by kernel_rfl) (by kernel_rfl) (by intro _; kernel_rfl) ?_
    refine tcall1 T₄ (range_gl _) (range_bl _) (by kernel_rfl) (ldE F₄ w₄ (call_range_1 ?_)) (by kernel_rfl) (by kernel_rfl) (by kernel_rfl) rfl rfl
    have hPin : h₄.get? P ≠ none := by obtain ⟨nP, eP⟩ := P₄; rw [eP]; simp
    refine rangeComp (fun b o => (s.heap.get? b = some o ∧ b ≠ P) ∨ (b = s.heap.objs.size + 1 ∧ o = oc)) (fun i h ys => ∃ vals : List Value, h.PlainList P vals.toArray ∧ StrsAre vals (ws.drop i) ∧ StrsAre ys (ws.take i))
      hr₁.handled (IsRange.new ..) (by rw [sizeLine_eq]; have := hlast.1; lia) (fun b o e => Heap.get?_push_of_some _ (F₄.keep b o e)) ?_ ⟨vals, ?_, by simpa using S₄, .nil⟩ ?_ ?_
    · rintro i h h' ys J0J k
      refine hideG fun GG hGG => ?_
      obtain ⟨vals, a, b, c⟩ := J0J
      subst hGG
      exact ⟨vals, a.at fun o e => k P o (notNone_push _ hPin) e, b, c⟩
    · exact P₄.at fun o e => Heap.get?_push_of_some _ e
    · rintro i t₆ tk₆ m₆ h₆ C ys K₆ hK₆ hK₆' hC hi htk₆ J0J hlen F₆ hm₆
      refine hideG fun GG hGG => ?_
      obtain ⟨vals₆, P₆, S₆, Y₆⟩ := J0J
      subst hGG
      try dsimp only
      refine hideG fun GG hGG => ?_
      have hPC : P ≠ C := by rintro rfl; exact notNone_push _ hPin hC
      have hP₆ne : ∀ o, ¬ K₆ P o := fun o e => (hK₆' P o e).elim (hPK o) (notNone_push _ hPin)
      obtain ⟨T₆, I₆⟩ := top (below F₆ hK₆)
      have hx : ws[i]? = some ws[i] := by simp [hi]
      have ed : ws.drop i = ws[i] :: ws.drop (i + 1) := (List.getElem_cons_drop ..).symm
      rw [ed] at S₆
      obtain ⟨v₀, vals₇, rfl, u₀, rfl, S₇⟩ : ∃ v₀ vals₇, vals₆ = v₀ :: vals₇ ∧ ∃ u₀, v₀ = Value.str ws[i] u₀ ∧ StrsAre vals₇ (ws.drop (i + 1)) := by
        cases S₆ with
        | cons _ u S => exact ⟨_, _, rfl, u, rfl, S⟩
      have hl₇ := S₇.len_eq
      have hl1 := hlast.1
      rw [List.length_drop] at hl₇
      subst hGG
      refine wpAny_tests_nil ?_
      rw [if_pos rfl]
      refine methN0 T₆ I₆.inst hb (fnGet _) (cl_get _) ob_get (fun Q' hq => ldCell (c := s.heap.objs.size + 1) (by kernel_rfl) (F₆.keep _ _ (hK₆ _ _ (.inr ⟨rfl, rfl⟩))) hoc hq (by kernel_rfl) (by kernel_rfl)) (by kernel_rfl) (by kernel_rfl) (by kernel_rfl) (by kernel_rfl)
        (get_call T₆ hr₂ I₆ P₆ (by rw [sizeLine_eq]; lia) fun h₇ tk₇ k₇ P₇ => ?_)
      try dsimp only
      have F₇ : Fx K₆ C h₇ m₆ := F₆.but (wr := [P]) (by simpa using hPC.symm) (by simpa using hP₆ne) (fun b o hb e => k₇ b o (by simpa using hb) e)
      refine ⟨_, _, _, rfl, F₇, vals₇, P₇, S₇, ?_⟩
      rw [take_one hx]
      exact StrsAre.snoc Y₆
    · rintro h₆ tk₆ D ys htk₆ k₆ hD PD J0J
      refine hideG fun GG hGG => ?_
      obtain ⟨vals₆, P₆, S₆, Y₆⟩ := J0J
      rw [List.take_of_length_le (Nat.le_refl _)] at Y₆
      rw [List.drop_eq_nil_of_le (Nat.le_refl _)] at S₆
      subst hGG
      cases S₆
      have kk : ∀ b o, b ≠ P → s.heap.get? b = some o → h₆.get? b = some o := fun b o hb e => k₆ b o (.inl ⟨e, hb⟩)
      obtain ⟨T₆, I₆⟩ := top kk
      refine nameG (v := .ref 63) T₆ ?_ (by kernel_rfl) (by kernel_rfl) (by kernel_rfl) (by kernel_rfl) rfl
      refine hsort _ _ _ _ D ys n T₆ ⟨hr₁.handled, by have := hr₁.depth; lia, by have := hr₁.units; lia⟩ PD Y₆ ?_
      intro h₇ l' tk₇ zs₇ ss k₇ hl' P₇ S₇ hperm hsorted htk₇
      refine h h₇ l' tk₇ zs₇ ss (fun b o hb e => k₇ b o (kk b o hb e)) (P₆.at fun o e => k₇ _ o e) ?_ P₇ S₇ hperm hsorted htk₇
      cases e : s.heap.get? l' with
      | none => rfl
      | some o =>
        by_cases hlp : l' = P
        · obtain ⟨nP, eP⟩ := P₆
          rw [← hlp, hl'] at eP; cases eP
        · have := kk _ _ hlp e; rw [hl'] at this; cases this
end
end Mine
namespace Mine
open PySem PySem.W PySem.Challenge PySem.Calls PyProof.Rows

/-- pairs of ints -/
inductive IPs : List (Int × Value) → List (Int × Int) → Prop
  | nil : IPs [] []
  | cons {vs : List (Int × Value)} {ks : List (Int × Int)} (k n : Int) (t : Tok) : IPs vs ks → IPs ((k, .int n t) :: vs) ((k, n) :: ks)
noncomputable def getI (kvs : List (Int × Int)) (k : Int) : Option Int := (kvs.find? fun kv => decide (kv.1 = k)).map (·.2)
noncomputable def putI (kvs : List (Int × Int)) (k n : Int) : List (Int × Int) :=
  if kvs.any (fun kv => decide (kv.1 = k)) then kvs.map (fun kv => if kv.1 = k then (kv.1, n) else kv) else kvs ++ [(k, n)]
theorem IPs.length {vs : List (Int × Value)} {ks : List (Int × Int)} (h : IPs vs ks) : vs.length = ks.length := by
  induction h with
  | nil => rfl
  | cons _ _ _ _ ih => simp [ih]
theorem IPs.get {vs : List (Int × Value)} {ks : List (Int × Int)} (h : IPs vs ks) (k : Int) :
    (valueAt vs k = none ∧ getI ks k = none) ∨ ∃ n t, valueAt vs k = some (.int n t) ∧ getI ks k = some n := by
  induction h with
  | nil => exact .inl ⟨rfl, rfl⟩
  | @cons vs ks k' n t _ ih =>
    by_cases e : k' = k
    · exact .inr ⟨n, t, by simp [valueAt, e], by simp [getI, e]⟩
    · have e1 : valueAt ((k', Value.int n t) :: vs) k = valueAt vs k := by simp [valueAt, e]
      have e2 : getI ((k', n) :: ks) k = getI ks k := by simp [getI, e]
      rw [e1, e2]; exact ih
theorem IPs.at {vs : List (Int × Value)} {ks : List (Int × Int)} (h : IPs vs ks) : ∀ (i : Nat) (k : Int) (x : Value), vs[i]? = some (k, x) → ∃ n t, x = .int n t ∧ ks[i]? = some (k, n) := by
  induction h with
  | nil => intro i k x e; simp at e
  | cons k' n t _ ih =>
    intro i k x e
    cases i with
    | zero => simp at e; obtain ⟨rfl, rfl⟩ := e; exact ⟨n, t, rfl, rfl⟩
    | succ i => simpa using ih i k x (by simpa using e)
theorem IPs.any {vs : List (Int × Value)} {ks : List (Int × Int)} (h : IPs vs ks) (k : Int) : (vs.any fun kv => decide (kv.1 = k)) = ks.any fun kv => decide (kv.1 = k) := by
  induction h with
  | nil => rfl
  | cons _ _ _ _ ih => simp only [List.any_cons, ih]
theorem IPs.map {vs : List (Int × Value)} {ks : List (Int × Int)} (h : IPs vs ks) (k n : Int) (t : Tok) :
    IPs (vs.map fun kv => if kv.1 = k then (kv.1, .int n t) else kv) (ks.map fun kv => if kv.1 = k then (kv.1, n) else kv) := by
  induction h with
  | nil => exact .nil
  | cons k' n' t' _ ih =>
    simp only [List.map_cons]
    by_cases e : k' = k
    · simp only [e, if_true]; exact .cons _ _ _ ih
    · simp only [e, if_false]; exact .cons _ _ _ ih
theorem IPs.snoc {vs : List (Int × Value)} {ks : List (Int × Int)} (h : IPs vs ks) (k n : Int) (t : Tok) : IPs (vs ++ [(k, .int n t)]) (ks ++ [(k, n)]) := by
  induction h with
  | nil => exact .cons _ _ _ .nil
  | cons k' n' t' _ ih => exact .cons _ _ _ ih
theorem IPs.stored {vs : List (Int × Value)} {ks : List (Int × Int)} (h : IPs vs ks) (k n : Int) (t : Tok) : IPs (stored vs k (.int n t)) (putI ks k n) := by
  unfold PySem.stored putI
  rw [h.any k]
  split
  · exact h.map k n t
  · exact h.snoc k n t

/-- a dict of ints by ints -/
noncomputable def IntD (w : World) (h : Heap) (d : Addr) (ks : List (Int × Int)) : Prop := ∃ vs, h.DictOf (intKind pw w) d vs ∧ IPs vs ks
theorem IntD.at {w : World} {h h' : Heap} {d : Addr} {ks : List (Int × Int)} (x : IntD w h d ks) (k : ∀ o, h.get? d = some o → h'.get? d = some o) : IntD w h' d ks :=
  let ⟨vs, ⟨o, es, ep, ho, r⟩, p⟩ := x; ⟨vs, ⟨o, es, ep, k o ho, r⟩, p⟩
theorem IntD.isIn {w : World} {h : Heap} {d : Addr} {ks : List (Int × Int)} (x : IntD w h d ks) : h.get? d ≠ none := by
  obtain ⟨vs, ⟨o, es, ep, ho, r⟩, p⟩ := x; rw [ho]; simp
theorem TopH.notMods {w : World} {h : Heap} {d : Addr} (T : TopH w h) (e : h.get? d = none) : (d == sysModules) = false := by
  cases g : d == sysModules with
  | false => rfl
  | true => 
    have q : d = sysModules := eq_of_beq g
    have h0 : ((TD w.params).get sysModules).isSome = true := by kernel_rfl
    obtain ⟨o, ho⟩ := Option.isSome_iff_exists.mp h0
    have := T.at_ sysModules o ho (by decide)
    rw [← q, e] at this; cases this

section
variable {w : World} {A : Around} {s : Shared}

/-- a loop over a new iterator -/
theorem loopY {env : Env} {R : Result → Shared → Prop} {x : Str} {px : Pos} {body : List Stmt} {I : Addr} {fp : List Addr} {n : Nat} {P : Nat → Nat → Value → Prop} {St : Nat → Heap → Prop} {K : Addr → Obj → Prop}
    (W : WalksX w A I fp [I] n P St) (hx : env.kindOf x = some .local) (hp : (env.scope.kind == .class || (env.scope.kind == .module && env.locals != env.globals)) = false) (hL : env.locals ∉ fp) (hst : St 0 s.heap)
    (hI : ∀ i h, St i h → h.get? I ≠ none) (hf : ∀ b ∈ fp, b = I ∨ ∃ o, K b o)
    (hw : ∀ o, ¬ K I o)
    (J : Nat → Heap → (Str → Option Value) → Prop) (stable : ∀ i h h' m, J i h m → (∀ b o, b ≠ env.locals → b ≠ I → h.get? b = some o → h'.get? b = some o) → J i h' m)
    {m₀ : Str → Option Value} (F₀ : Fx K env.locals s.heap m₀) (h0 : J 0 s.heap m₀)
    (step : ∀ i v tk m h₁ (K' : Addr → Obj → Prop), (∀ b o, K b o → K' b o) → (∀ b o, K' b o → K b o ∨ b = I) → (∃ o, K' I o) → i < n → s.toks ≤ tk → (∃ tk₀, s.toks ≤ tk₀ ∧ P tk₀ i v) → J i h₁ m →
      Fx K' env.locals h₁ (fun y => if y = x then some v else m y) →
      wpAny (model pw w) A (execs body env) (fun f s₂ => match f with
        | .next | .cont => ∃ h₂ tk₂ m₂, s₂ = { s with heap := h₂, toks := tk₂ } ∧ Fx K' env.locals h₂ m₂ ∧ J (i + 1) h₂ m₂
        | .brk => R (.ok .next) s₂
        | .ret v => R (.ok (.ret v)) s₂) (fun _ _ => False) { s with heap := h₁, toks := tk })
    (fin : ∀ h tk m, s.toks ≤ tk → Fx K env.locals h m → J n h m → R (.ok .next) { s with heap := h, toks := tk }) :
    codeAny (model pw w) A (.forLoop (.Name x px) (.ref I) body [] env) R s := by
  refine loopX W hx hp hL hst (by intro b hb; simp at hb; subst hb; exact hw) J (fun i h h' m hJ k => stable i h h' m hJ fun b o h1 h2 e => k b o h1 (by simpa using h2) e) F₀ h0 ?_ fin
  rintro i v tk m h₁ tk₀ K' hK hK' hi htk₀ htk₁ hP hJ hst₁ F₁
  have hI₁ := hI _ _ hst₁
  obtain ⟨oI, eI⟩ : ∃ o, h₁.get? I = some o := by
    cases g : h₁.get? I with
    | none => exact absurd g hI₁
    | some o => exact ⟨o, rfl⟩
  have hLI : env.locals ≠ I := fun e => hL (W.sub _ (by simp [e]))
  have F₂ : Fx (fun b o => (K b o ∨ b = I) ∧ h₁.get? b = some o) env.locals h₁ (fun y => if y = x then some v else m y) :=
    ⟨F₁.ns, fun b o e => e.2, fun o e => e.1.elim (fun e' => F₁.off o (hK _ _ e')) hLI⟩
  refine wpAny_mono (step i v tk m h₁ (fun b o => (K b o ∨ b = I) ∧ h₁.get? b = some o) (fun b o e => ⟨.inl e, F₁.keep _ _ (hK _ _ e)⟩) (fun b o e => e.1) ⟨oI, .inr rfl, eI⟩ hi (Nat.le_trans htk₀ htk₁) ⟨tk₀, htk₀, hP⟩ hJ F₂) (fun f s₂ hq => ?_) fun _ _ e => e
  have key : (∃ h₂ tk₂ m₂, s₂ = { s with heap := h₂, toks := tk₂ } ∧ Fx (fun b o => (K b o ∨ b = I) ∧ h₁.get? b = some o) env.locals h₂ m₂ ∧ J (i + 1) h₂ m₂) → ∃ h₂ tk₂ m₂, s₂ = { s with heap := h₂, toks := tk₂ } ∧ Fx K' env.locals h₂ m₂ ∧ J (i + 1) h₂ m₂ := by
    rintro ⟨h₂, tk₂, m₂, rfl, F₃, hJ₃⟩
    refine ⟨h₂, tk₂, m₂, rfl, ⟨F₃.ns, fun b o e => F₃.keep b o ⟨?_, F₁.keep b o e⟩, F₁.off⟩, hJ₃⟩
    rcases hK' b o e with e' | e'
    · exact .inl e'
    · rcases hf b e' with rfl | ⟨o', ho'⟩
      · exact .inr rfl
      · have a := F₁.keep b o e
        have c := F₁.keep b o' (hK _ _ ho')
        rw [a] at c; cases c; exact .inl ho'
  cases f with
  | next => exact key hq
  | cont => exact key hq
  | brk => exact hq
  | ret v => exact hq

/-- a for over a list that stays; what the turns make may stand in J -/
theorem listLoop2 {env : Env} {x : Str} {px : Pos} {body : List Stmt} {l : Addr} {items : Array Value} {K : Addr → Obj → Prop} {m₀ : Str → Option Value} {Q : Flow → Shared → Prop} {E : Value → Shared → Prop}
    (hh : A.handled = none) {o : Obj} (hK : K l o) (hc : o.cls = .type "list") (hd : ∃ n, o.data = .seq items n)
    (hx : env.kindOf x = some .local) (hp : (env.scope.kind == .class || (env.scope.kind == .module && env.locals != env.globals)) = false)
    (F : Fx K env.locals s.heap m₀)
    (J : Nat → Heap → (Str → Option Value) → Prop) (stable : ∀ i h h' m, J i h m → (∀ b o, b ≠ env.locals → b ≠ s.heap.objs.size → h.get? b = some o → h'.get? b = some o) → J i h' m)
    (h0 : J 0 s.heap m₀)
    (step : ∀ i v tk m h₁ (K' : Addr → Obj → Prop), (∀ b o, K b o → K' b o) → (∀ b o, K' b o → K b o ∨ b = s.heap.objs.size) → (∃ o, K' s.heap.objs.size o) → items[i]? = some v → s.toks ≤ tk → J i h₁ m →
      Fx K' env.locals h₁ (fun y => if y = x then some v else m y) →
      wpAny (model pw w) A (execs body env) (Turn s K' env.locals (J (i + 1)) Q) (fun _ _ => False) { s with heap := h₁, toks := tk })
    (fin : ∀ h tk m, s.toks ≤ tk → Fx K env.locals h m → J items.size h m → Q .next { s with heap := h, toks := tk }) :
    wpAny (model pw w) A (pyIter (.ref l)) (fun it s₂ => codeAny (model pw w) A (.forLoop (.Name x px) it body [] env) (fun r s' => match r with | .ok f => Q f s' | .error e => cameBackBy (model pw w) A env E e s') s₂) E s := by
  have hl : s.heap.IsList l items := ⟨o, F.keep _ _ hK, hc, hd⟩
  refine wpAny_pyIter_list hl ?_
  have hlI : l ≠ s.heap.objs.size := Nat.ne_of_lt (Heap.lt_size (F.keep _ _ hK))
  have hLl : env.locals ≠ l := fun e => F.off o (e ▸ hK)
  refine loopY (walksToX (Walks.list (prog := pw) (w := w) hh s.heap.objs.size l hlI items)) hx hp ?_ ?_ ?_ ?_ F.notThere J stable (F.push _) ?_ ?_ fin
  · simp only [List.mem_cons, List.not_mem_nil, or_false, not_or]
    exact ⟨Nat.ne_of_lt F.ltL, hLl⟩
  · exact ⟨⟨_, Heap.get?_push_size _ rfl, rfl, rfl⟩, ⟨o, Heap.get?_push_of_some _ (F.keep _ _ hK), hc, hd⟩⟩
  · rintro i h ⟨⟨o', e, _⟩, _⟩; rw [e]; simp
  · intro b hb
    rcases List.mem_cons.mp hb with e | e
    · exact .inl e
    · exact .inr ⟨o, (List.mem_singleton.mp e) ▸ hK⟩
  · exact stable 0 _ _ m₀ h0 fun b o _ _ e => Heap.get?_push_of_some _ e
  · rintro i v tk m h₁ K' hK₁ hK' hKI hi htk ⟨tk₀, _, hv⟩ hJ F₁
    exact wpAny_mono (step i v tk m h₁ K' hK₁ hK' hKI hv htk hJ F₁) (fun f s₂ hf => by cases f <;> exact hf) fun _ _ e => e

/-- a for over a dict's keys -/
theorem dictLoop {env : Env} {x : Str} {px : Pos} {body : List Stmt} {d : Addr} {vs : List (Int × Value)} {K : Addr → Obj → Prop} {m₀ : Str → Option Value} {Q : Flow → Shared → Prop} {E : Value → Shared → Prop}
    (hh : A.handled = none) {o : Obj} (hK : K d o) (hd : s.heap.DictOf (intKind pw w) d vs) (hds : (d == sysModules) = false)
    (hx : env.kindOf x = some .local) (hp : (env.scope.kind == .class || (env.scope.kind == .module && env.locals != env.globals)) = false)
    (F : Fx K env.locals s.heap m₀)
    (J : Nat → Heap → (Str → Option Value) → Prop) (stable : ∀ i h h' m, J i h m → (∀ b o, b ≠ env.locals → b ≠ s.heap.objs.size → h.get? b = some o → h'.get? b = some o) → J i h' m)
    (h0 : J 0 s.heap m₀)
    (step : ∀ i k y t tk m h₁ (K' : Addr → Obj → Prop), (∀ b o, K b o → K' b o) → (∀ b o, K' b o → K b o ∨ b = s.heap.objs.size) → (∃ o, K' s.heap.objs.size o) → vs[i]? = some (k, y) → s.toks ≤ tk → J i h₁ m →
      Fx K' env.locals h₁ (fun y => if y = x then some (.int k t) else m y) →
      wpAny (model pw w) A (execs body env) (Turn s K' env.locals (J (i + 1)) Q) (fun _ _ => False) { s with heap := h₁, toks := tk })
    (fin : ∀ h tk m, s.toks ≤ tk → Fx K env.locals h m → J vs.length h m → Q .next { s with heap := h, toks := tk }) :
    wpAny (model pw w) A (pyIter (.ref d)) (fun it s₂ => codeAny (model pw w) A (.forLoop (.Name x px) it body [] env) (fun r s' => match r with | .ok f => Q f s' | .error e => cameBackBy (model pw w) A env E e s') s₂) E s := by
  obtain ⟨ep, hat⟩ := hd.dictAt
  refine wpAny_pyIter_dict hds hat ?_
  have hlI : d ≠ s.heap.objs.size := Nat.ne_of_lt hat.lt_size
  have hLl : env.locals ≠ d := fun e => F.off o (e ▸ hK)
  refine loopY (walksToX (Walks.dictKeys (prog := pw) (w := w) (knd := intKind pw w) hh s.heap.objs.size d hlI vs ep)) hx hp ?_ ?_ ?_ ?_ F.notThere J stable (F.push _) ?_ ?_ fin
  · simp only [List.mem_cons, List.not_mem_nil, or_false, not_or]
    exact ⟨Nat.ne_of_lt F.ltL, hLl⟩
  · exact ⟨⟨_, Heap.get?_push_size _ rfl, rfl, rfl⟩, hat.push _⟩
  · rintro i h ⟨⟨o', e, _⟩, _⟩; rw [e]; simp
  · intro b hb
    rcases List.mem_cons.mp hb with e | e
    · exact .inl e
    · exact .inr ⟨o, (List.mem_singleton.mp e) ▸ hK⟩
  · exact stable 0 _ _ m₀ h0 fun b o _ _ e => Heap.get?_push_of_some _ e
  · rintro i v tk m h₁ K' hK₁ hK' hKI hi htk ⟨tk₀, _, k, y, hv, hk⟩ hJ F₁
    obtain ⟨t, rfl⟩ := Value.isInt_shape hk
    exact wpAny_mono (step i k y t tk m h₁ K' hK₁ hK' hKI hv htk hJ F₁) (fun f s₂ hf => by cases f <;> exact hf) fun _ _ e => e
end
end Mine
namespace Mine
open PySem PySem.W PySem.Challenge PySem.Calls PyProof.Rows

theorem fnShared (P : Params) : FnAt P 205 (Str.ofString "_law_shared") (stA 23) (.ref 204) :=
  ⟨⟨o205 P, pmOf (o205 P), by kernel_rfl, by kernel_rfl, by kernel_rfl⟩, ⟨204, o204 P, dFields (o204 P), tokAt (o204 P), rfl, by kernel_rfl, by kernel_rfl, by kernel_rfl, by decide⟩, by decide⟩

noncomputable def afterI (spot : Int) (k more last : Nat) : Int := spot + 1024 * ((k : Int) - more - last) + 32 * more + last
noncomputable def sharedAt (way spot : Int) (k more : Nat) (g : List (Int × Int)) (last : Nat) : List (Int × Int) :=
  putI g (afterI spot k more last) ((getI g (afterI spot k more last)).getD 0 + way)
noncomputable def sharedIn (way spot : Int) (k more n : Nat) (g : List (Int × Int)) : List (Int × Int) := (List.range n).foldl (sharedAt way spot k more) g
noncomputable def sharedTo (way spot : Int) (k n : Nat) (g : List (Int × Int)) : List (Int × Int) := (List.range n).foldl (fun g more => sharedIn way spot k more (k + 1 - more) g) g
noncomputable def sharedOne (ws : List (Int × Int)) (k : Nat) : List (Int × Int) := ws.foldl (fun g kv => sharedTo kv.2 kv.1 k (k + 1) g) []
noncomputable def shared (ks : List Nat) : List (Int × Int) := ks.foldl sharedOne [(0, 1)]

theorem sharedIn_succ (way spot : Int) (k more n : Nat) (g : List (Int × Int)) : sharedIn way spot k more (n + 1) g = sharedAt way spot k more (sharedIn way spot k more n g) n := by
  simp [sharedIn, List.range_succ]
theorem sharedTo_succ (way spot : Int) (k n : Nat) (g : List (Int × Int)) : sharedTo way spot k (n + 1) g = sharedIn way spot k n (k + 1 - n) (sharedTo way spot k n g) := by
  simp [sharedTo, List.range_succ]
theorem shared_succ {ks : List Nat} {i k : Nat} (h : ks[i]? = some k) : shared (ks.take (i + 1)) = sharedOne (shared (ks.take i)) k := by
  unfold shared
  rw [take_one h, List.foldl_append]; rfl
theorem putI_len (g : List (Int × Int)) (k n : Int) : (putI g k n).length ≤ g.length + 1 := by
  unfold putI; split <;> simp
theorem sharedIn_len (way spot : Int) (k more n : Nat) (g : List (Int × Int)) : (sharedIn way spot k more n g).length ≤ g.length + n := by
  induction n with
  | zero => simp [sharedIn]
  | succ n ih => rw [sharedIn_succ]; have := putI_len (sharedIn way spot k more n g) (afterI spot k more n) ((getI (sharedIn way spot k more n g) (afterI spot k more n)).getD 0 + way); unfold sharedAt; lia
theorem sharedTo_len (way spot : Int) (k n : Nat) (g : List (Int × Int)) : (sharedTo way spot k n g).length ≤ g.length + n * (k + 1) := by
  induction n with
  | zero => simp [sharedTo]
  | succ n ih =>
    rw [sharedTo_succ, Nat.succ_mul]
    have := sharedIn_len way spot k n (k + 1 - n) (sharedTo way spot k n g)
    lia
noncomputable def sharedPart (ws : List (Int × Int)) (k j : Nat) : List (Int × Int) := (ws.take j).foldl (fun g kv => sharedTo kv.2 kv.1 k (k + 1) g) []
theorem sharedPart_succ {ws : List (Int × Int)} {k j : Nat} {kv : Int × Int} (h : ws[j]? = some kv) : sharedPart ws k (j + 1) = sharedTo kv.2 kv.1 k (k + 1) (sharedPart ws k j) := by
  unfold sharedPart
  rw [take_one h, List.foldl_append]; rfl
theorem sharedPart_len (ws : List (Int × Int)) (k j : Nat) (hj : j ≤ ws.length) : (sharedPart ws k j).length ≤ j * ((k + 1) * (k + 1)) := by
  induction j with
  | zero => simp [sharedPart]
  | succ j ih =>
    have h : ws[j]? = some ws[j] := by simp
    rw [sharedPart_succ h, Nat.succ_mul]
    have := sharedTo_len ws[j].2 ws[j].1 k (k + 1) (sharedPart ws k j)
    have := ih (by lia)
    lia

theorem got_int {gs : List (Int × Value)} {gg : List (Int × Int)} (h : IPs gs gg) (k : Int) (t : Tok) : ∃ t', (valueAt gs k).getD (Value.int 0 t) = Value.int ((getI gg k).getD 0) t' := by
  rcases h.get k with ⟨a, b⟩ | ⟨n, t, a, b⟩
  · rw [a, b]; exact ⟨_, rfl⟩
  · rw [a, b]; exact ⟨_, rfl⟩
theorem IPs.cast {vs : List (Int × Value)} {a b : List (Int × Int)} (e : a = b) (h : IPs vs b) : IPs vs a := e ▸ h
theorem valueAt_at {w : World} {h : Heap} {d : Addr} {vs : List (Int × Value)} {i : Nat} {k : Int} {y : Value} (D : h.DictOf (intKind pw w) d vs) (e : vs[i]? = some (k, y)) : valueAt vs k = some y := by
  have hn : (vs.map (·.1)).Nodup := by obtain ⟨o, es, ep, ho, _, _, _, _, hn⟩ := D; exact hn
  clear D
  induction vs generalizing i with
  | nil => simp at e
  | cons kv r ih =>
    rw [List.map_cons, List.nodup_cons] at hn
    cases i with
    | zero => simp at e; subst e; simp [valueAt]
    | succ i =>
      have e : r[i]? = some (k, y) := by simpa using e
      have hne : kv.1 ≠ k := fun q => hn.1 (q ▸ List.mem_map.mpr ⟨(k, y), List.mem_of_getElem? e, rfl⟩)
      have := ih e hn.2
      simpa [valueAt, hne] using this

section
variable {w : World} {A : Around} {E : Value → Shared → Prop} {s : Shared} {n : Nat} {Q : Value → Shared → Prop}

theorem get2_int {env : Env} {nm an : Str} {np apos ap cp pos : Pos} {kd : Nat} {K : Addr → Obj → Prop} {m : Str → Option Value} {d : Addr} {k : Int} {u : Tok} {gs : List (Int × Value)} {gg : List (Int × Int)}
    (F : Fx K env.locals s.heap m) (hm : m nm = some (.ref d)) (ha : m an = some (.int k u)) (G : s.heap.DictOf (intKind pw w) d gs) (hgs : IPs gs gg) (hds : (d == sysModules) = false)
    (hk : env.scope.kind = .function) (hl : env.kindOf nm = some .local) (hd : (nm == ("__debug__" : Str)) = false) (hl' : env.kindOf an = some .local) (hd' : (an == ("__debug__" : Str)) = false)
    (ht : starEach [.Name an ap, .Constant (.int 0) kd cp] env = [(false, eval (.Name an ap) env), (false, eval (.Constant (.int 0) kd cp) env)]) (hline : (apos.endLine == pos.line) = true)
    (h : ∀ t tk, Q (.int ((getI gg k).getD 0) t) { s with toks := tk }) :
    wpAny (model pw w) A (eval (.Call (.Attribute (.Name nm np) (Str.ofString "get") apos) [.Name an ap, .Constant (.int 0) kd cp] [] pos) env) Q E s := by
  refine Call_method2 (by with_unfolding_all rfl) ht hline ?_
  refine wpAny_Name (wpAny_loadName_local hk hl F.ns hm ?_) hd
  refine ⟨"dict", "dict.get", PySem.F.plainAttrs_dict, PySem.F.slot_dict_get, PySem.F.type_dict_get, G.typeIs, G.mapOf.noDict, ?_⟩
  refine wpAny_dict_get2 (knd := intKind pw w) hds ?_
  refine wpAny_Name (wpAny_loadName_local hk hl' F.ns ha ?_) hd'
  refine wpAny_Constant_int ?_
  refine ⟨k, _, intKind_is _ _ _ _, G.mapOf, ?_⟩
  obtain ⟨t', e⟩ := got_int hgs k s.toks
  rw [e]
  exact h _ _

theorem shared_call {z : Addr} {ks : List Nat} {zs : Array Value} {oz : Obj} {nz : Nat} (T : TopH w s.heap) (hr : Room A (n + 1))
    (hz : s.heap.get? z = some oz) (hzc : oz.cls = .type "list") (hzd : oz.data = .seq zs nz) (hzi : IntRow zs ks)
    (hk : ∀ k ∈ ks, k ≤ 100) (hsm : ∀ i, i ≤ ks.length → (shared (ks.take i)).length ≤ 1000)
    (h : ∀ h' d tk, (∀ b o, s.heap.get? b = some o → h'.get? b = some o) → s.heap.get? d = none → IntD w h' d (shared ks) → s.toks ≤ tk → Q (.ref d) { s with heap := h', toks := tk }) :
    wpAny (model pw w) A (call (.ref 205) [.ref z]) Q E s := by
  refine wpAny_call (codeAny_with_toks (Nat.le_refl _) (enterX [Str.ofString "sizes"] T hr (fnShared _) (by kernel_rfl) (by kernel_rfl) (fun pm => by kernel_rfl) (by kernel_rfl) (by kernel_rfl) (by kernel_rfl) (fun h₁ tk htk F T₁ hr₁ => ?_)))
  have hnone : s.heap.get? h₁.objs.size = none := by
    cases e : s.heap.get? h₁.objs.size with
    | none => rfl
    | some o => exact absurd (Heap.lt_size (F.keep _ _ e)) (Nat.lt_irrefl _)
  have hds := T.notMods hnone
  refine wpAny_execs_cons ?_
  refine wpAny_Assign_Name ?_
  refine wpAny_Dict_walk (knd := intKind pw w) rfl rfl (List.cons_ne_nil _ _) (by decide) ?_
  refine pairTrees_cons_walk ?_
  refine wpAny_Constant_int ?_
  refine wpAny_Constant_int ?_
  refine pairTrees_nil_walk ?_
  refine display_done_int rfl (by simp [intKeyPairs]) (Heap.DictOf.new _) fun h₂ D₂ s₂ => ?_
  dsimp only at D₂ s₂
  have F₂ : Fx (kp s.heap) s.heap.objs.size h₂ _ := (F.push { cls := .type "dict", data := .dict #[] }).wr s₂ (Nat.ne_of_gt F.ltL) F.notThere
  have hdL : h₁.objs.size ≠ s.heap.objs.size := Nat.ne_of_gt F.ltL
  have hLh : s.heap.objs.size < h₁.objs.size := F.ltL
  refine stx F₂ fun h₃ F₃ s₃ => ?_
  have D₃ : IntD w h₃ h₁.objs.size [(0, 1)] := ⟨_, D₂.sameBut s₃ hdL, .cons _ _ _ .nil⟩
  clear D₂ s₂ F₂
  dsimp only at s₃ ⊢
  have htk₃ : s.toks ≤ tk + 2 := by lia
  refine wpAny_execs_cons ?_
  refine wpAny_For (ldE F₃ rfl ?_) (by intro _; kernel_rfl)
  refine listLoop2 (K := kp s.heap) hr₁.handled hz hzc ⟨nz, hzd⟩ (by kernel_rfl) (by kernel_rfl) F₃
    (fun i h m => ∃ d, m (Str.ofString "ways") = some (.ref d) ∧ s.heap.get? d = none ∧ d ≠ s.heap.objs.size ∧ d ≠ h₃.objs.size ∧ IntD w h d (shared (ks.take i)))
    ?_ ⟨_, rfl, hnone, hdL, ?_, D₃⟩ ?_ ?_
  · rintro i h h' m J0J k
    refine hideG fun GG hGG => ?_
    obtain ⟨d, a, b, c, e, f⟩ := J0J
    subst hGG
    exact ⟨d, a, b, c, e, f.at fun o e' => k d o c e e'⟩
  · obtain ⟨vs, ⟨o, es, ep, ho, _⟩, _⟩ := D₃; exact Nat.ne_of_lt (Heap.lt_size ho)
  · rintro i v tk₄ m h₄ K₄ hK₄ hK₄' ⟨oI, hKI⟩ hv htk₄ JJ F₄
    refine hideQ fun Q4 hQ4 => ?_
    refine hideG fun GG hGG => ?_
    obtain ⟨d, wd, dn, dL, dI, D₄⟩ := JJ
    subst hGG
    dsimp only at htk₄ F₄ hK₄' hKI dI ⊢
    refine hideG fun GG hGG => ?_
    obtain ⟨k, tz, hki, rfl⟩ := hzi.2 i v hv
    have hk100 : k ≤ 100 := hk k (List.mem_of_getElem? hki)
    have hilt : i < ks.length := by rcases Nat.lt_or_ge i ks.length with h' | h'; exact h'; simp [List.getElem?_eq_none h'] at hki
    have hlen := hsm i (Nat.le_of_lt hilt)
    subst hGG
    generalize hws : shared (ks.take i) = ws at *
    refine hideG fun GG hGG => ?_
    obtain ⟨vs, D₄', hvs⟩ := D₄
    have D₄'' := D₄'
    obtain ⟨od, esd, epd, hod, _⟩ := D₄''
    have dK : ∀ o, ¬ K₄ d o := fun o e => (hK₄' d o e).elim (fun e => by have e : s.heap.get? d = some o := e; rw [dn] at e; cases e) dI
    have dds := T.notMods dn
    subst hGG
    refine wpAny_execs_cons ?_
    refine wpAny_Assign_Name (wpAny_Dict_empty (stx (F₄.push _) fun h₅ F₅ s₅ => ?_))
    dsimp only at s₅ F₅ ⊢
    have hgL : h₄.objs.size ≠ s.heap.objs.size := Nat.ne_of_gt F₄.ltL
    have hgI : h₄.objs.size ≠ h₃.objs.size := Nat.ne_of_gt (Heap.lt_size (F₄.keep _ _ hKI))
    have hgd : d ≠ h₄.objs.size := Nat.ne_of_lt (Heap.lt_size hod)
    have hgn : s.heap.get? h₄.objs.size = none := by
      cases e : s.heap.get? h₄.objs.size with
      | none => rfl
      | some o => exact absurd (Heap.lt_size (F₄.keep _ _ (hK₄ _ _ e))) (Nat.lt_irrefl _)
    have hgds := T.notMods hgn
    have G₅ : IntD w h₅ h₄.objs.size [] := ⟨_, (Heap.DictOf.new h₄).sameBut s₅ hgL, .nil⟩
    have D₅ : h₅.DictOf (intKind pw w) d vs := (D₄'.push _).sameBut s₅ dL
    have hod₅ : h₅.get? d = some od := (s₅.2 _ dL).trans (Heap.get?_push_of_some _ hod)
    have gK : ∀ o, ¬ K₄ h₄.objs.size o := fun o e => F₄.notThere o e
    have F₅ : Fx (fun b o => K₄ b o ∨ (b = d ∧ o = od)) s.heap.objs.size h₅ _ := ⟨F₅.ns, fun b o e => e.elim (F₅.keep b o) (fun e => by rw [e.1, e.2]; exact hod₅), fun o e => e.elim (F₄.off o) fun e => dL e.1.symm⟩
    generalize hG : h₄.objs.size = G at *
    have hGin : h₅.get? G ≠ none := G₅.isIn
    refine wpAny_execs_cons ?_
    refine wpAny_For (ldE F₅ wd ?_) (by intro _; kernel_rfl)
    refine dictLoop (K := fun b o => K₄ b o ∨ (b = d ∧ o = od)) hr₁.handled (.inr ⟨rfl, rfl⟩) D₅ dds (by kernel_rfl) (by kernel_rfl) F₅
      (fun j h m => m (Str.ofString "ways") = some (.ref d) ∧ m (Str.ofString "grown") = some (.ref G) ∧ (∃ t, m (Str.ofString "size") = some (.int k t)) ∧ IntD w h G (sharedPart ws k j))
      ?_ ⟨wd, rfl, ⟨_, rfl⟩, G₅⟩ ?_ ?_
    · rintro j h h' m J0J kk
      refine hideG fun GG hGG => ?_
      obtain ⟨a, b, c, e⟩ := J0J
      subst hGG
      exact ⟨a, b, c, e.at fun o e' => kk G o hgL (by
        rintro rfl
        exact hGin (gone_of_size (Nat.le_refl _))) e'⟩
    · rintro j spot y ty tk₆ m₆ h₆ K₆ hK₆ hK₆' ⟨oJ, hKJ⟩ hj htk₆ JJ F₆
      refine hideQ fun Q6 hQ6 => ?_
      refine hideG fun GG hGG => ?_
      obtain ⟨w₆, g₆, ⟨tz₆, z₆⟩, G₆⟩ := JJ
      obtain ⟨way, tw, rfl, hwj⟩ := hvs.at j spot y hj
      have hjlt : j < ws.length := by rcases Nat.lt_or_ge j ws.length with h' | h'; exact h'; simp [List.getElem?_eq_none h'] at hwj
      have hpl := sharedPart_len ws k j (Nat.le_of_lt hjlt)
      have hbig : j * ((k + 1) * (k + 1)) ≤ 1000 * (101 * 101) := Nat.mul_le_mul (by lia) (Nat.mul_le_mul (by lia) (by lia))
      have gK₆ : ∀ o, ¬ K₆ G o := fun o e => by
        rcases hK₆' G o e with (e | e) | e
        · exact gK o e
        · exact hgd e.1.symm
        · subst e; exact hGin (gone_of_size (Nat.le_refl _))
      have T₆ : TopH w h₆ := F₆.top T fun b o e => hK₆ b o (.inl (hK₄ b o e))
      have hGin₆ : h₆.get? G ≠ none := G₆.isIn
      have hbound : ∀ more, more ≤ k + 1 → (sharedTo way spot k more (sharedPart ws k j)).length ≤ 12000000 := by
        intro more hm
        have a := sharedTo_len way spot k more (sharedPart ws k j)
        have b : more * (k + 1) ≤ 101 * 101 := Nat.mul_le_mul (by lia) (by lia)
        lia
      subst hGG
      refine wpAny_execs_cons ?_
      refine forRange1 (n := k + 1) T₆ hr₁.handled (by lia) (by kernel_rfl) (by kernel_rfl) (by kernel_rfl) (by kernel_rfl) rfl rfl (by kernel_rfl) (by intro _; kernel_rfl) F₆ ?_
        (fun p h m => m (Str.ofString "ways") = some (.ref d) ∧ m (Str.ofString "grown") = some (.ref G) ∧ (∃ t, m (Str.ofString "size") = some (.int k t)) ∧ (∃ t, m (Str.ofString "spot") = some (.int spot t)) ∧ IntD w h G (sharedTo way spot k p (sharedPart ws k j)))
        ?_ ⟨w₆, g₆, ⟨_, z₆⟩, ⟨_, rfl⟩, G₆⟩ ?_ ?_
      · intro Q' E' hq
        exact wpAny_BinOp (ldE F₆ z₆ (wpAny_Constant_int (P.add_int (hq _ _))))
      · rintro p h h' m J0J kk
        refine hideG fun GG hGG => ?_
        obtain ⟨a, b, c, e, f⟩ := J0J
        subst hGG
        exact ⟨a, b, c, e, f.at fun o e' => kk G o hgL hGin₆ e'⟩
      · rintro p tp tk₇ m₇ h₇ K₇ hK₇ hK₇' hp htk₇ JJ F₇
        refine hideQ fun Q7 hQ7 => ?_
        refine hideG fun GG hGG => ?_
        obtain ⟨w₇, g₇, ⟨tz₇, z₇⟩, ⟨ts₇, sp₇⟩, G₇⟩ := JJ
        have gK₇ : ∀ o, ¬ K₇ G o := fun o e => (hK₇' G o e).elim (gK₆ o) hGin₆
        have T₇ : TopH w h₇ := F₇.top T fun b o e => hK₇ b o (hK₆ b o (.inl (hK₄ b o e)))
        have hGin₇ : h₇.get? G ≠ none := G₇.isIn
        have ek : (k : Int) + 1 - (p : Int) = ((k + 1 - p : Nat) : Int) := by lia
        have hb := hbound p (by lia)
        subst hGG
        refine wpAny_execs_cons ?_
        refine forRange1 (n := k + 1 - p) T₇ hr₁.handled (by lia) (by kernel_rfl) (by kernel_rfl) (by kernel_rfl) (by kernel_rfl) rfl rfl (by kernel_rfl) (by intro _; kernel_rfl) F₇ ?_
          (fun q h m => m (Str.ofString "ways") = some (.ref d) ∧ m (Str.ofString "grown") = some (.ref G) ∧ (∃ t, m (Str.ofString "size") = some (.int k t)) ∧ (∃ t, m (Str.ofString "spot") = some (.int spot t)) ∧ (∃ t, m (Str.ofString "more") = some (.int (p : Nat) t)) ∧
            IntD w h G (sharedIn way spot k p q (sharedTo way spot k p (sharedPart ws k j))))
          ?_ ⟨w₇, g₇, ⟨_, z₇⟩, ⟨_, sp₇⟩, ⟨_, rfl⟩, G₇⟩ ?_ ?_
        · intro Q' E' hq
          refine wpAny_BinOp (wpAny_BinOp (ldE F₇ z₇ (wpAny_Constant_int (P.add_int ?_))))
          refine ldE F₇ rfl (P.sub_int ?_)
          rw [ek]
          exact hq _ _
        · rintro q h h' m J0J kk
          refine hideG fun GG hGG => ?_
          obtain ⟨a, b, c, e, f, g⟩ := J0J
          subst hGG
          exact ⟨a, b, c, e, f, g.at fun o e' => kk G o hgL hGin₇ e'⟩
        · rintro q tq tk₈ m₈ h₈ K₈ hK₈ hK₈' hq htk₈ JJ F₈
          refine hideQ fun Q8 hQ8 => ?_
          refine hideG fun GG hGG => ?_
          obtain ⟨w₈, g₈, ⟨tz₈, z₈⟩, ⟨ts₈, sp₈⟩, ⟨tm₈, mo₈⟩, G₈⟩ := JJ
          have gK₈ : ∀ o, ¬ K₈ G o := fun o e => (hK₈' G o e).elim (gK₇ o) hGin₇
          have hb2 := sharedIn_len way spot k p q (sharedTo way spot k p (sharedPart ws k j))
          subst hGG
          refine wpAny_execs_cons ?_
          refine wpAny_Assign_Name ?_
          refine wpAny_BinOp ?_
          refine wpAny_BinOp ?_
          refine wpAny_BinOp ?_
          refine ldE F₈ sp₈ ?_
          refine wpAny_BinOp ?_
          refine wpAny_Constant_int ?_
          refine wpAny_BinOp ?_
          refine wpAny_BinOp ?_
          refine ldE F₈ z₈ (ldE F₈ mo₈ (P.sub_int ?_))
          refine ldE F₈ rfl (P.sub_int ?_)
          refine P.mul_int (P.add_int ?_)
          refine wpAny_BinOp ?_
          refine wpAny_Constant_int (ldE F₈ mo₈ (P.mul_int (P.add_int ?_)))
          refine ldE F₈ rfl (P.add_int ?_)
          refine stx F₈ fun h₉ F₉ s₉ => ?_
          refine hideG fun GG hGG => ?_
          have G₉ : IntD w h₉ G (sharedIn way spot k p q (sharedTo way spot k p (sharedPart ws k j))) := G₈.at fun o e => (s₉.2 G hgL).trans e
          have D₉ : h₉.DictOf (intKind pw w) d vs := by
            obtain ⟨o, es, ep, ho, r⟩ := D₅
            rw [hod₅] at ho; cases ho
            exact ⟨od, es, ep, F₉.keep d od (hK₈ _ _ (hK₇ _ _ (hK₆ _ _ (.inr ⟨rfl, rfl⟩)))), r⟩
          obtain ⟨gs, G₉', hgs⟩ := G₉
          have hgl : gs.length ≤ sizeLine := by rw [hgs.length, sizeLine_eq]; lia
          subst hGG
          refine wpAny_execs_cons ?_
          refine wpAny_Assign_Subscript ?_ (by kernel_rfl)
          refine wpAny_BinOp ?_
          refine get2_int F₉ g₈ rfl G₉' hgs hgds (by kernel_rfl) (by kernel_rfl) (by kernel_rfl) (by kernel_rfl) (by kernel_rfl) (by kernel_rfl) (by kernel_rfl) fun tv tkv => ?_
          refine wpAny_Subscript_Name_late ?_
          refine ldE F₉ w₈ ?_
          refine ldE F₉ sp₈ ?_
          refine ⟨"dict", _, slot_dict_getitem.lookup, D₉.typeIs, ?_⟩
          refine wpAny_getItem_of (intKind_is _ _ _ _) D₉.mapOf (valueAt_at D₉ hj) ?_
          refine P.add_int ?_
          refine ldE F₉ g₈ ?_
          refine ldE F₉ rfl ?_
          refine wpAny_setItem_pairs (intKind_is _ _ _ _) G₉' (fun h₁₀ G₁₀ s₁₀ => ?_) hgl
          have F₁₀ := F₉.wr s₁₀ hgL gK₈
          subst hQ8
          refine wpAny_execs_nil ⟨_, _, _, rfl, F₁₀, w₈, g₈, ⟨_, z₈⟩, ⟨_, sp₈⟩, ⟨_, mo₈⟩, _, G₁₀, ?_⟩
          exact IPs.cast (sharedIn_succ ..) (hgs.stored (afterI spot k p q) ((getI (sharedIn way spot k p q (sharedTo way spot k p (sharedPart ws k j))) (afterI spot k p q)).getD 0 + way) _)
        · rintro h₈ tk₈ m₈ htk₈ F₈ J0J
          refine hideG fun GG hGG => ?_
          obtain ⟨w₈, g₈, z₈, sp₈, -, G₈⟩ := J0J
          subst hGG
          subst hQ7
          refine wpAny_execs_nil ⟨_, _, _, rfl, F₈, w₈, g₈, z₈, sp₈, ?_⟩
          rw [sharedTo_succ]; exact G₈
      · rintro h₇ tk₇ m₇ htk₇ F₇ J0J
        refine hideG fun GG hGG => ?_
        obtain ⟨w₇, g₇, z₇, -, G₇⟩ := J0J
        subst hGG
        subst hQ6
        refine wpAny_execs_nil ⟨_, _, _, rfl, F₇, w₇, g₇, z₇, ?_⟩
        rw [sharedPart_succ hwj]; exact G₇
    · rintro h₆ tk₆ m₆ htk₆ F₆ J0J
      refine hideG fun GG hGG => ?_
      obtain ⟨w₆, g₆, z₆, G₆⟩ := J0J
      subst hGG
      refine wpAny_execs_cons ?_
      refine wpAny_Assign_Name (ldE F₆ g₆ (stx F₆ fun h₇ F₇ s₇ => ?_))
      subst hQ4
      rw [shared_succ hki, hws]
      refine wpAny_execs_nil ⟨_, _, _, rfl, F₇.mono fun b o e => .inl e, G, rfl, hgn, hgL, hgI, ?_⟩
      have e : sharedPart ws k vs.length = sharedOne ws k := by unfold sharedPart sharedOne; rw [hvs.length, List.take_of_length_le (Nat.le_refl _)]
      rw [e] at G₆
      exact G₆.at fun o e => (s₇.2 G hgL).trans e
  · rintro h₄ tk₄ m htk₄ F₄ J0J
    refine hideG fun GG hGG => ?_
    obtain ⟨d, wd, dn, dL, dI, D₄⟩ := J0J
    have htk : ks.take zs.size = ks := List.take_of_length_le (by rw [hzi.1]; exact Nat.le_refl _)
    rw [htk] at D₄
    subst hGG
    refine wpAny_execs_cons ?_
    refine wpAny_Return_some (ldE F₄ wd ?_)
    exact fun hle => h _ _ _ F₄.keep dn D₄ hle
end
end Mine
namespace Mine
open PySem PySem.W PySem.Challenge PySem.Calls PyProof.Rows

section
variable {prog : Program} {w : World} {A : Around} {E : Value → Shared → Prop} {s : Shared}

theorem nextOf_tup {it t : Addr} {i : Nat} {items : Array Value} {x : Value} {Q : Value → Shared → Prop} (hit : IsTupIter s.heap it t i)
    (ht : IsTup s.heap t items) (hx : items[i]? = some x)
    (hQ : ∀ h', IsTupIter h' it t (i + 1) → Heap.SameBut it s.heap h' → Q x { s with heap := h' }) :
    wpAny (model prog w) A (Builtin.SmallTypes.nextOf (.ref it)) Q E s := by
  obtain ⟨o, ho, hc, hd⟩ := id hit
  obtain ⟨ol, hol, _, nl, hdl⟩ := ht
  unfold Builtin.SmallTypes.nextOf
  refine wpAny_bind ?_
  refine wpAny_callSpecial?_slot (name := Str.ofString "__next__") hit.typeIs slot_tupleiter_next ?_
  refine wpAny_call_entry slot_tupleiter_next hit.typeIs entry_tupleiter_next ?_ (args_tupleiter_next _)
  show wpAny _ _ (field (.ref it) 0 >>= _) _ _ s
  refine wpAny_bind (wpAny_field ho hd (x := .ref t) rfl ?_)
  show wpAny _ _ (if (Value.ref t == Value.none) = true then _ else _) _ _ s
  rw [if_neg (show ¬ ((Value.ref t == Value.none) = true) from Bool.false_ne_true)]
  show wpAny _ _ (field (.ref it) 1 >>= _) _ _ s
  refine wpAny_bind (wpAny_field ho hd (x := .int i 0) rfl ?_)
  show wpAny _ _ (seqItems? (.ref t) >>= _) _ _ s
  refine wpAny_bind (wpAny_seqItems hol hdl ?_)
  simp only [Int.toNat_natCast, hx]
  refine wpAny_bind (wpAny_setField ho hd (by simp) (wpAny_pure ⟨x, rfl, wpAny_pure (hQ _ ?_ (Heap.SameBut.update ..))⟩))
  exact ⟨_, Heap.get?_update_self _ ho (Obj.isFreed_of_fields (Obj.data_mapFields hd _)), (Obj.cls_mapFields ..).trans hc, by
    rw [Obj.data_mapFields hd]; simp [rawInt]⟩
theorem nextOf_tup_end {it t : Addr} {i : Nat} {items : Array Value} {Q : Value → Shared → Prop} (hh : A.handled = none)
    (hit : IsTupIter s.heap it t i) (ht : IsTup s.heap t items) (hx : items[i]? = none)
    (hE : ∀ h' e, Heap.ExtBut it s.heap h' → (∃ o, h'.get? e = some o ∧ o.cls = .type "StopIteration") → E (.ref e) { s with heap := h' }) :
    wpAny (model prog w) A (Builtin.SmallTypes.nextOf (.ref it)) Q E s := by
  obtain ⟨o, ho, hc, hd⟩ := id hit
  obtain ⟨ol, hol, _, nl, hdl⟩ := ht
  unfold Builtin.SmallTypes.nextOf
  refine wpAny_bind ?_
  refine wpAny_callSpecial?_slot (name := Str.ofString "__next__") hit.typeIs slot_tupleiter_next ?_
  refine wpAny_call_entry slot_tupleiter_next hit.typeIs entry_tupleiter_next ?_ (args_tupleiter_next _)
  show wpAny _ _ (field (.ref it) 0 >>= _) _ _ s
  refine wpAny_bind (wpAny_field ho hd (x := .ref t) rfl ?_)
  show wpAny _ _ (if (Value.ref t == Value.none) = true then _ else _) _ _ s
  rw [if_neg (show ¬ ((Value.ref t == Value.none) = true) from Bool.false_ne_true)]
  show wpAny _ _ (field (.ref it) 1 >>= _) _ _ s
  refine wpAny_bind (wpAny_field ho hd (x := .int i 0) rfl ?_)
  show wpAny _ _ (seqItems? (.ref t) >>= _) _ _ s
  refine wpAny_bind (wpAny_seqItems hol hdl ?_)
  simp only [Int.toNat_natCast, hx]
  refine wpAny_bind (wpAny_rule (wpAny_bind (wpAny_setField ho hd (by simp) ?_)))
  show wpAny _ _ (newExc (.type "StopIteration") [] >>= _) _ _ _
  refine wpAny_bind ?_
  simp only [newExc, newTuple]
  refine wpAny_bind (wpAny_newObj_type ?_ (by size_fits))
  refine wpAny_bind (m := firstArgMember _ _) (wpAny_of_eq (a := Value.none) (by first | rfl | (simp only [firstArgMember]; rfl)) ?_)
  refine wpAny_newObj_type ?_ (by size_fits)
  simp only [raiseNew]
  refine wpAny_bind (wpAny_handled ?_)
  first | rw [show A.in1.handled = none from hh] | rw [hh]
  refine wpAny_bind (wpAny_pure (wpAny_throw ?_))
  exact hE _ _ (((Heap.SameBut.update ..).extBut.push _).push _) ⟨_, Heap.get?_push_size _ rfl, rfl⟩
end
theorem tupAt {h h' : Heap} {t : Addr} {items : Array Value} (x : IsTup h t items) (k : ∀ o, h.get? t = some o → h'.get? t = some o) : IsTup h' t items := let ⟨o, e, r⟩ := x; ⟨o, k o e, r⟩
theorem tupIterAt {h h' : Heap} {it t : Addr} {i : Nat} (x : IsTupIter h it t i) (k : ∀ o, h.get? it = some o → h'.get? it = some o) : IsTupIter h' it t i := let ⟨o, e, r⟩ := x; ⟨o, k o e, r⟩

theorem drawsTup {prog : Program} {w : World} {A : Around} (hh : A.handled = none) (it t : Addr) (hne : t ≠ it) (items : Array Value) :
    Draws prog w A it [it, t] items.size (fun i v => items[i]? = some v) (fun i h => IsTupIter h it t i ∧ IsTup h t items) where
  live := fun _ _ st => let ⟨o, ho, _⟩ := st.1; ⟨o, ho⟩
  frame := fun _ _ _ st hk => ⟨tupIterAt st.1 fun o e => hk it (by simp) o e, tupAt st.2 fun o e => hk t (by simp) o e⟩
  item := fun i s Q E hi st hQ => by
    refine nextOf_tup st.1 st.2 (x := items[i]) (by simp [hi]) fun h' hit' hs' => ?_
    exact hQ _ h' s.toks (by simp [hi]) ⟨hit', tupAt st.2 fun o e => (hs'.2 t hne).trans e⟩ hs'
  done := fun s Q E st hE => nextOf_tup_end hh st.1 st.2 (by simp) hE

/-- the places of a zip of two -/
structure ZipOff (z TI TO i1 i2 : Addr) (f1 f2 : List Addr) : Prop where
  zI : TI ≠ z
  zO : TO ≠ z
  IO : TI ≠ TO
  z1 : z ∉ f1
  z2 : z ∉ f2
  o1 : TO ∉ f1
  o2 : TO ∉ f2
  n1 : TI ∉ f1
  n2 : TI ∉ f2
  m1 : i1 ∈ f1
  m2 : i2 ∈ f2
  x1 : i1 ∉ f2
  x2 : i2 ∉ f1

section
variable {prog : Program} {w : World} {A : Around} {E : Value → Shared → Prop} {s : Shared}
  {z TI TO i1 i2 : Addr} {f1 f2 : List Addr} {n i : Nat} {P1 P2 : Nat → Value → Prop} {S1 S2 : Nat → Heap → Prop}

/-- the next pair of a zip of two -/
theorem zipItem {a b : Value} {Q : Value → Shared → Prop} (O : ZipOff z TI TO i1 i2 f1 f2) (D1 : Draws prog w A i1 f1 n P1 S1) (D2 : Draws prog w A i2 f2 n P2 S2)
    (hz : IsZip s.heap z TI TO .none) (hTI : IsPair s.heap TI (.ref i1) (.ref i2)) (hTO : IsPair s.heap TO a b) (h1 : S1 i s.heap) (h2 : S2 i s.heap) (hi : i < n)
    (hQ : ∀ (h' : Heap) (T : Addr) (x y : Value) (tk : Tok), P1 i x → P2 i y → IsZip h' z TI TO (rawInt T) → IsPair h' TI (.ref i1) (.ref i2) → IsPair h' TO x y → S1 (i + 1) h' → S2 (i + 1) h' → IsPair h' T x y → T = s.heap.objs.size →
      (∀ c o, c ≠ z → c ≠ TO → c ≠ i1 → c ≠ i2 → s.heap.get? c = some o → h'.get? c = some o) → Q (.ref T) { s with heap := h', toks := tk }) :
    wpAny (model prog w) A (Builtin.«zip.__next__» ⟨[.ref z], []⟩) (fun fin s' => ∃ v, fin = .done (.ret v) ∧ Q v s') E s := by
  have ne : ∀ {l : List Addr} {p q : Addr}, p ∉ l → q ∈ l → p ≠ q := fun hp hq e => hp (e ▸ hq)
  show wpAny _ _ (field (.ref z) 2 >>= _) _ _ _
  refine wpAny_bind (wpAny_field hz rfl (x := .bool false) rfl ?_)
  show wpAny _ _ (field (.ref z) 3 >>= _) _ _ _
  refine wpAny_bind (wpAny_field hz rfl (x := .ref TI) rfl ?_)
  refine wpAny_bind (wpAny_seqItems hTI rfl ?_)
  show wpAny _ _ (Builtin.SmallTypes.ownedTupleIsFree (.ref z) >>= _) _ _ _
  refine wpAny_bind ?_
  unfold Builtin.SmallTypes.ownedTupleIsFree
  refine wpAny_bind (wpAny_field hz rfl (x := .none) rfl (wpAny_pure ?_))
  simp only [if_true]
  refine wpAny_bind (wpAny_rule ?_)
  refine wpAny_bind (wpAny_field hz rfl (x := .ref TO) rfl ?_)
  refine wpAny_bind (wpAny_setField_rec hz (by simp) fun k₁ zz₁ e₁ => ?_)
  have zz₁ : IsZip k₁ z TI TO .ellipsis := zz₁
  have a1 := D1.frame _ _ k₁ h1 fun c hc o e => e₁.extBut _ _ (ne O.z1 hc).symm e
  have a2 := D2.frame _ _ k₁ h2 fun c hc o e => e₁.extBut _ _ (ne O.z2 hc).symm e
  refine wpAny_bind ?_
  simp only [List.zipIdx_cons, List.zipIdx_nil, List.forIn_cons, List.forIn_nil]
  refine wpAny_bind (wpAny_bind (wpAny_onRaise ?_))
  show wpAny _ _ (Builtin.SmallTypes.nextOf (.ref i1) >>= _) _ _ _
  refine wpAny_bind (D1.item i _ _ _ hi a1 fun x k₂ t₂ px a1 e₂ => wpAny_pure ?_)
  have a2 := D2.frame _ _ k₂ a2 fun c hc o e => e₂.extBut _ _ (ne O.x1 hc).symm e
  have to₂ : IsPair k₂ TO a b := e₂.extBut _ _ (ne O.o1 O.m1) (e₁.extBut _ _ O.zO hTO)
  refine wpAny_bind (wpAny_seqItems to₂ rfl ?_)
  refine wpAny_bind (wpAny_updateSeq_pair to₂ fun k₃ to₃ e₃ => ?_)
  have to₃ : IsPair k₃ TO x b := to₃
  refine wpAny_bind (wpAny_letGo (wpAny_pure ?_))
  have a1 := D1.frame _ _ k₃ a1 fun c hc o e => e₃.extBut _ _ (ne O.o1 hc).symm e
  have a2 := D2.frame _ _ k₃ a2 fun c hc o e => e₃.extBut _ _ (ne O.o2 hc).symm e
  refine wpAny_bind (wpAny_bind (wpAny_onRaise ?_))
  show wpAny _ _ (Builtin.SmallTypes.nextOf (.ref i2) >>= _) _ _ _
  refine wpAny_bind (D2.item i _ _ _ hi a2 fun y k₄ t₄ py a2 e₄ => wpAny_pure ?_)
  have a1 := D1.frame _ _ k₄ a1 fun c hc o e => e₄.extBut _ _ (ne O.x2 hc).symm e
  have to₄ : IsPair k₄ TO x b := e₄.extBut _ _ (ne O.o2 O.m2) to₃
  refine wpAny_bind (wpAny_seqItems to₄ rfl ?_)
  refine wpAny_bind (wpAny_updateSeq_pair to₄ fun k₅ to₅ e₅ => ?_)
  have to₅ : IsPair k₅ TO x y := to₅
  refine wpAny_bind (wpAny_letGo (wpAny_pure (wpAny_pure ?_)))
  have a1 := D1.frame _ _ k₅ a1 fun c hc o e => e₅.extBut _ _ (ne O.o1 hc).symm e
  have a2 := D2.frame _ _ k₅ a2 fun c hc o e => e₅.extBut _ _ (ne O.o2 hc).symm e
  have up : ∀ c o, c ≠ TO → c ≠ i1 → c ≠ i2 → k₁.get? c = some o → k₅.get? c = some o := fun c o c2 c3 c4 e =>
    e₅.extBut _ _ c2 (e₄.extBut _ _ c4 (e₃.extBut _ _ c2 (e₂.extBut _ _ c3 e)))
  have ti₅ : IsPair k₅ TI (.ref i1) (.ref i2) := up _ _ O.IO (ne O.n1 O.m1) (ne O.n2 O.m2) (e₁.extBut _ _ O.zI hTI)
  have zz₅ : IsZip k₅ z TI TO .ellipsis := up _ _ O.zO.symm (ne O.z1 O.m1) (ne O.z2 O.m2) zz₁
  refine wpAny_bind (wpAny_seqItems to₅ rfl ?_)
  refine wpAny_bind (wpAny_newTuple ?_)
  have size₅ : k₅.objs.size = s.heap.objs.size := by rw [e₅.1, e₄.1, e₃.1, e₂.1, e₁.1]
  show wpAny _ _ (Builtin.SmallTypes.ownedTupleHandOut (.ref z) (.ref k₅.objs.size) >>= _) _ _ _
  refine wpAny_bind ?_
  unfold Builtin.SmallTypes.ownedTupleHandOut
  have zz₆ : IsZip (k₅.push { cls := .type "tuple", data := .seq #[x, y] }) z TI TO .ellipsis := Heap.get?_push_of_some _ zz₅
  refine wpAny_bind (wpAny_setField_rec zz₆ (by simp) fun k₇ zz₇ e₇ => ?_)
  have zz₇ : IsZip k₇ z TI TO (rawInt k₅.objs.size) := zz₇
  refine wpAny_setField_rec zz₇ (by simp) fun k₈ zz₈ e₈ => ?_
  have zz₈ : IsZip k₈ z TI TO (rawInt k₅.objs.size) := zz₈
  have last : ∀ c o, c ≠ z → k₅.get? c = some o → k₈.get? c = some o := fun c o hc e => e₈.extBut _ _ hc (e₇.extBut _ _ hc (Heap.get?_push_of_some _ e))
  refine wpAny_pure ⟨_, rfl, hQ k₈ k₅.objs.size x y t₄ px py zz₈ (last _ _ O.zI ti₅) (last _ _ O.zO to₅)
    (D1.frame _ _ k₈ a1 fun c hc o e => last c o (ne O.z1 hc).symm e) (D2.frame _ _ k₈ a2 fun c hc o e => last c o (ne O.z2 hc).symm e)
    (e₈.extBut _ _ (Nat.ne_of_gt (Heap.lt_size zz₅)) (e₇.extBut _ _ (Nat.ne_of_gt (Heap.lt_size zz₅)) (Heap.get?_push_size _ rfl))) size₅ fun c o c1 c2 c3 c4 e => last c o c1 (up c o c2 c3 c4 (e₁.extBut _ _ c1 e))⟩

theorem zipEnd {a b : Value} {Q : Fin → Shared → Prop} (O : ZipOff z TI TO i1 i2 f1 f2) (D1 : Draws prog w A i1 f1 n P1 S1)
    (hz : IsZip s.heap z TI TO .none) (hTI : IsPair s.heap TI (.ref i1) (.ref i2)) (hTO : IsPair s.heap TO a b) (h1 : S1 n s.heap)
    (hE : ∀ h' e, (∀ c o, c ≠ z → c ≠ TO → c ≠ i1 → c ≠ i2 → s.heap.get? c = some o → h'.get? c = some o) → (∃ o, h'.get? e = some o ∧ o.cls = .type "StopIteration") → E (.ref e) { s with heap := h' }) :
    wpAny (model prog w) A (Builtin.«zip.__next__» ⟨[.ref z], []⟩) Q E s := by
  have ne : ∀ {l : List Addr} {p q : Addr}, p ∉ l → q ∈ l → p ≠ q := fun hp hq e => hp (e ▸ hq)
  show wpAny _ _ (field (.ref z) 2 >>= _) _ _ _
  refine wpAny_bind (wpAny_field hz rfl (x := .bool false) rfl ?_)
  show wpAny _ _ (field (.ref z) 3 >>= _) _ _ _
  refine wpAny_bind (wpAny_field hz rfl (x := .ref TI) rfl ?_)
  refine wpAny_bind (wpAny_seqItems hTI rfl ?_)
  show wpAny _ _ (Builtin.SmallTypes.ownedTupleIsFree (.ref z) >>= _) _ _ _
  refine wpAny_bind ?_
  unfold Builtin.SmallTypes.ownedTupleIsFree
  refine wpAny_bind (wpAny_field hz rfl (x := .none) rfl (wpAny_pure ?_))
  simp only [if_true]
  refine wpAny_bind (wpAny_rule ?_)
  refine wpAny_bind (wpAny_field hz rfl (x := .ref TO) rfl ?_)
  refine wpAny_bind (wpAny_setField_rec hz (by simp) fun k₁ zz₁ e₁ => ?_)
  have zz₁ : IsZip k₁ z TI TO .ellipsis := zz₁
  have a1 := D1.frame _ _ k₁ h1 fun c hc o e => e₁.extBut _ _ (ne O.z1 hc).symm e
  refine wpAny_bind ?_
  simp only [List.zipIdx_cons, List.zipIdx_nil, List.forIn_cons, List.forIn_nil]
  refine wpAny_bind (wpAny_bind (wpAny_onRaise ?_))
  show wpAny _ _ (Builtin.SmallTypes.nextOf (.ref i1) >>= _) _ _ _
  refine wpAny_bind (D1.done _ _ _ a1 fun k₂ e e₂ he => ?_)
  obtain ⟨oe, hoe, hce⟩ := he
  have zz₂ : IsZip k₂ z TI TO .ellipsis := e₂ _ _ (ne O.z1 O.m1) zz₁
  have hez : e ≠ z := fun x => by subst x; rw [zz₂] at hoe; cases hoe; simp at hce
  exact wpAny_setField_rec zz₂ (by simp) fun k₃ _ e₃ => hE k₃ e (fun c o c1 _ c3 _ x => e₃.extBut _ _ c1 (e₂ _ _ c3 (e₁.extBut _ _ c1 x))) ⟨oe, e₃.extBut _ _ hez hoe, hce⟩
end

theorem zipU {prog : Program} {w : World} {A : Around} {z TI TO i1 i2 : Addr} {f1 f2 : List Addr} {n : Nat} {P1 P2 : Nat → Value → Prop} {S1 S2 : Nat → Heap → Prop} (O : ZipOff z TI TO i1 i2 f1 f2)
    (D1 : Draws prog w A.in1 i1 f1 n P1 S1) (D2 : Draws prog w A.in1 i2 f2 n P2 S2) :
    WalksU prog w A z (z :: TI :: TO :: (f1 ++ f2)) [z, TO, i1, i2] n (fun i vals => ∃ x y, P1 i x ∧ P2 i y ∧ vals = #[x, y])
      (fun i h => IsZip h z TI TO .none ∧ IsPair h TI (.ref i1) (.ref i2) ∧ (∃ a b, IsPair h TO a b) ∧ S1 i h ∧ S2 i h)
      (fun i T h => IsZip h z TI TO (rawInt T) ∧ IsPair h TI (.ref i1) (.ref i2) ∧ (∃ a b, IsPair h TO a b) ∧ S1 (i + 1) h ∧ S2 (i + 1) h ∧ T ≠ z ∧ T ≠ TO ∧ T ≠ i1 ∧ T ≠ i2) := by
  have ne : ∀ {l : List Addr} {p q : Addr}, p ∉ l → q ∈ l → p ≠ q := fun hp hq e => hp (e ▸ hq)
  refine ⟨?_, ?_, ?_, ?_, ?_, ?_, ?_⟩
  · intro c hc
    simp only [List.mem_cons, List.not_mem_nil, or_false] at hc
    rcases hc with rfl | rfl | rfl | rfl
    · simp
    · simp
    · simp [O.m1]
    · simp [O.m2]
  · rintro i h h' ⟨hz, hTI, ⟨a, b, hTO⟩, h1, h2⟩ hk
    exact ⟨hk z (by simp) _ hz, hk TI (by simp) _ hTI, ⟨a, b, hk TO (by simp) _ hTO⟩, D1.frame _ _ _ h1 fun c hc o e => hk c (by simp [hc]) o e, D2.frame _ _ _ h2 fun c hc o e => hk c (by simp [hc]) o e⟩
  · rintro i s Q E hi ⟨hz, hTI, ⟨a, b, hTO⟩, h1, h2⟩ hQ
    have hT : s.TypeIs (.ref z) "zip" := ⟨_, hz, rfl⟩
    unfold pyNext
    refine wpAny_bind (wpAny_attempt (wpAny_callSpecial?_slot (name := Str.ofString "__next__") hT F.slot_zip_next
      (wpAny_call_entry F.slot_zip_next hT F.entry_zip_next ?_ (F.args_zip_next_1 _))))
    refine zipItem O D1 D2 hz hTI hTO h1 h2 hi fun h' T x y tk px py a1 a2 a3 a4 a5 a6 a7 hk => wpAny_pure ?_
    subst a7
    have lt : ∀ {c o}, s.heap.get? c = some o → s.heap.objs.size ≠ c := fun e => Nat.ne_of_gt (Heap.lt_size e)
    refine hQ _ #[x, y] h' tk ⟨x, y, px, py, rfl⟩ ⟨_, a6, rfl, _, rfl⟩ ⟨a1, a2, ⟨_, _, a3⟩, a4, a5, lt hz, lt hTO, ?_, ?_⟩
      fun c o hc e => hk c o (fun x => hc (by simp [x])) (fun x => hc (by simp [x])) (fun x => hc (by simp [x])) (fun x => hc (by simp [x])) e
    · obtain ⟨o, e⟩ := D1.live _ _ h1; exact lt e
    · obtain ⟨o, e⟩ := D2.live _ _ h2; exact lt e
  · rintro elts k pos i T s Q E ⟨hz, hTI, ⟨a, b, hTO⟩, h1, h2, _⟩ hQ
    exact wpAny_letOwnedTupleGo_zip hz fun h' hz' hs' => hQ h' ⟨hz', hs'.extBut _ _ O.zI hTI, ⟨a, b, hs'.extBut _ _ O.zO hTO⟩, D1.frame _ _ _ h1 fun c hc o e => hs'.extBut _ _ (ne O.z1 hc).symm e,
      D2.frame _ _ _ h2 fun c hc o e => hs'.extBut _ _ (ne O.z2 hc).symm e⟩ fun c o hc e => hs'.extBut _ _ (fun x => hc (by simp [x])) e
  · rintro i T h ⟨_, _, _, _, _, t1, t2, t3, t4⟩ hT
    simp only [List.mem_cons, List.not_mem_nil, or_false] at hT
    rcases hT with rfl | rfl | rfl | rfl
    · exact t1 rfl
    · exact t2 rfl
    · exact t3 rfl
    · exact t4 rfl
  · rintro s Q E ⟨hz, hTI, ⟨a, b, hTO⟩, h1, h2⟩ hQ
    have hT : s.TypeIs (.ref z) "zip" := ⟨_, hz, rfl⟩
    unfold pyNext
    refine wpAny_bind (wpAny_attempt (wpAny_callSpecial?_slot (name := Str.ofString "__next__") hT F.slot_zip_next
      (wpAny_call_entry F.slot_zip_next hT F.entry_zip_next ?_ (F.args_zip_next_1 _))))
    refine zipEnd O D1 hz hTI hTO h1 fun h' e hk he => ?_
    obtain ⟨o, ho, hc⟩ := he
    refine wpAny_bind (wpAny_isInstance (T := "StopIteration") (b := true) ⟨o, ho, hc⟩ isSubtype_stop ?_)
    exact wpAny_pure (hQ h' s.toks fun c o hc e => hk c o (fun x => hc (by simp [x])) (fun x => hc (by simp [x])) (fun x => hc (by simp [x])) (fun x => hc (by simp [x])) e)
  · rintro i s Q E ⟨hz, _⟩ hQ
    exact wpAny_pyIter_zip hz hQ
end Mine
namespace Mine
open PySem PySem.W PySem.Challenge PySem.Calls PyProof.Rows

noncomputable abbrev itT (t : Addr) : Obj := { cls := .type "tuple_iterator", data := .fields #[.ref t, .int 0 0] }
noncomputable abbrev zpH (h : Heap) (t1 t2 : Addr) : Heap :=
  ((((h.push (itT t1)).push (itT t2)).push { cls := .type "tuple", data := .seq #[.ref h.objs.size, .ref (h.push (itT t1)).objs.size] }).push { cls := .type "tuple", data := .seq #[.none, .none] }).push
    { cls := .type "zip", data := .fields #[.none, .bool false, .bool false, .ref ((h.push (itT t1)).push (itT t2)).objs.size, .ref (((h.push (itT t1)).push (itT t2)).push { cls := .type "tuple", data := .seq #[.ref h.objs.size, .ref (h.push (itT t1)).objs.size] }).objs.size] }
theorem zipNew (t1 t2 : Addr) (xs ys : Array Value) :
    Meets (Builtin.«zip.__new__» ⟨[.type "zip", .ref t1, .ref t2], []⟩) (fun _ R s => IsTup s.heap t1 xs ∧ IsTup s.heap t2 ys ∧
      R (.ok (.ret (.ref ((((s.heap.push (itT t1)).push (itT t2)).push { cls := .type "tuple", data := .seq #[.ref s.heap.objs.size, .ref (s.heap.push (itT t1)).objs.size] }).push { cls := .type "tuple", data := .seq #[.none, .none] }).objs.size))) { s with heap := zpH s.heap t1 t2 }) :=
  .of_wp fun prog w A R s h => by
    refine hideG fun GG hGG => ?_
    obtain ⟨hp, g, d, tk, os⟩ := s; obtain ⟨hl1, hl2, h⟩ := h
    have hsub := sub_zip
    have hL1 : IsTup (Shared.heap ⟨hp, g, d, tk, os⟩) t1 xs := hl1
    have hL2 : IsTup (Shared.heap ⟨hp.push { cls := .type "tuple_iterator", data := .fields #[.ref t1, .int 0 0] }, g, d, tk, os⟩) t2 ys := tupAt hl2 fun _ e => Heap.get?_push_of_some _ e
    subst hGG
    wp_walk using iter_tuple hL1, iter_tuple hL2
    exact ⟨_, rfl, h⟩

section
variable {w : World} {A : Around} {E : Value → Shared → Prop} {s : Shared}

theorem zipCall {t1 t2 : Addr} {xs ys : Array Value} {Q : Value → Shared → Prop} (hl1 : IsTup s.heap t1 xs) (hl2 : IsTup s.heap t2 ys)
    (h : ∀ h' z TI TO i1 i2, IsZip h' z TI TO .none → IsPair h' TI (.ref i1) (.ref i2) → IsPair h' TO .none .none → IsTupIter h' i1 t1 0 → IsTupIter h' i2 t2 0 →
      i1 = s.heap.objs.size → i2 = s.heap.objs.size + 1 → TI = s.heap.objs.size + 2 → TO = s.heap.objs.size + 3 → z = s.heap.objs.size + 4 → h'.objs.size = s.heap.objs.size + 5 →
      (∀ c o, s.heap.get? c = some o → h'.get? c = some o) → Q (.ref z) { s with heap := h' }) :
    wpAny (model pw w) A (call (.type "zip") [.ref t1, .ref t2]) Q E s := by
  refine callType_new F.called_zip (by decide) (F.typeCall_zip_2 _ _) (F.newCall_zip_2 _ _) (fun obj => F.args_object_init_3 obj _ _) F.entry_zip_new
    (zipNew t1 t2 xs ys) ⟨hl1, hl2, ?_⟩
  have up : ∀ {h : Heap} (o : Obj) {c o'}, h.get? c = some o' → (h.push o).get? c = some o' := fun o _ _ e => Heap.get?_push_of_some o e
  refine ⟨⟨_, Heap.get?_push_size _ rfl, rfl⟩, h _ _ _ _ _ _ (Heap.get?_push_size _ rfl) (up _ (up _ (Heap.get?_push_size _ rfl))) (up _ (Heap.get?_push_size _ rfl))
    ⟨_, up _ (up _ (up _ (up _ (Heap.get?_push_size _ rfl)))), rfl, rfl⟩ ⟨_, up _ (up _ (up _ (Heap.get?_push_size _ rfl))), rfl, rfl⟩ rfl ?_ ?_ ?_ ?_ ?_ fun c o e => up _ (up _ (up _ (up _ (up _ e))))⟩
  all_goals simp only [Heap.size_push]

/-- what a comprehension with a pair for its target has to meet -/
structure CompOK2 (w : World) (A : Around) (env : Env) (scope : Scope) (cl : List (Str × Addr)) (x y : Str) (elt : Expr) (I : Addr) (fp wr : List Addr) (n : Nat) (P : Nat → Array Value → Prop) (St : Nat → Heap → Prop) (Mid : Nat → Addr → Heap → Prop)
    (K : Addr → Obj → Prop) (J : Nat → Heap → List Value → Prop) (RR : Value → Addr → Result → Shared → Prop) (s₂ : Shared) : Prop where
  W : WalksU pw w A I fp wr n P St Mid
  two : ∀ i vals, P i vals → ∃ a b, vals = #[a, b]
  size : n ≤ sizeLine
  hst : St 0 s₂.heap
  hfp : ∀ b ∈ fp, b < s₂.heap.objs.size
  keep : ∀ b o, K b o → s₂.heap.get? b = some o
  hw : ∀ b ∈ wr, ∀ o, ¬ K b o
  stable : ∀ i h h' vs, J i h vs → (∀ b o, s₂.heap.get? b ≠ none → b ∉ wr → h.get? b = some o → h'.get? b = some o) → J i h' vs
  h0 : J 0 s₂.heap []
  step : ∀ i a b tk m h₁ C vs (K' : Addr → Obj → Prop), (∀ b o, K b o → K' b o) → (∀ b o, K' b o → K b o ∨ b ∈ fp ∨ s₂.heap.get? b = none) → s₂.heap.get? C = none → i < n → s₂.toks ≤ tk → P i #[a, b] → J i h₁ vs → vs.length = i →
    Fx K' C h₁ m → m x = some a → m y = some b →
    wpAny (model pw w) A (eval elt (compEnvC scope cl C env)) (fun y s₄ => ∃ h₄ tk₄ m₄, s₄ = { s₂ with heap := h₄, toks := tk₄ } ∧ Fx K' C h₄ m₄ ∧ J (i + 1) h₄ (vs ++ [y])) (fun _ _ => False) { s₂ with heap := h₁, toks := tk }
  fin : ∀ h tk C D vs m, s₂.toks ≤ tk → (∀ b o, K b o → h.get? b = some o) → s₂.heap.get? D = none → s₂.heap.get? C = none → D ≠ C → h.Ns C m → h.PlainList D vs.toArray → J n h vs → RR (.ref D) C (.ok .next) { s₂ with heap := h, toks := tk }

theorem compBlk {env : Env} {elt iter : Expr} {x y : Str} {px py tp : Pos} {kt : Nat} {scope : Scope} {cl : List (Str × Addr)} {pos : Pos} {RR : Value → Addr → Result → Shared → Prop} {s₂ : Shared}
    {I : Addr} {fp wr : List Addr} {n : Nat} {P : Nat → Array Value → Prop} {St : Nat → Heap → Prop} {Mid : Nat → Addr → Heap → Prop} {K : Addr → Obj → Prop} {J : Nat → Heap → List Value → Prop} (hh : A.handled = none)
    (hcell : (scope.names.all fun y => decide (y.2 ≠ .cell)) = true) (hkind : scope.kind = .function)
    (hx : scope.names.lookup x = some .local) (hy : scope.names.lookup y = some .local) (hxy : (x == y) = false)
    (ok : CompOK2 w A env scope cl x y elt I fp wr n P St Mid K J RR s₂) :
    wpAny (model pw w) A (newList []) (fun acc s₃ => wpAny (model pw w) A (newFunctionEnv scope env.globals cl [] env.qual none .none (some env)) (fun cenv s₄ =>
      codeAny (model pw w) A (.compStart (.ListComp elt [⟨.Tuple [.Name x px, .Name y py] kt tp, iter, [], 0⟩] scope pos) 0 (.ref I) acc { cenv with scope := relabel scope env }) (RR acc cenv.locals) s₄) E s₃) E s₂ := by
  refine wpAny_newObj_type (wpAny_newFunctionEnv (fun y hy => of_decide_eq_true (List.all_eq_true.mp hcell y hy)) (by intro y hy; simp at hy) (fun h₁ hns₁ hsb₁ => ?_) hkind)
  dsimp only at hns₁ hsb₁ ⊢
  refine hideG fun GG hGG => ?_
  obtain ⟨H2, hH2⟩ : ∃ H2, s₂.heap.push { cls := .type "list", dict := none, data := .seq ([] : List Value).toArray } = H2 := ⟨_, rfl⟩
  subst hGG
  rw [hH2] at hns₁ hsb₁ ⊢
  have hC : H2.objs.size = s₂.heap.objs.size + 1 := by rw [← hH2, Heap.size_push]
  have hDC : s₂.heap.objs.size ≠ H2.objs.size := by rw [hC]; exact Nat.ne_of_lt (Nat.lt_succ_self _)
  have old : ∀ b o, s₂.heap.get? b = some o → h₁.get? b = some o := fun b o e => hsb₁.extBut b o (by have := Heap.lt_size e; rw [hC]; exact Nat.ne_of_lt (Nat.lt_succ_of_lt this)) (Heap.get?_push_of_some _ (hH2 ▸ Heap.get?_push_of_some _ e))
  have hacc : h₁.PlainList s₂.heap.objs.size #[] := ⟨_, hsb₁.extBut _ _ hDC (Heap.get?_push_of_some _ (hH2 ▸ Heap.get?_push_size _ rfl))⟩
  have hst₁ : St 0 h₁ := ok.W.frame _ _ _ ok.hst fun b _ o e => old b o e
  have hDnone : s₂.heap.get? s₂.heap.objs.size = none := gone_of_size (Nat.le_refl _)
  have hCnone : s₂.heap.get? H2.objs.size = none := gone_of_size (by rw [hC]; exact Nat.le_succ _)
  have hDfp : s₂.heap.objs.size ∉ fp := fun hm => Nat.lt_irrefl _ (ok.hfp _ hm)
  have hCfp : H2.objs.size ∉ fp := fun hm => by have := ok.hfp _ hm; rw [hC] at this; exact Nat.lt_irrefl _ (Nat.lt_of_succ_lt this)
  generalize hDD : s₂.heap.objs.size = D at *
  generalize hCC : H2.objs.size = C at *
  have hCwr : C ∉ wr := fun hm => hCfp (ok.W.sub _ hm)
  have hDwr : D ∉ wr := fun hm => hDfp (ok.W.sub _ hm)
  have hKD : ∀ o, ¬ K D o := fun o e => by have := ok.keep _ _ e; rw [hDnone] at this; cases this
  have hKC : ∀ o, ¬ K C o := fun o e => by have := ok.keep _ _ e; rw [hCnone] at this; cases this
  have F₁ : Fx K C h₁ _ := ⟨hns₁, fun b o e => old b o (ok.keep b o e), hKC⟩
  have J₁ : J 0 h₁ [] := ok.stable 0 _ _ _ ok.h0 fun b o _ _ e => old b o e
  have lx : Env.kindOf (compEnvC scope cl C env) x = some .local := lookup_relabel_local hx
  have ly : Env.kindOf (compEnvC scope cl C env) y = some .local := lookup_relabel_local hy
  have hp : ((compEnvC scope cl C env).scope.kind == .class || ((compEnvC scope cl C env).scope.kind == .module && (compEnvC scope cl C env).locals != (compEnvC scope cl C env).globals)) = false := by simp [compEnvC, relabel, hkind]
  have loop : ∀ s₃ : Shared, s₃ = { s₂ with heap := h₁, toks := s₂.toks + ([] : List (Str × Value)).length } →
      codeAny (model pw w) A (.compLoop (.ListComp elt [⟨.Tuple [.Name x px, .Name y py] kt tp, iter, [], 0⟩] scope pos) 0 (.ref I) (.ref D) (compEnvC scope cl C env)) (RR (.ref D) C) s₃ := by
    rintro s₃ rfl
    refine LCp.codeAny_compLoop_pair (fun k s' => ∃ h tk i m vs, s' = { s₂ with heap := h, toks := tk } ∧ s₂.toks ≤ tk ∧ St i h ∧ Fx K C h m ∧ J i h vs ∧ h.PlainList D vs.toArray ∧ vs.length = i ∧ i ≤ n ∧ k = n + 1 - i) ?_ (n + 1)
      ⟨h₁, _, 0, _, [], rfl, Nat.le_refl _, hst₁, F₁, J₁, hacc, rfl, Nat.zero_le _, rfl⟩
    intro k s' JJ
    refine hideG fun GG hGG => ?_
    obtain ⟨h, tk, i, m, vs, rfl, htk, hs, F, hJ, hP, hlen, hi, rfl⟩ := JJ
    subst hGG
    by_cases hlt : i < n
    · refine wpAny_with_toks (n := tk) (Nat.le_refl _) (ok.W.item i _ _ _ hlt hs fun T vals h₂ tk₂ hPv hT hM hk₂ hle => ?_)
      have hle : tk ≤ tk₂ := hle
      obtain ⟨a, b, rfl⟩ := ok.two i vals hPv
      have F₂ := F.but hCwr ok.hw hk₂
      have hJ₂ := ok.stable i h h₂ vs hJ (fun b o _ hb => hk₂ b o hb)
      have hP₂ := hP.at (h' := h₂) fun o e => hk₂ _ o hDwr e
      have hTw := ok.W.apart _ _ _ hM
      refine ok.W.go _ _ _ i T _ _ _ hM fun h₃ hs₃ hk₃ => ?_
      have hk₃ : ∀ b o, b ∉ wr → h₂.get? b = some o → h₃.get? b = some o := hk₃
      have F₃ := F₂.but hCwr ok.hw hk₃
      have hJ₃ := ok.stable i h₂ h₃ vs hJ₂ (fun b o _ hb => hk₃ b o hb)
      have hP₃ := hP₂.at (h' := h₃) fun o e => hk₃ _ o hDwr e
      have hT₃ : IsTup h₃ T #[a, b] := tupAt hT fun o e => hk₃ _ o hTw e
      refine assign_Tuple_tuple hh hT₃ rfl rfl fun h₄ hx₄ => ?_
      have k₄ : ∀ b o, h₃.get? b = some o → h₄.get? b = some o := fun b o e => hx₄ b o (Nat.ne_of_lt (Heap.lt_size e)) e
      have F₄ := F₃.keeps k₄
      have hJ₄ := ok.stable i h₃ h₄ vs hJ₃ (fun b o _ hb => k₄ b o)
      have hP₄ := hP₃.at (h' := h₄) fun o e => k₄ _ o e
      have hst₄ : St (i + 1) h₄ := ok.W.frame _ _ _ hs₃ fun b hb o e => k₄ _ o e
      show wpAny _ _ (assignInOrder [fun v => assign (.Name x px) (compEnvC scope cl C env) v, fun v => assign (.Name y py) (compEnvC scope cl C env) v] [a, b]) _ _ _
      refine order2 ?_
      refine wpAny_assign_Name ?_
      refine stx (env := compEnvC scope cl C env) F₄ (fun h₅ F₅ hs₅ => ?_) lx hp
      refine wpAny_assign_Name ?_
      refine stx (env := compEnvC scope cl C env) F₅ (fun h₆ F₆ hs₆ => ?_) ly hp
      have k₆ : ∀ b o, b ≠ C → h₄.get? b = some o → h₆.get? b = some o := fun b o hb e => (hs₆.2 b hb).trans ((hs₅.2 b hb).trans e)
      have hJ₆ := ok.stable i h₄ h₆ vs hJ₄ (fun b o hb _ e => k₆ b o (fun q => hb (q ▸ hCnone)) e)
      have hst₆ : St (i + 1) h₆ := ok.W.frame _ _ _ hst₄ fun b hb o e => k₆ b o (fun q => hCfp (q ▸ hb)) e
      have hP₆ : h₆.PlainList D vs.toArray := hP₄.at fun o e => k₆ D o hDC e
      have F₆ : Fx (fun b o => K b o ∨ ((b ∈ fp ∨ b = D) ∧ h₆.get? b = some o)) C h₆ _ :=
        ⟨F₆.ns, fun b o e => e.elim (F₆.keep b o) And.right, fun o e => e.elim (F₆.off o) fun e => e.1.elim hCfp fun q => hDC q.symm⟩
      have hyx : ¬ x = y := fun e => by rw [e] at hxy; simp at hxy
      have big := wpAny_toks_of (n := tk₂ + 1 + 1) (Nat.le_refl _) (ok.step i a b (tk₂ + 1 + 1) _ h₆ C vs (fun b o => K b o ∨ ((b ∈ fp ∨ b = D) ∧ h₆.get? b = some o)) (fun _ _ e => .inl e)
        (fun b o e => by
          rcases e with e | ⟨e | e, _⟩
          · exact .inl e
          · exact .inr (.inl e)
          · exact .inr (.inr (by rw [e]; exact hDnone))) hCnone hlt (by lia) hPv hJ₆ hlen F₆ (by simp [hyx]) (by simp))
      refine wpAny_mono (wpAny_mono big (fun y s₅ h₅ => ?_) (fun _ _ e => e.2.elim)) (fun _ _ e => e) fun _ _ e => e
      obtain ⟨htk₅, h₅, tk₅, m₅, rfl, F₅, hJ₅⟩ := h₅
      have htk₅ : tk₂ + 1 + 1 ≤ tk₅ := htk₅
      have hP₅ : h₅.PlainList D vs.toArray := hP₆.at fun o e => F₅.keep D o (.inr ⟨.inr rfl, e⟩)
      refine append_plain hP₅ (fun h₇ hP₇ hs₇ => ?_) (by have := ok.size; simp; lia)
      have hs₇ : Heap.SameBut D h₅ h₇ := hs₇
      refine ⟨n + 1 - (i + 1), by lia, h₇, tk₅, i + 1, m₅, vs ++ [y], rfl, by lia, ok.W.frame _ _ _ hst₆ fun b hb o e => (hs₇.2 b fun q => hDfp (q ▸ hb)).trans (F₅.keep b o (.inr ⟨.inl hb, e⟩)),
        (F₅.mono fun b o e => .inl e).wr hs₇ hDC hKD, ok.stable _ _ _ _ hJ₅ fun b o hb _ e => (hs₇.2 b fun q => hb (q ▸ hDnone)).trans e, ?_, by simp; lia, hlt, rfl⟩
      have : vs.toArray.push y = (vs ++ [y]).toArray := by simp
      rw [← this]; exact hP₇
    · have hin : i = n := by lia
      subst hin
      refine wpAny_with_toks (n := tk) (Nat.le_refl _) (ok.W.done _ _ _ hs fun h₂ tk₂ hk₂ hle => ?_)
      have hle : tk ≤ tk₂ := hle
      have F₂ := F.but hCwr ok.hw hk₂
      refine ok.fin h₂ tk₂ C D vs m (by lia) (fun b o e => F₂.keep b o e) hDnone hCnone hDC F₂.ns (hP.at (h' := h₂) fun o e => hk₂ _ o hDwr e) (ok.stable _ h h₂ vs hJ (fun b o _ hb => hk₂ b o hb))
  exact codeAny_compStart_list (loop _ rfl) (ok.W.self _ _ _ _ hst₁ (loop _ rfl))

/-- a comprehension with a pair for its target -/
theorem compU {env : Env} {elt iter : Expr} {x y : Str} {px py tp : Pos} {kt : Nat} {scope : Scope} {cl : List (Str × Addr)} {pos : Pos} {Q : Value → Shared → Prop} (hh : A.handled = none)
    (hclos : closureFor scope env = pure cl) (hcell : (scope.names.all fun y => decide (y.2 ≠ .cell)) = true) (hkind : scope.kind = .function)
    (hnames : (scope.names.all fun y => decide (y.2 ≠ .local) || decide (scope.names.lookup y.1 = some .local)) = true) (hx : scope.names.lookup x = some .local) (hy : scope.names.lookup y = some .local) (hxy : (x == y) = false)
    (hs : ∀ x, foldedSetIterable iter env x = pure x)
    (h : wpAny (model pw w) A (eval iter env) (fun xv s₁ => wpAny (model pw w) A (pyIter xv) (fun it s₂ => ∃ I fp wr n P St Mid K J, it = .ref I ∧ (∀ C o, s₂.heap.get? C = none → ¬ K C o) ∧ CompOK2 w A env scope cl x y elt I fp wr n P St Mid K J
      (fun D C _ s' => ∃ (h : Heap) (D' : Addr) (vs : List Value) (m : Str → Option Value) (tk : Tok), s' = { s₂ with heap := h, toks := tk } ∧ D = .ref D' ∧ D' ≠ C ∧ h.Ns C m ∧ h.PlainList D' vs.toArray ∧
        ∀ h', (∀ b o, K b o → h'.get? b = some o) → (∀ b o, b ≠ C → h.get? b = some o → h'.get? b = some o) → h'.PlainList D' vs.toArray → Q (.ref D') { s₂ with heap := h', toks := tk }) s₂) E s₁) E s) :
    wpAny (model pw w) A (eval (.ListComp elt [⟨.Tuple [.Name x px, .Name y py] kt tp, iter, [], 0⟩] scope pos) env) Q E s := by
  rw [eval_ListComp]
  refine wpAny_comprehension_free (use := none) rfl hs hclos hkind (fun y hy hl => by
    have := List.all_eq_true.mp hnames y hy
    rw [Bool.or_eq_true, decide_eq_true_eq, decide_eq_true_eq] at this
    exact this.elim (fun e => absurd hl e) id) (wpAny_mono h (fun xv s₁ h₁ => wpAny_mono h₁ (fun it s₂ h₂ => ?_) fun _ _ e => e) fun _ _ e => e)
  refine hideG fun GG hGG => ?_
  obtain ⟨I, fp, wr, n, P, St, Mid, K, J, rfl, hKn, ok⟩ := h₂
  subst hGG
  refine compBlk (RR := fun acc C => compPost (model pw w) A E none Q acc C) hh hcell hkind hx hy hxy ⟨ok.W, ok.two, ok.size, ok.hst, ok.hfp, ok.keep, ok.hw, ok.stable, ok.h0, ok.step, ?_⟩
  intro h tk C D vs m htk hk hD hC hDC hn hP hJ
  refine hideG fun GG hGG => ?_
  obtain ⟨h0, D', vs', m', tk', es, eD, hD'C, hn', hP', hq⟩ := ok.fin h tk C D vs m htk hk hD hC hDC hn hP hJ
  subst hGG
  cases eD
  cases es
  exact ⟨m', hn', fun h'' hs'' => hq h'' (fun b o e => (hs''.2 b fun q => hKn C o hC (q ▸ e)).trans (hk b o e)) (fun b o hb e => (hs''.2 b hb).trans e) (hP'.at fun o e => (hs''.2 _ hDC).trans e)⟩

/-- such a comprehension, stored in a local right away -/
theorem compA {env : Env} {elt iter : Expr} {x y z : Str} {px py tp pz spos : Pos} {kt : Nat} {scope : Scope} {cl : List (Str × Addr)} {pos : Pos} {Q : Flow → Shared → Prop} {K₀ : Addr → Obj → Prop} (hh : A.handled = none)
    (hsw : swapsWith (.ListComp elt [⟨.Tuple [.Name x px, .Name y py] kt tp, iter, [], 0⟩] scope pos) (some (.Name z pz)) spos.line env = pure true)
    (hz : env.kindOf z = some .local) (hp : (env.scope.kind == .class || (env.scope.kind == .module && env.locals != env.globals)) = false)
    (hclos : closureFor scope env = pure cl) (hcell : (scope.names.all fun y => decide (y.2 ≠ .cell)) = true) (hkind : scope.kind = .function)
    (hnames : (scope.names.all fun y => decide (y.2 ≠ .local) || decide (scope.names.lookup y.1 = some .local)) = true) (hx : scope.names.lookup x = some .local) (hy : scope.names.lookup y = some .local) (hxy : (x == y) = false)
    (hs : ∀ x, foldedSetIterable iter env x = pure x)
    (h : wpAny (model pw w) A (eval iter env) (fun xv s₁ => wpAny (model pw w) A (pyIter xv) (fun it s₂ => ∃ I fp wr n P St Mid K J m, it = .ref I ∧ (∀ C o, s₂.heap.get? C = none → ¬ K C o) ∧ (∀ b o, K₀ b o → K b o) ∧ (∀ o, s₂.heap.get? env.locals = some o → K env.locals o) ∧ Fx K₀ env.locals s₂.heap m ∧
      CompOK2 w A env scope cl x y elt I fp wr n P St Mid K J
      (fun D C _ s' => ∃ (h : Heap) (D' : Addr) (vs : List Value) (m' : Str → Option Value) (tk : Tok), s' = { s₂ with heap := h, toks := tk } ∧ D = .ref D' ∧ D' ≠ C ∧ h.Ns C m' ∧ h.PlainList D' vs.toArray ∧ s₂.heap.get? D' = none ∧
        ∀ h', Fx K₀ env.locals h' (fun q => if q = z then some (.ref D') else m q) → (∀ b o, b ≠ env.locals → K b o → h'.get? b = some o) → h'.PlainList D' vs.toArray → Q .next { s₂ with heap := h', toks := tk + 1 }) s₂) E s₁) E s) :
    wpAny (model pw w) A (exec (.Assign [.Name z pz] (.ListComp elt [⟨.Tuple [.Name x px, .Name y py] kt tp, iter, [], 0⟩] scope pos) spos) env) Q E s := by
  rw [exec_Assign_Name_used _ _ _ _ hsw]
  refine wpAny_bind (wpAny_standAt (wpAny_bind ?_))
  show wpAny _ A (do let _ ← comprehension (.ListComp elt [⟨.Tuple [.Name x px, .Name y py] kt tp, iter, [], 0⟩] scope pos) scope env _ (newList []) false (eval iter env) (some (assign (.Name z pz) env))) _ _ s
  refine wpAny_bind (wpAny_mono (wpAny_comprehension_free (use := some (assign (.Name z pz) env)) (Q := fun _ s' => Q .next s') rfl hs hclos hkind (fun y hy hl => by
    have := List.all_eq_true.mp hnames y hy
    rw [Bool.or_eq_true, decide_eq_true_eq, decide_eq_true_eq] at this
    exact this.elim (fun e => absurd hl e) id) (wpAny_mono h (fun xv s₁ h₁ => wpAny_mono h₁ (fun it s₂ h₂ => ?_) fun _ _ e => e) fun _ _ e => e)) (fun _ s' hq => wpAny_pure (wpAny_pure hq)) fun _ _ e => e)
  refine hideG fun GG hGG => ?_
  obtain ⟨I, fp, wr, n, P, St, Mid, K, J, m, rfl, hKn, hK₀, hKL, F₀, ok⟩ := h₂
  subst hGG
  refine compBlk (RR := fun acc C => compPost (model pw w) A E (some (assign (.Name z pz) env)) (fun _ s' => Q .next s') acc C) hh hcell hkind hx hy hxy ⟨ok.W, ok.two, ok.size, ok.hst, ok.hfp, ok.keep, ok.hw, ok.stable, ok.h0, ok.step, ?_⟩
  intro h tk C D vs m₁ htk hk hD hC hDC hn hP hJ
  refine hideG fun GG hGG => ?_
  obtain ⟨h0, D', vs', m', tk', es, eD, hD'C, hn', hP', hD0, hq⟩ := ok.fin h tk C D vs m₁ htk hk hD hC hDC hn hP hJ
  subst hGG
  cases eD
  cases es
  refine hideG fun GG hGG => ?_
  obtain ⟨oL, hoL⟩ : ∃ o, s₂.heap.get? env.locals = some o := by obtain ⟨o, _, _, e, _⟩ := F₀.ns; exact ⟨o, e⟩
  have hLC : env.locals ≠ C := ne_of_none hoL hC
  have hLD : env.locals ≠ D := ne_of_none hoL hD
  have F₁ : Fx K₀ env.locals h m := ⟨F₀.ns.at' fun o e => by rw [hoL] at e; cases e; exact hk _ _ (hKL _ hoL), fun b o e => hk b o (hK₀ b o e), F₀.off⟩
  subst hGG
  show wpAny _ A (assign (.Name z pz) env (.ref D)) _ _ _
  refine wpAny_assign_Name ?_
  refine stx F₁ (fun h₂ F₂ hs₂ => ?_) hz hp
  refine ⟨m', hn'.sameBut hs₂ hLC.symm, fun h₃ hs₃ => ?_⟩
  have hs₃ : Heap.SameBut C h₂ h₃ := hs₃
  have hs₂ : Heap.SameBut env.locals h h₂ := hs₂
  exact hq h₃ ⟨F₂.ns.at' fun o e => (hs₃.2 _ hLC).trans e, fun b o e => (hs₃.2 b fun q => hKn C o hC (q ▸ hK₀ b o e)).trans (F₂.keep b o e), F₂.off⟩ (fun b o hb e => (hs₃.2 b fun q => hKn C o hC (q ▸ e)).trans ((hs₂.2 b hb).trans (hk b o e)))
    (hP'.at fun o e => (hs₃.2 _ hDC).trans ((hs₂.2 _ hLD.symm).trans e))
end
end Mine
namespace Mine
open PySem PySem.W PySem.Challenge PySem.Calls PyProof.Rows

section
variable {w : World} {A : Around} {E : Value → Shared → Prop} {s : Shared}

theorem minX {l : Addr} {vs : List Value} {ns : List Int} {Q : Value → Shared → Prop} (hh : A.handled = none) (hl : s.heap.IsList l vs.toArray) (hi : IntsAre vs ns) (hne : 0 < ns.length)
    (h : ∀ h' M t tk, (∀ b o, s.heap.get? b = some o → h'.get? b = some o) → M ∈ ns → (∀ a, a ∈ ns → M ≤ a) → Q (.int M t) { s with heap := h', toks := tk }) :
    wpAny (model pw w) A (call (.builtin "min") [.ref l]) Q E s := by
  obtain ⟨xs, e⟩ := hi.allInts.items
  have hns : ns = xs.toList.map (·.1) := by rw [← hi.numsOf, ← nums_intItems, ← e]
  have hsz : 0 < xs.size := by have h3 := hne; rw [hns, List.length_map, Array.length_toList] at h3; exact h3
  rw [e] at hl
  refine min_intList hh hl hsz fun v h' tk hv hk => ?_
  refine hideG fun GG hGG => ?_
  obtain ⟨t, rfl⟩ := intItems_at hv
  obtain ⟨h1, h2⟩ := argBest_lt (numAt xs) (xs.size - 1)
  subst hGG
  refine h _ _ t tk hk ?_ fun a ha => ?_
  · rw [hns, numAt_eq]; exact getD_mem (by rw [List.length_map, Array.length_toList]; lia)
  · rw [hns] at ha
    refine hideG fun GG hGG => ?_
    obtain ⟨j, hj, rfl⟩ := mem_getD ha
    rw [List.length_map, Array.length_toList] at hj
    subst hGG
    rw [← numAt_eq]; exact h2 j (by lia)

theorem sumListX {l : Addr} {vs : List Value} {ns : List Int} {Q : Value → Shared → Prop} (hh : A.handled = none) (hl : s.heap.IsList l vs.toArray) (hi : IntsAre vs ns)
    (h : ∀ h' t tk, (∀ b o, s.heap.get? b = some o → h'.get? b = some o) → Q (.int ns.sum t) { s with heap := h', toks := tk }) :
    wpAny (model pw w) A (call (.builtin "sum") [.ref l]) Q E s := by
  obtain ⟨xs, e⟩ := hi.allInts.items
  have hns : ns = xs.toList.map (·.1) := by rw [← hi.numsOf, ← nums_intItems, ← e]
  rw [e] at hl
  refine sum_intListG hh hl fun h' tk t' hk => ?_
  have e2 : preSum (numAt xs) xs.size = ns.sum := by
    have e3 : numAt xs = fun j => ns.getD j 0 := funext fun j => by rw [numAt_eq, hns]
    have : xs.size = ns.length := by rw [hns]; simp
    rw [e3, preSum_getD, this, List.take_length]
  rw [e2]
  exact h h' t' tk hk

theorem sumTupX {t : Addr} {vs : List Value} {ns : List Int} {Q : Value → Shared → Prop} (hh : A.handled = none) (hl : IsTup s.heap t vs.toArray) (hi : IntsAre vs ns)
    (h : ∀ h' u tk, (∀ b o, s.heap.get? b = some o → h'.get? b = some o) → Q (.int ns.sum u) { s with heap := h', toks := tk }) :
    wpAny (model pw w) A (call (.builtin "sum") [.ref t]) Q E s := by
  refine call_sum_walkG (iter_tuple hl ?_)
  refine hideG fun GG hGG => ?_
  obtain ⟨o, ho, hc, hd⟩ := id hl
  have hne : t ≠ s.heap.objs.size := Nat.ne_of_lt (Heap.lt_size ho)
  subst hGG
  refine ⟨_, _, _, _, _, _, fun i => ns.getD i 0, rfl, Walks.tuple (prog := pw) (w := w) (A := A.in1) hh s.heap.objs.size t hne vs.toArray, ⟨⟨_, Heap.get?_push_size _ rfl, rfl, rfl⟩, ⟨o, Heap.get?_push_of_some _ ho, hc, hd⟩⟩, ?_, ?_, ?_⟩
  · intro b hb
    simp only [List.mem_cons, List.not_mem_nil, or_false] at hb
    dsimp only
    rw [Heap.size_push]
    rcases hb with rfl | rfl
    · exact Nat.lt_succ_self _
    · exact Nat.lt_succ_of_lt (Heap.lt_size ho)
  · intro i v hv
    refine hideG fun GG hGG => ?_
    obtain ⟨n, t, rfl, hn⟩ := hi.at i v (by simpa using hv)
    subst hGG
    exact ⟨t, by simp [List.getD_eq_getElem?_getD, hn]⟩
  · intro h' tk t' hk
    have e2 : preSum (fun i => ns.getD i 0) vs.toArray.size = ns.sum := by
      rw [preSum_getD]
      have : vs.toArray.size = ns.length := by simp [hi.length]
      rw [this, List.take_length]
    rw [e2]
    refine h h' t' tk fun b o e => hk b o ?_ (Heap.get?_push_of_some _ e)
    have := Heap.lt_size e
    simpa using Nat.ne_of_lt this

theorem goTup {elts : List Expr} {x1 : Nat} {pos : Pos} {I t T : Addr} {i : Nat} {Q : Unit → Shared → Prop} (hit : IsTupIter s.heap I t i) (hQ : Q () s) :
    wpAny (model pw w) A (letOwnedTupleGo (.Tuple elts x1 pos) (.ref I) (.ref T)) Q E s := by
  refine hideG fun GG hGG => ?_
  obtain ⟨o, ho, hc, hd⟩ := hit
  subst hGG
  unfold letOwnedTupleGo
  refine wpAny_bind (wpAny_load ho ?_)
  rw [hc, hd]
  show wpAny _ A (if (["enumerate", "zip", "dict_itemiterator", "dict_reverseitemiterator", "odict_iterator", "itertools.zip_longest", "itertools.pairwise"].contains "tuple_iterator" &&
      (#[.ref t, .int i 0] : Array Value)[0]? == some (rawInt T)) = true then _ else _) Q E s
  rw [if_neg (by
    intro h
    rw [show (["enumerate", "zip", "dict_itemiterator", "dict_reverseitemiterator", "odict_iterator", "itertools.zip_longest", "itertools.pairwise"].contains "tuple_iterator") = false from by decide, Bool.false_and] at h
    cases h)]
  exact wpAny_pure hQ

/-- a for over a tuple -/
theorem tupLoop {env : Env} {x : Str} {px : Pos} {body : List Stmt} {l : Addr} {items : Array Value} {K : Addr → Obj → Prop} {m₀ : Str → Option Value} {Q : Flow → Shared → Prop}
    (hh : A.handled = none) {o : Obj} (hK : K l o) (hc : o.cls = .type "tuple") (hd : ∃ n, o.data = .seq items n)
    (hx : env.kindOf x = some .local) (hp : (env.scope.kind == .class || (env.scope.kind == .module && env.locals != env.globals)) = false)
    (F : Fx K env.locals s.heap m₀)
    (J : Nat → Heap → (Str → Option Value) → Prop) (stable : ∀ i h h' m, J i h m → (∀ b o, b ≠ env.locals → b ≠ s.heap.objs.size → h.get? b = some o → h'.get? b = some o) → J i h' m)
    (h0 : J 0 s.heap m₀)
    (step : ∀ i v tk m h₁ (K' : Addr → Obj → Prop), (∀ b o, K b o → K' b o) → (∀ b o, K' b o → K b o ∨ b = s.heap.objs.size) → (∃ o, K' s.heap.objs.size o) → items[i]? = some v → s.toks ≤ tk → J i h₁ m →
      Fx K' env.locals h₁ (fun y => if y = x then some v else m y) →
      wpAny (model pw w) A (execs body env) (Turn s K' env.locals (J (i + 1)) Q) (fun _ _ => False) { s with heap := h₁, toks := tk })
    (fin : ∀ h tk m, s.toks ≤ tk → Fx K env.locals h m → J items.size h m → Q .next { s with heap := h, toks := tk }) :
    wpAny (model pw w) A (pyIter (.ref l)) (fun it s₂ => codeAny (model pw w) A (.forLoop (.Name x px) it body [] env) (fun r s' => match r with | .ok f => Q f s' | .error e => cameBackBy (model pw w) A env E e s') s₂) E s := by
  have hl : IsTup s.heap l items := ⟨o, F.keep _ _ hK, hc, hd⟩
  refine iter_tuple hl ?_
  have hlI : l ≠ s.heap.objs.size := Nat.ne_of_lt (Heap.lt_size (F.keep _ _ hK))
  have hLl : env.locals ≠ l := fun e => F.off o (e ▸ hK)
  refine loopY (walksToX (Walks.tuple (prog := pw) (w := w) hh s.heap.objs.size l hlI items)) hx hp ?_ ?_ ?_ ?_ F.notThere J stable (F.push _) ?_ ?_ fin
  · simp only [List.mem_cons, List.not_mem_nil, or_false, not_or]
    exact ⟨Nat.ne_of_lt F.ltL, hLl⟩
  · exact ⟨⟨_, Heap.get?_push_size _ rfl, rfl, rfl⟩, ⟨o, Heap.get?_push_of_some _ (F.keep _ _ hK), hc, hd⟩⟩
  · rintro i h ⟨⟨o', e, _⟩, _⟩; rw [e]; simp
  · intro b hb
    rcases List.mem_cons.mp hb with e | e
    · exact .inl e
    · exact .inr ⟨o, (List.mem_singleton.mp e) ▸ hK⟩
  · exact stable 0 _ _ m₀ h0 fun b o _ _ e => Heap.get?_push_of_some _ e
  · rintro i v tk m h₁ K' hK₁ hK' hKI hi htk J0J hJ F₁
    refine hideG fun GG hGG => ?_
    obtain ⟨tk₀, _, hv⟩ := J0J
    subst hGG
    exact wpAny_mono (step i v tk m h₁ K' hK₁ hK' hKI hv htk hJ F₁) (fun f s₂ hf => by cases f <;> exact hf) fun _ _ e => e

/-- a for over a tuple of pairs, its target two names -/
theorem tupLoop2 {env : Env} {x y : Str} {px py tp : Pos} {kt : Nat} {body : List Stmt} {l : Addr} {items : Array Value} {K : Addr → Obj → Prop} {m₀ : Str → Option Value} {Q : Flow → Shared → Prop}
    (hh : A.handled = none) {o : Obj} (hK : K l o) (hc : o.cls = .type "tuple") (hd : ∃ n, o.data = .seq items n)
    (hx : env.kindOf x = some .local) (hy : env.kindOf y = some .local) (hp : (env.scope.kind == .class || (env.scope.kind == .module && env.locals != env.globals)) = false)
    (hpairs : ∀ (i : Nat) (v : Value), items[i]? = some v → ∃ T oT a b n, v = .ref T ∧ K T oT ∧ oT.cls = .type "tuple" ∧ oT.data = .seq #[a, b] n)
    (F : Fx K env.locals s.heap m₀)
    (J : Nat → Heap → (Str → Option Value) → Prop) (stable : ∀ i h h' m, J i h m → (∀ b o, b ≠ env.locals → b ≠ s.heap.objs.size → h.get? b = some o → h'.get? b = some o) → J i h' m)
    (h0 : J 0 s.heap m₀)
    (step : ∀ i T oT a b n tk m h₁ (K' : Addr → Obj → Prop), (∀ b o, K b o → K' b o) → (∀ b o, K' b o → K b o ∨ b = s.heap.objs.size) → items[i]? = some (.ref T) → K T oT → oT.data = .seq #[a, b] n → s.toks ≤ tk → J i h₁ m →
      Fx K' env.locals h₁ (fun z => if z = y then some b else if z = x then some a else m z) →
      wpAny (model pw w) A (execs body env) (Turn s K' env.locals (J (i + 1)) Q) (fun _ _ => False) { s with heap := h₁, toks := tk })
    (fin : ∀ h tk m, s.toks ≤ tk → Fx K env.locals h m → J items.size h m → Q .next { s with heap := h, toks := tk }) :
    wpAny (model pw w) A (pyIter (.ref l)) (fun it s₂ => codeAny (model pw w) A (.forLoop (.Tuple [.Name x px, .Name y py] kt tp) it body [] env) (fun r s' => match r with | .ok f => Q f s' | .error e => cameBackBy (model pw w) A env E e s') s₂) E s := by
  have hl : IsTup s.heap l items := ⟨o, F.keep _ _ hK, hc, hd⟩
  refine iter_tuple hl ?_
  refine hideG fun GG hGG => ?_
  obtain ⟨I, hI⟩ : ∃ I, s.heap.objs.size = I := ⟨_, rfl⟩
  have hlI : l ≠ I := hI ▸ Nat.ne_of_lt (Heap.lt_size (F.keep _ _ hK))
  have hLI : env.locals ≠ I := hI ▸ Nat.ne_of_lt F.ltL
  have hLl : env.locals ≠ l := fun e => F.off o (e ▸ hK)
  have hKI : ∀ o, ¬ K I o := hI ▸ F.notThere
  have W := Walks.tuple (prog := pw) (w := w) hh I l hlI items
  have it0 : IsTupIter (s.heap.push (itT l)) I l 0 := by rw [← hI]; exact ⟨_, Heap.get?_push_size _ rfl, rfl, rfl⟩
  subst hGG
  rw [hI]
  refine codeAny_forLoop_any (fun k s' => ∃ h tk i m, s' = { s with heap := h, toks := tk } ∧ s.toks ≤ tk ∧ (h.IsTupleIter I l i ∧ h.IsTuple l items) ∧ Fx K env.locals h m ∧ J i h m ∧ i ≤ items.size ∧ k = items.size + 1 - i) ?_ (items.size + 1)
    ⟨s.heap.push (itT l), s.toks, 0, m₀, rfl, Nat.le_refl _, ⟨it0, tupAt hl fun _ e => Heap.get?_push_of_some _ e⟩, F.push _, stable 0 _ _ m₀ h0 (fun b o _ _ e => Heap.get?_push_of_some _ e), Nat.zero_le _, rfl⟩
  rintro k s' J0J
  refine hideG fun GG hGG => ?_
  obtain ⟨h, tk, i, m, rfl, htk, hs, F₀, hJ, hi, rfl⟩ := J0J
  subst hGG
  by_cases hlt : i < items.size
  · refine wpAny_with_toks (n := tk) (Nat.le_refl _) (W.item i _ _ _ hlt hs fun v h₁ tk₁ hP hs₁ hk₁ hle => ?_)
    refine hideG fun GG hGG => ?_
    have hle : tk ≤ tk₁ := hle
    obtain ⟨T, oT, a, b, n, rfl, hKT, hcT, hdT⟩ := hpairs i v hP
    have F₁ := F₀.but (wr := [I]) (show env.locals ∉ [I] by simpa using hLI) (by simpa using hKI) hk₁
    have hJ₁ := stable i h h₁ m hJ (fun b o h1 h2 e => hk₁ b o (by simpa [hI] using h2) e)
    subst hGG
    refine goTup hs₁.1 ?_
    refine assign_Tuple_tuple hh (t := T) (items := #[a, b]) ⟨oT, F₁.keep _ _ hKT, hcT, n, hdT⟩ rfl rfl fun h₂ hx₂ => ?_
    have k₂ : ∀ b o, h₁.get? b = some o → h₂.get? b = some o := fun b o e => hx₂ b o (Nat.ne_of_lt (Heap.lt_size e)) e
    have F₂ := F₁.keeps k₂
    have hJ₂ := stable i h₁ h₂ m hJ₁ (fun b o _ _ => k₂ b o)
    show wpAny _ _ (assignInOrder [fun v => assign (.Name x px) env v, fun v => assign (.Name y py) env v] [a, b]) _ _ _
    refine order2 ?_
    refine wpAny_assign_Name ?_
    refine stx F₂ (fun h₃ F₃ hs₃ => ?_) hx hp
    refine wpAny_assign_Name ?_
    refine stx F₃ (fun h₄ F₄ hs₄ => ?_) hy hp
    refine hideG fun GG hGG => ?_
    have k₄ : ∀ b o, b ≠ env.locals → h₂.get? b = some o → h₄.get? b = some o := fun b o hb e => (hs₄.2 b hb).trans ((hs₃.2 b hb).trans e)
    have hJ₄ := stable i h₂ h₄ m hJ₂ (fun b o hb _ e => k₄ b o hb e)
    have hst₄ : h₄.IsTupleIter I l (i + 1) ∧ h₄.IsTuple l items := W.frame (i + 1) h₁ h₄ hs₁ fun b hb o e => k₄ b o (fun q => by
      simp only [List.mem_cons, List.not_mem_nil, or_false] at hb
      rcases hb with hb | hb
      · exact hLI (q.symm.trans hb)
      · exact hLl (q.symm.trans hb)) (k₂ _ _ e)
    obtain ⟨oI, eI, _⟩ := id hst₄.1
    have F₅ : Fx (fun b o => K b o ∨ (b = I ∧ o = oI)) env.locals h₄ _ := ⟨F₄.ns, fun b o e => e.elim (F₄.keep b o) (fun e => by rw [e.1, e.2]; exact eI), fun o e => e.elim (F₄.off o) fun e => hLI e.1⟩
    have big := wpAny_toks (step i T oT a b n (tk₁ + 1 + 1) m h₄ (fun b o => K b o ∨ (b = I ∧ o = oI)) (fun _ _ e => .inl e) (fun _ _ e => e.imp id fun e => hI ▸ e.1) hP hKT hdT (by lia) hJ₄ F₅)
    subst hGG
    refine wpAny_mono (wpAny_mono big (fun f s₃ h₃ => ?_) (fun _ _ e => e.2.elim)) (fun _ _ e => e) fun _ _ e => e
    obtain ⟨htk₃, hf⟩ := h₃
    have fin' : ∀ {s₃ : Shared}, tk₁ + 1 + 1 ≤ s₃.toks → (∃ h₂' tk₂ m₂, s₃ = { s with heap := h₂', toks := tk₂ } ∧ Fx (fun b o => K b o ∨ (b = I ∧ o = oI)) env.locals h₂' m₂ ∧ J (i + 1) h₂' m₂) →
        ∃ k', k' < items.size + 1 - i ∧ ∃ h tk i m, s₃ = { s with heap := h, toks := tk } ∧ s.toks ≤ tk ∧ (h.IsTupleIter I l i ∧ h.IsTuple l items) ∧ Fx K env.locals h m ∧ J i h m ∧ i ≤ items.size ∧ k' = items.size + 1 - i := by
      rintro s₃ ht ⟨h₆, tk₆, m₆, rfl, F₆, hJ₆⟩
      have ht : tk₁ + 1 + 1 ≤ tk₆ := ht
      refine ⟨items.size + 1 - (i + 1), by lia, h₆, tk₆, i + 1, m₆, rfl, by lia, W.frame _ _ _ hst₄ (fun b hb o' e => ?_), F₆.mono fun b o e => .inl e, hJ₆, hlt, rfl⟩
      simp only [List.mem_cons, List.not_mem_nil, or_false] at hb
      rcases hb with rfl | rfl
      · rw [eI] at e; cases e; exact F₆.keep _ _ (.inr ⟨rfl, rfl⟩)
      · have := F₄.keep _ _ hK; rw [e] at this; cases this; exact F₆.keep _ _ (.inl hK)
    cases f with
    | next => exact fin' htk₃ hf
    | cont => exact fin' htk₃ hf
    | brk => exact hf
    | ret v => exact hf
  · have hin : i = items.size := by lia
    subst hin
    refine wpAny_with_toks (n := tk) (Nat.le_refl _) (W.done _ _ _ hs fun h₁ tk₁ hk₁ hle => wpAny_execs_nil (fin h₁ tk₁ m ?_ (F₀.but (wr := [I]) (show env.locals ∉ [I] by simpa using hLI) (by simpa using hKI) hk₁)
      (stable _ h h₁ m hJ fun b o _ hb => hk₁ b o (by simpa [hI] using hb))))
    exact Nat.le_trans htk hle

/-- an item of a list of ints, of a tuple of ints, by a written number -/
theorem itemL {env : Env} {value : Expr} {c : Nat} {kd : Nat} {p pos : Pos} {l : Addr} {vs : List Value} {ns : List Int} {Q : Value → Shared → Prop} {n : Int}
    (ho : ∀ Q' : Value → Shared → Prop, Q' (.ref l) s → wpAny (model pw w) A (eval value env) Q' E s) (hl : s.heap.IsList l vs.toArray) (hi : IntsAre vs ns) (hn : ns[c]? = some n) (hc : (c : Int) < 2 ^ 63)
    (ht : ∀ o r, letTemporaryGo value o r = pure ()) (h : ∀ t, Q (.int n t) { s with toks := s.toks + 1 }) :
    wpAny (model pw w) A (eval (.Subscript value (.Constant (.int c) kd p) pos) env) Q E s := by
  refine wpAny_Subscript_Constant_late (ho _ ?_) ht
  refine wpAny_Constant_int ?_
  obtain ⟨t, hx⟩ := hi.get c n hn
  exact ⟨"list", _, slot_list_getitem.lookup, hl.typeIs, wpAny_getItem_list (s := { s with toks := s.toks + 1 }) hl (by lia) hc (by simpa using hx) (h t)⟩
theorem itemT {env : Env} {value : Expr} {c : Nat} {kd : Nat} {p pos : Pos} {l : Addr} {vs : List Value} {x : Value} {Q : Value → Shared → Prop}
    (ho : ∀ Q' : Value → Shared → Prop, Q' (.ref l) s → wpAny (model pw w) A (eval value env) Q' E s) (hl : IsTup s.heap l vs.toArray) (hn : vs[c]? = some x) (hc : (c : Int) < 2 ^ 63)
    (ht : ∀ o r, letTemporaryGo value o r = pure ()) (h : Q x { s with toks := s.toks + 1 }) :
    wpAny (model pw w) A (eval (.Subscript value (.Constant (.int c) kd p) pos) env) Q E s := by
  refine wpAny_Subscript_Constant_late (ho _ ?_) ht
  refine wpAny_Constant_int ?_
  have hlt : c < vs.length := by rcases Nat.lt_or_ge c vs.length with h' | h'; exact h'; simp [List.getElem?_eq_none h'] at hn
  exact ⟨"tuple", _, slot_tuple_getitem.lookup, hl.typeIs, getItem_tuple (s := { s with toks := s.toks + 1 }) (j := c) hl (by lia) hc (seqIndex_of (by lia) (by simpa using hlt)) (by simpa using hn) h⟩
end
end Mine
namespace Mine
open PySem PySem.W PySem.Challenge PySem.Calls PyProof.Rows

theorem fnOften (P : Params) : FnAt P 210 (Str.ofString "_law_often") (stA 24) (.ref 209) :=
  ⟨⟨o210 P, pmOf (o210 P), by kernel_rfl, by kernel_rfl, by kernel_rfl⟩, ⟨209, o209 P, dFields (o209 P), tokAt (o209 P), rfl, by kernel_rfl, by kernel_rfl, by kernel_rfl, by decide⟩, by decide⟩

noncomputable abbrev I3 := Int × Int × Int
noncomputable def evenL (t m l : Int) : List I3 := [(t, m, l), (m, l, t), (l, t, m)]
noncomputable def oddL (t m l : Int) : List I3 := [(t, l, m), (m, t, l), (l, m, t)]
noncomputable def oftenAt (ws : List (Int × Int)) (g : I3) (sign tot : Int) (o : I3) : Int :=
  if 0 ≤ g.1 - o.1 ∧ 0 ≤ g.2.1 - o.2.1 ∧ 0 ≤ g.2.2 - o.2.2 then tot + sign * (getI ws (1024 * (g.1 - o.1) + 32 * (g.2.1 - o.2.1) + (g.2.2 - o.2.2))).getD 0 else tot
noncomputable def oftenIn (ws : List (Int × Int)) (g : I3) (sign : Int) (os : List I3) (tot : Int) : Int := os.foldl (oftenAt ws g sign) tot
noncomputable def often (ws : List (Int × Int)) (g st : I3) : Int := oftenIn ws g (-1) (oddL st.1 st.2.1 st.2.2) (oftenIn ws g 1 (evenL st.1 st.2.1 st.2.2) 0)
/-- a tuple of three ints -/
noncomputable def Is3 (o : Obj) (x : I3) : Prop := o.cls = .type "tuple" ∧ ∃ t u v n, o.data = .seq #[.int x.1 t, .int x.2.1 u, .int x.2.2 v] n
theorem Is3.tup {h : Heap} {a : Addr} {o : Obj} {x : I3} (i : Is3 o x) (e : h.get? a = some o) : ∃ t u v, IsTup h a #[.int x.1 t, .int x.2.1 u, .int x.2.2 v] :=
  let ⟨c, t, u, v, n, d⟩ := i; ⟨t, u, v, o, e, c, n, d⟩

section
variable {w : World} {A : Around} {E : Value → Shared → Prop} {s : Shared} {n : Nat}

theorem asg3 {env : Env} {x y z : Str} {px py pz tp : Pos} {kt : Nat} {t : Addr} {a b c : Value} {K : Addr → Obj → Prop} {m : Str → Option Value} {Q : Unit → Shared → Prop} (hh : A.handled = none)
    (F : Fx K env.locals s.heap m) (ht : IsTup s.heap t #[a, b, c])
    (h : ∀ h', Fx K env.locals h' (fun q => if q = z then some c else if q = y then some b else if q = x then some a else m q) → (∀ b o, b ≠ env.locals → s.heap.get? b = some o → h'.get? b = some o) → Q () { s with heap := h', toks := s.toks + 1 + 1 + 1 })
    (hx : env.kindOf x = some .local) (hy : env.kindOf y = some .local) (hz : env.kindOf z = some .local) (hp : (env.scope.kind == .class || (env.scope.kind == .module && env.locals != env.globals)) = false) :
    wpAny (model pw w) A (assign (.Tuple [.Name x px, .Name y py, .Name z pz] kt tp) env (.ref t)) Q E s := by
  refine assign_Tuple_tuple hh ht rfl rfl fun h₂ hx₂ => ?_
  have k₂ : ∀ b o, s.heap.get? b = some o → h₂.get? b = some o := fun b o e => hx₂ b o (Nat.ne_of_lt (Heap.lt_size e)) e
  have F₂ := F.keeps k₂
  show wpAny _ _ (assignInOrder [fun v => assign (.Name x px) env v, fun v => assign (.Name y py) env v, fun v => assign (.Name z pz) env v] [a, b, c]) _ _ _
  refine order3 ?_
  refine wpAny_assign_Name ?_
  refine stx F₂ (fun h₃ F₃ hs₃ => ?_) hx hp
  refine wpAny_assign_Name ?_
  refine stx F₃ (fun h₄ F₄ hs₄ => ?_) hy hp
  refine wpAny_assign_Name ?_
  refine stx F₄ (fun h₅ F₅ hs₅ => ?_) hz hp
  exact h h₅ F₅ fun b o hb e => (hs₅.2 b hb).trans ((hs₄.2 b hb).trans ((hs₃.2 b hb).trans (k₂ b o e)))

/-- a tuple of three made by a display of three names that hold ints -/
theorem disp3 {env : Env} {x y z : Str} {px py pz tp : Pos} {kt : Nat} {a b c : Int} {ta tb tc : Tok} {K : Addr → Obj → Prop} {m : Str → Option Value} {Q : Value → Shared → Prop}
    (F : Fx K env.locals s.heap m) (ex : m x = some (.int a ta)) (ey : m y = some (.int b tb)) (ez : m z = some (.int c tc))
    (h : ∀ h' T o, Fx (fun b o' => K b o' ∨ (b = T ∧ o' = o)) env.locals h' m → (∀ b o, s.heap.get? b = some o → h'.get? b = some o) → Is3 o (a, b, c) → s.heap.get? T = none → Q (.ref T) { s with heap := h' })
    (hk : env.scope.kind = .function) (hx : env.kindOf x = some .local) (hy : env.kindOf y = some .local) (hz : env.kindOf z = some .local)
    (dx : (x == ("__debug__" : Str)) = false) (dy : (y == ("__debug__" : Str)) = false) (dz : (z == ("__debug__" : Str)) = false)
    (ht : backTo tp (starEach [.Name x px, .Name y py, .Name z pz] env) = [(false, eval (.Name x px) env), (false, eval (.Name y py) env), (false, eval (.Name z pz) env)]) :
    wpAny (model pw w) A (eval (.Tuple [.Name x px, .Name y py, .Name z pz] kt tp) env) Q E s := by
  refine tup3 ht ?_
  refine ldE F ex ?_ hk hx dx
  refine ldE F ey ?_ hk hy dy
  refine ldE F ez ?_ hk hz dz
  refine newTupX F (fun h' F' k' t' => ?_) (by show 3 ≤ sizeLine; decide)
  exact h h' _ _ F' k' ⟨rfl, ta, tb, tc, 0, rfl⟩ (gone_of_size (Nat.le_refl _))
end
end Mine
namespace Mine
open PySem PySem.W PySem.Challenge PySem.Calls PyProof.Rows

/-- a tuple of tuples of three ints -/
noncomputable def Is33 (K : Addr → Obj → Prop) (T : Addr) (xs : List I3) : Prop :=
  ∃ o items n, K T o ∧ o.cls = .type "tuple" ∧ o.data = .seq items n ∧ items.size = xs.length ∧ ∀ (i : Nat) (v : Value), items[i]? = some v → ∃ Ti oi x, v = .ref Ti ∧ K Ti oi ∧ Is3 oi x ∧ xs[i]? = some x
theorem Is33.mono {K K' : Addr → Obj → Prop} {T : Addr} {xs : List I3} (h : Is33 K T xs) (k : ∀ b o, K b o → K' b o) : Is33 K' T xs :=
  let ⟨o, items, n, a, b, c, d, e⟩ := h; ⟨o, items, n, k _ _ a, b, c, d, fun i v hv => let ⟨Ti, oi, x, p, q, r⟩ := e i v hv; ⟨Ti, oi, x, p, k _ _ q, r⟩⟩

theorem none_of_keeps {h h' : Heap} {b : Addr} (k : ∀ b o, h.get? b = some o → h'.get? b = some o) (e : h'.get? b = none) : h.get? b = none := by
  cases g : h.get? b with
  | none => rfl
  | some o => rw [k _ _ g] at e; cases e

section
variable {w : World} {A : Around} {E : Value → Shared → Prop} {s : Shared} {n : Nat}

/-- what evaluating a display of three ints does -/
noncomputable def Ev3 (w : World) (A : Around) (E : Value → Shared → Prop) (env : Env) (m : Str → Option Value) (e : Expr) (x : I3) : Prop :=
  ∀ (s : Shared) (K : Addr → Obj → Prop) (Q : Value → Shared → Prop), Fx K env.locals s.heap m →
    (∀ h' T o, Fx (fun b o' => K b o' ∨ (b = T ∧ o' = o)) env.locals h' m → (∀ b o, s.heap.get? b = some o → h'.get? b = some o) → Is3 o x → s.heap.get? T = none → Q (.ref T) { s with heap := h' }) →
    wpAny (model pw w) A (eval e env) Q E s

theorem disp33 {env : Env} {e1 e2 e3 : Expr} {tp : Pos} {kt : Nat} {x1 x2 x3 : I3} {K : Addr → Obj → Prop} {m : Str → Option Value} {Q : Value → Shared → Prop}
    (F : Fx K env.locals s.heap m) (h1 : Ev3 w A E env m e1 x1) (h2 : Ev3 w A E env m e2 x2) (h3 : Ev3 w A E env m e3 x3)
    (h : ∀ h' T K', (∀ b o, K b o → K' b o) → (∀ b o, K' b o → K b o ∨ s.heap.get? b = none) → Fx K' env.locals h' m → (∀ b o, s.heap.get? b = some o → h'.get? b = some o) → Is33 K' T [x1, x2, x3] → Q (.ref T) { s with heap := h' })
    (ht : backTo tp (starEach [e1, e2, e3] env) = [(false, eval e1 env), (false, eval e2 env), (false, eval e3 env)]) :
    wpAny (model pw w) A (eval (.Tuple [e1, e2, e3] kt tp) env) Q E s := by
  refine tup3 ht ?_
  refine h1 s K _ F fun k1 T1 o1 F1 u1 i1 n1 => ?_
  try dsimp only
  refine h2 _ _ _ F1 fun k2 T2 o2 F2 u2 i2 n2 => ?_
  try dsimp only
  refine h3 _ _ _ F2 fun k3 T3 o3 F3 u3 i3 n3 => ?_
  try dsimp only
  refine newTupX F3 (fun k4 F4 u4 t4 => ?_) (by show 3 ≤ sizeLine; decide)
  try dsimp only at u1 u2 u3 u4 n2 n3 F4 ⊢
  refine h k4 _ _ (fun b o e => ?_) (fun b o e => ?_) F4 (fun b o e => u4 _ _ (u3 _ _ (u2 _ _ (u1 _ _ e)))) ?_
  · exact .inl (.inl (.inl (.inl e)))
  · rcases e with (((e | e) | e) | e) | e
    · exact .inl e
    · exact .inr (by rw [e.1]; exact n1)
    · exact .inr (by rw [e.1]; exact none_of_keeps u1 n2)
    · exact .inr (by rw [e.1]; exact none_of_keeps u1 (none_of_keeps u2 n3))
    · exact .inr (by rw [e.1]; exact none_of_keeps u1 (none_of_keeps u2 (none_of_keeps u3 (gone_of_size (Nat.le_refl _)))))
  · refine ⟨_, _, 0, .inr ⟨rfl, rfl⟩, rfl, rfl, rfl, fun i v hv => ?_⟩
    try dsimp only
    match i, hv with
    | 0, hv => simp at hv; exact ⟨T1, o1, x1, hv.symm, .inl (.inl (.inl (.inr ⟨rfl, rfl⟩))), i1, rfl⟩
    | 1, hv => simp at hv; exact ⟨T2, o2, x2, hv.symm, .inl (.inl (.inr ⟨rfl, rfl⟩)), i2, rfl⟩
    | 2, hv => simp at hv; exact ⟨T3, o3, x3, hv.symm, .inl (.inr ⟨rfl, rfl⟩), i3, rfl⟩
    | i + 3, hv => simp at hv

theorem get2E {env : Env} {nm : Str} {np apos cp pos : Pos} {ke : Expr} {kd : Nat} {K : Addr → Obj → Prop} {m : Str → Option Value} {d : Addr} {k : Int} {gs : List (Int × Value)} {gg : List (Int × Int)} {Q : Value → Shared → Prop}
    (F : Fx K env.locals s.heap m) (hm : m nm = some (.ref d)) (hkey : ∀ Q' : Value → Shared → Prop, (∀ u tk, Q' (.int k u) { s with toks := tk }) → wpAny (model pw w) A (eval ke env) Q' E s)
    (G : s.heap.DictOf (intKind pw w) d gs) (hgs : IPs gs gg) (hds : (d == sysModules) = false)
    (hk : env.scope.kind = .function) (hl : env.kindOf nm = some .local) (hd : (nm == ("__debug__" : Str)) = false)
    (ht : starEach [ke, .Constant (.int 0) kd cp] env = [(false, eval ke env), (false, eval (.Constant (.int 0) kd cp) env)]) (hline : (apos.endLine == pos.line) = true)
    (h : ∀ t tk, Q (.int ((getI gg k).getD 0) t) { s with toks := tk }) :
    wpAny (model pw w) A (eval (.Call (.Attribute (.Name nm np) (Str.ofString "get") apos) [ke, .Constant (.int 0) kd cp] [] pos) env) Q E s := by
  refine Call_method2 (by with_unfolding_all rfl) ht hline ?_
  refine wpAny_Name (wpAny_loadName_local hk hl F.ns hm ?_) hd
  refine ⟨"dict", "dict.get", PySem.F.plainAttrs_dict, PySem.F.slot_dict_get, PySem.F.type_dict_get, G.typeIs, G.mapOf.noDict, ?_⟩
  refine wpAny_dict_get2 (knd := intKind pw w) hds ?_
  refine hkey _ fun u tk => ?_
  try dsimp only
  refine wpAny_Constant_int ?_
  refine ⟨k, _, intKind_is _ _ _ _, G.mapOf, ?_⟩
  obtain ⟨t', e⟩ := got_int hgs k tk
  try dsimp only
  rw [e]
  exact h _ _

theorem zip_gl (P : Params) : gl P (Str.ofString "zip") = none := by kernel_rfl
theorem zip_bl (P : Params) : bl P (Str.ofString "zip") = some (.type "zip") := by kernel_rfl

theorem nm2 {a b c : Nat} (h1 : a ≠ b) (h2 : a ≠ c) : a ∉ [b, c] := by simp [h1, h2]
theorem zipOffN (S g o : Nat) (hg : g < S) (ho : o < S) : ZipOff (S + 4) (S + 2) (S + 3) S (S + 1) [S, g] [S + 1, o] := by
  refine hideG fun GG hGG => ?_
  try dsimp only
  have h : S + 2 ≠ S + 4 ∧ S + 3 ≠ S + 4 ∧ S + 2 ≠ S + 3 ∧ S + 4 ≠ S ∧ S + 4 ≠ g ∧ S + 4 ≠ S + 1 ∧ S + 4 ≠ o ∧ S + 3 ≠ S ∧ S + 3 ≠ g ∧ S + 3 ≠ S + 1 ∧ S + 3 ≠ o ∧ S + 2 ≠ S ∧ S + 2 ≠ g ∧ S + 2 ≠ S + 1 ∧ S + 2 ≠ o ∧ S ≠ S + 1 ∧ S ≠ o ∧ S + 1 ≠ S ∧ S + 1 ≠ g := by
    refine ⟨?_, ?_, ?_, ?_, ?_, ?_, ?_, ?_, ?_, ?_, ?_, ?_, ?_, ?_, ?_, ?_, ?_, ?_, ?_⟩ <;> lia
  obtain ⟨a1, a2, a3, a4, a5, a6, a7, a8, a9, b1, b2, b3, b4, b5, b6, b7, b8, b9, c1⟩ := h
  subst hGG
  exact ⟨a1, a2, a3, nm2 a4 a5, nm2 a6 a7, nm2 a8 a9, nm2 b1 b2, nm2 b3 b4, nm2 b5 b6, List.mem_cons_self .., List.mem_cons_self .., nm2 b7 b8, nm2 b9 c1⟩
theorem zipLow (S g o : Nat) (hg : g < S) (ho : o < S) : ∀ b ∈ (S + 4) :: (S + 2) :: (S + 3) :: ([S, g] ++ [S + 1, o]), b < S + 5 := by
  intro b hb
  simp only [List.mem_cons, List.mem_append, List.not_mem_nil, or_false] at hb
  lia
theorem zipHigh (S : Nat) : ∀ b ∈ [S + 4, S + 3, S, S + 1], S ≤ b := by
  intro b hb
  simp only [List.mem_cons, List.not_mem_nil, or_false] at hb
  lia

/-- there - here of two tuples of three ints -/
theorem stepsComp {env : Env} {g o : Addr} {og oo : Obj} {x y : I3} {scope : Scope} {px py tp p p1 p2 cp pos a1 a2 a3 pz spos : Pos} {kt : Nat} {K : Addr → Obj → Prop} {m : Str → Option Value} {Q : Flow → Shared → Prop}
    (hsw : swapsWith (.ListComp (.BinOp (.Name (Str.ofString "there") a1) .Sub (.Name (Str.ofString "here") a2) a3)
      [⟨.Tuple [.Name (Str.ofString "there") px, .Name (Str.ofString "here") py] kt tp, .Call (.Name (Str.ofString "zip") p) [.Name (Str.ofString "goal") p1, .Name (Str.ofString "order") p2] [] cp, [], 0⟩] scope pos) (some (.Name (Str.ofString "steps") pz)) spos.line env = pure true)
    (lz : env.kindOf (Str.ofString "steps") = some .local) (hp : (env.scope.kind == .class || (env.scope.kind == .module && env.locals != env.globals)) = false)
    (T : TopH w s.heap) (hh : A.handled = none) (F : Fx K env.locals s.heap m) (hg : K g og) (ho : K o oo) (ig : Is3 og x) (io : Is3 oo y) (mg : m (Str.ofString "goal") = some (.ref g)) (mo : m (Str.ofString "order") = some (.ref o))
    (hk : env.scope.kind = .function) (hz : env.kindOf (Str.ofString "zip") = some .globalImplicit) (lg : env.kindOf (Str.ofString "goal") = some .local) (lo : env.kindOf (Str.ofString "order") = some .local) (hgl : env.globals = mainGlobals) (hbl : env.builtins = builtinsNs)
    (ht : backTo cp (starEach [.Name (Str.ofString "goal") p1, .Name (Str.ofString "order") p2] env) = [(false, eval (.Name (Str.ofString "goal") p1) env), (false, eval (.Name (Str.ofString "order") p2) env)])
    (hclos : closureFor scope env = pure []) (hcell : (scope.names.all fun y => decide (y.2 ≠ .cell)) = true) (hkind : scope.kind = .function)
    (hnames : (scope.names.all fun y => decide (y.2 ≠ .local) || decide (scope.names.lookup y.1 = some .local)) = true) (hx : scope.names.lookup (Str.ofString "there") = some .local) (hy : scope.names.lookup (Str.ofString "here") = some .local)
    (hs : ∀ x, foldedSetIterable (.Call (.Name (Str.ofString "zip") p) [.Name (Str.ofString "goal") p1, .Name (Str.ofString "order") p2] [] cp) env x = pure x)
    (h : ∀ h' D vs tk, Fx K env.locals h' (fun q => if q = Str.ofString "steps" then some (.ref D) else m q) → (∀ b o, b ≠ env.locals → s.heap.get? b = some o → h'.get? b = some o) → s.heap.get? D = none → h'.PlainList D vs.toArray → IntsAre vs [x.1 - y.1, x.2.1 - y.2.1, x.2.2 - y.2.2] → s.toks ≤ tk → Q .next { s with heap := h', toks := tk }) :
    wpAny (model pw w) A (exec (.Assign [.Name (Str.ofString "steps") pz] (.ListComp (.BinOp (.Name (Str.ofString "there") a1) .Sub (.Name (Str.ofString "here") a2) a3)
      [⟨.Tuple [.Name (Str.ofString "there") px, .Name (Str.ofString "here") py] kt tp, .Call (.Name (Str.ofString "zip") p) [.Name (Str.ofString "goal") p1, .Name (Str.ofString "order") p2] [] cp, [], 0⟩] scope pos) spos) env) Q E s := by
  refine hideG fun GG hGG => ?_
  try dsimp only
  obtain ⟨tx, ux, vx, IT⟩ := ig.tup (F.keep _ _ hg)
  obtain ⟨ty, uy, vy, IU⟩ := io.tup (F.keep _ _ ho)
  subst hGG
  refine compA (cl := []) (K₀ := K) hh hsw lz hp hclos hcell hkind hnames hx hy (by decide) hs ?_
  refine tcall2 T (zip_gl _) (zip_bl _) ht ?_ hk hz (by decide) hgl hbl
  refine ldE F mg ?_ hk lg
  refine ldE F mo ?_ hk lo
  refine zipCall IT IU fun h₁ z TI TO i1 i2 zz zI zO t1 t2 e1 e2 e3 e4 e5 sz k₁ => ?_
  try dsimp only
  refine wpAny_pyIter_zip zz ?_
  have glt : g < s.heap.objs.size := Heap.lt_size (F.keep _ _ hg)
  have olt : o < s.heap.objs.size := Heap.lt_size (F.keep _ _ ho)
  have n1 : g ≠ i1 := by rw [e1]; exact Nat.ne_of_lt glt
  have n2 : o ≠ i2 := by rw [e2]; exact Nat.ne_of_lt (Nat.lt_succ_of_lt olt)
  generalize hS : s.heap.objs.size = S at *
  have D1 := drawsTup (prog := pw) (w := w) (A := A.in1) hh i1 g n1 #[.int x.1 tx, .int x.2.1 ux, .int x.2.2 vx]
  have D2 := drawsTup (prog := pw) (w := w) (A := A.in1) hh i2 o n2 #[.int y.1 ty, .int y.2.1 uy, .int y.2.2 vy]
  have O : ZipOff z TI TO i1 i2 [i1, g] [i2, o] := by
    subst e1 e2 e3 e4 e5
    exact zipOffN i1 g o glt olt
  have newN : ∀ b ∈ [z, TO, i1, i2], ∀ o', ¬ kp s.heap b o' := fun b hb o' e => by
    subst e1 e2 e3 e4 e5
    have := Heap.lt_size e
    rw [hS] at this
    exact absurd (zipHigh i1 b hb) (Nat.not_le.mpr this)
  refine ⟨z, _, _, 3, _, _, _, kp s.heap, fun i h vs => IntsAre vs ([x.1 - y.1, x.2.1 - y.2.1, x.2.2 - y.2.2].take i), m, rfl, ?_, ?_, ?_, F.keeps k₁, ⟨zipU O D1 D2, ?_, by decide, ⟨zz, zI, ⟨_, _, zO⟩, ⟨t1, tupAt IT fun _ e => k₁ _ _ e⟩, ⟨t2, tupAt IU fun _ e => k₁ _ _ e⟩⟩, ?_, ?_, ?_, ?_, .nil, ?_, ?_⟩⟩
  · intro C o e e'
    have e' : s.heap.get? C = some o := e'
    have e : h₁.get? C = none := e
    rw [k₁ _ _ e'] at e; cases e
  · exact fun b o e => F.keep b o e
  · intro o e
    obtain ⟨oL, _, _, eL, _⟩ := F.ns
    rw [k₁ _ _ eL] at e; cases e; exact eL
  · rintro i vals ⟨a, b, _, _, rfl⟩; exact ⟨a, b, rfl⟩
  · intro b hb
    try dsimp only
    rw [sz]
    subst e1 e2 e3 e4 e5
    exact zipLow i1 g o glt olt b hb
  · exact fun b o e => k₁ b o e
  · exact newN
  · exact fun _ _ _ _ e _ => e
  · rintro i a b tk m₂ h₂ C vs K' hK hK' hC hi htk J0J hJ hlen F₂ ma mb
    refine hideG fun GG hGG => ?_
    try dsimp only
    obtain ⟨a', b', pa, pb, hab⟩ := J0J
    simp only [Array.mk.injEq, List.cons.injEq, and_true] at hab
    obtain ⟨rfl, rfl⟩ := hab
    subst hGG
    refine wpAny_BinOp ?_
    refine ldE (env := compEnvC scope [] C env) F₂ ma ?_ hkind (lookup_relabel_local hx)
    refine ldE (env := compEnvC scope [] C env) F₂ mb ?_ hkind (lookup_relabel_local hy)
    match i, hi, pa, pb, hJ, hlen with
    | 0, _, pa, pb, hJ, hlen =>
      simp at pa pb; subst pa pb
      cases vs with
      | nil => exact P.sub_int ⟨_, _, _, rfl, F₂, .cons _ _ .nil⟩
      | cons _ _ => simp at hlen
    | 1, _, pa, pb, hJ, hlen =>
      simp at pa pb; subst pa pb
      cases hJ with
      | cons _ _ hJ => cases hJ with
        | nil => exact P.sub_int ⟨_, _, _, rfl, F₂, .cons _ _ (.cons _ _ .nil)⟩
    | 2, _, pa, pb, hJ, hlen =>
      simp at pa pb; subst pa pb
      cases hJ with
      | cons _ _ hJ => cases hJ with
        | cons _ _ hJ => cases hJ with
          | nil => exact P.sub_int ⟨_, _, _, rfl, F₂, .cons _ _ (.cons _ _ (.cons _ _ .nil))⟩
  · rintro h₂ tk C D vs m₂ htk hk₂ hD hC hDC hn PD hJ
    exact ⟨h₂, D, vs, m₂, tk, rfl, rfl, hDC, hn, PD, hD, fun h₃ F₃ k₃ P₃ => h h₃ D vs (tk + 1) F₃ k₃ (none_of_keeps k₁ hD) P₃ hJ (Nat.le_succ_of_le (Nat.le_trans (Nat.le_refl _) htk))⟩

theorem min_gl (P : Params) : gl P (Str.ofString "min") = none := by kernel_rfl
theorem min_bl (P : Params) : bl P (Str.ofString "min") = some (.builtin "min") := by kernel_rfl

theorem disp3n {env : Env} {x y z : Str} {px py pz tp : Pos} {kt : Nat} {a b c : Int} {ta tb tc : Tok} {m : Str → Option Value} 
    (ex : m x = some (.int a ta)) (ey : m y = some (.int b tb)) (ez : m z = some (.int c tc))
    (hk : env.scope.kind = .function) (hx : env.kindOf x = some .local) (hy : env.kindOf y = some .local) (hz : env.kindOf z = some .local)
    (dx : (x == ("__debug__" : Str)) = false) (dy : (y == ("__debug__" : Str)) = false) (dz : (z == ("__debug__" : Str)) = false)
    (ht : backTo tp (starEach [.Name x px, .Name y py, .Name z pz] env) = [(false, eval (.Name x px) env), (false, eval (.Name y py) env), (false, eval (.Name z pz) env)]) :
    Ev3 w A E env m (.Tuple [.Name x px, .Name y py, .Name z pz] kt tp) (a, b, c) :=
  fun _ _ _ F h => disp3 F ex ey ez h hk hx hy hz dx dy dz ht

/-- the names and things of _law_often -/
structure OJ (g d : Addr) (tot : Int) (m : Str → Option Value) : Prop where
  goal : m (Str.ofString "goal") = some (.ref g)
  ways : m (Str.ofString "ways") = some (.ref d)
  total : ∃ t, m (Str.ofString "total") = some (.int tot t)

theorem OJ.cast {g d : Addr} {a b : Int} {m : Str → Option Value} (e : a = b) (j : OJ g d b m) : OJ g d a m := e ▸ j
theorem same_obj {h : Heap} {K : Addr → Obj → Prop} {L T : Addr} {m : Str → Option Value} {o o' : Obj} (F : Fx K L h m) (a : K T o) (b : K T o') : o = o' := by
  have := F.keep _ _ a; rw [F.keep _ _ b] at this; exact (Option.some.inj this).symm
theorem oftenIn_succ {ws : List (Int × Int)} {g : I3} {sg tot : Int} {os : List I3} {i : Nat} {o : I3} (h : os[i]? = some o) : oftenIn ws g sg (os.take (i + 1)) tot = oftenAt ws g sg (oftenIn ws g sg (os.take i) tot) o := by
  unfold oftenIn; rw [take_one h, List.foldl_append]; rfl
theorem sgBits {sg : Int} (h : sg = 1 ∨ sg = -1) : Builtin.Int.intBits sg ≤ 64 := by rcases h with rfl | rfl <;> decide

theorem often_call {g st d : Addr} {x y : I3} {og os : Obj} {ws : List (Int × Int)} {Q : Value → Shared → Prop} (T : TopH w s.heap) (hr : Room A (n + 1))
    (hg : s.heap.get? g = some og) (ig : Is3 og x) (hs : s.heap.get? st = some os) (is : Is3 os y) (D : IntD w s.heap d ws) (hds : (d == sysModules) = false)
    (h : ∀ h' t tk, (∀ b o, s.heap.get? b = some o → h'.get? b = some o) → s.toks ≤ tk → Q (.int (often ws x y) t) { s with heap := h', toks := tk }) :
    wpAny (model pw w) A (call (.ref 210) [.ref g, .ref st, .ref d]) Q E s := by
  refine wpAny_call (codeAny_with_toks (Nat.le_refl _) (enterX [Str.ofString "goal", Str.ofString "start", Str.ofString "ways"] T hr (fnOften _) (by kernel_rfl) (by kernel_rfl) (fun pm => by kernel_rfl) (by kernel_rfl) (by kernel_rfl) (by kernel_rfl) (fun h₁ tk htk F T₁ hr₁ => ?_)))
  try dsimp only
  refine hideG fun GG hGG => ?_
  try dsimp only
  have hh := hr₁.handled
  obtain ⟨ty, uy, vy, IS⟩ := is.tup (F.keep _ _ hs)
  subst hGG
  refine wpAny_execs_cons ?_
  refine Assign_Tuple ?_ (by kernel_rfl) (by kernel_rfl)
  refine ldE F rfl ?_
  refine asg3 hh F IS (fun h₂ F₂ _ => ?_) (by kernel_rfl) (by kernel_rfl) (by kernel_rfl) (by kernel_rfl)
  refine wpAny_execs_cons ?_
  refine wpAny_Assign_Name ?_ (by kernel_rfl)
  refine disp33 F₂ (disp3n rfl rfl rfl (by kernel_rfl) (by kernel_rfl) (by kernel_rfl) (by kernel_rfl) (by decide) (by decide) (by decide) (by kernel_rfl)) (disp3n rfl rfl rfl (by kernel_rfl) (by kernel_rfl) (by kernel_rfl) (by kernel_rfl) (by decide) (by decide) (by decide) (by kernel_rfl)) (disp3n rfl rfl rfl (by kernel_rfl) (by kernel_rfl) (by kernel_rfl) (by kernel_rfl) (by decide) (by decide) (by decide) (by kernel_rfl)) (fun h₃ Te K₃ hK₃ hK₃' F₃ k₃ I₃ => ?_) (by kernel_rfl)
  refine stx F₃ fun h₄ F₄ _ => ?_
  try dsimp only
  refine wpAny_execs_cons ?_
  refine wpAny_Assign_Name ?_ (by kernel_rfl)
  refine disp33 F₄ (disp3n rfl rfl rfl (by kernel_rfl) (by kernel_rfl) (by kernel_rfl) (by kernel_rfl) (by decide) (by decide) (by decide) (by kernel_rfl)) (disp3n rfl rfl rfl (by kernel_rfl) (by kernel_rfl) (by kernel_rfl) (by kernel_rfl) (by decide) (by decide) (by decide) (by kernel_rfl)) (disp3n rfl rfl rfl (by kernel_rfl) (by kernel_rfl) (by kernel_rfl) (by kernel_rfl) (by decide) (by decide) (by decide) (by kernel_rfl)) (fun h₅ To K₅ hK₅ hK₅' F₅ k₅ I₅ => ?_) (by kernel_rfl)
  refine stx F₅ fun h₆ F₆ _ => ?_
  try dsimp only
  refine wpAny_execs_cons ?_
  refine wpAny_Assign_Name ?_ (by kernel_rfl)
  refine wpAny_Constant_int ?_
  refine stx F₆ fun h₇ F₇ _ => ?_
  try dsimp only
  refine wpAny_execs_cons ?_
  refine wpAny_For ?_ (by intro _; kernel_rfl)
  refine tup2 (by kernel_rfl) ?_
  refine tup2 (by kernel_rfl) ?_
  refine wpAny_Constant_int ?_
  refine ldE F₇ rfl ?_
  refine newTupX F₇ (fun h₈ F₈ k₈ t₈ => ?_) (by show 2 ≤ sizeLine; decide)
  refine tup2 (by kernel_rfl) ?_
  refine wpAny_UnaryOp ?_
  refine wpAny_Constant_int ?_
  refine P.neg_int ?_
  refine ldE F₈ rfl ?_
  refine newTupX F₈ (fun h₉ F₉ k₉ t₉ => ?_) (by show 2 ≤ sizeLine; decide)
  refine newTupX F₉ (fun h₁₀ F₁₀ k₁₀ t₁₀ => ?_) (by show 2 ≤ sizeLine; decide)
  try dsimp only at F₈ F₉ F₁₀ ⊢
  have hx1 : s.toks ≤ tk := htk
  refine tupLoop2 (K := _) hh (.inr ⟨rfl, rfl⟩) rfl ⟨_, rfl⟩ (by kernel_rfl) (by kernel_rfl) (by kernel_rfl) ?_ F₁₀
    (fun i _ m => OJ g d (if i = 0 then 0 else if i = 1 then oftenIn ws x 1 (evenL y.1 y.2.1 y.2.2) 0 else often ws x y) m) (fun _ _ _ _ e _ => e) ⟨rfl, rfl, _, rfl⟩ ?_ ?_
  · intro i v hv
    match i, hv with
    | 0, hv => simp at hv; exact ⟨_, _, _, _, _, hv.symm, .inl (.inl (.inr ⟨rfl, rfl⟩)), rfl, rfl⟩
    | 1, hv => simp at hv; exact ⟨_, _, _, _, _, hv.symm, .inl (.inr ⟨rfl, rfl⟩), rfl, rfl⟩
    | i + 2, hv => simp at hv
  · rintro i Tt oT a b nT tk₁₁ m₁₁ h₁₁ K₁₁ hK₁₁ hK₁₁' hi hKT hdT htk₁₁ J₁₁ F₁₁
    refine hideG fun GG hGG => ?_
    try dsimp only
    have old₁₁ : ∀ b o, s.heap.get? b = some o → K₁₁ b o := fun b o e => hK₁₁ b o (.inl (.inl (.inl (hK₅ _ _ (hK₃ _ _ e)))))
    have key : ∃ sg os tsg To', (sg = 1 ∨ sg = -1) ∧ a = .int sg tsg ∧ b = .ref To' ∧ Is33 K₁₁ To' os ∧
        (if i + 1 = 0 then 0 else if i + 1 = 1 then oftenIn ws x 1 (evenL y.1 y.2.1 y.2.2) 0 else often ws x y) = oftenIn ws x sg os (if i = 0 then 0 else if i = 1 then oftenIn ws x 1 (evenL y.1 y.2.1 y.2.2) 0 else often ws x y) := by
      match i, hi with
      | 0, hi =>
        simp at hi
        subst hi
        have e := same_obj F₁₀ hKT (.inl (.inl (.inr ⟨rfl, rfl⟩)))
        rw [e] at hdT
        cases hdT
        exact ⟨1, _, _, Te, .inl rfl, rfl, rfl, I₃.mono fun b o e => hK₁₁ b o (.inl (.inl (.inl (hK₅ _ _ e)))), by simp [evenL]⟩
      | 1, hi =>
        simp at hi
        subst hi
        have e := same_obj F₁₀ hKT (.inl (.inr ⟨rfl, rfl⟩))
        rw [e] at hdT
        cases hdT
        exact ⟨-1, _, _, To, .inr rfl, rfl, rfl, I₅.mono fun b o e => hK₁₁ b o (.inl (.inl (.inl e))), by simp [often, oddL, evenL]⟩
      | i + 2, hi => simp at hi
    obtain ⟨sg, os', tsg, To', hsg, rfl, rfl, I₁₁, htot⟩ := key
    obtain ⟨tot, htt⟩ : ∃ tot, (if i = 0 then (0 : Int) else if i = 1 then oftenIn ws x 1 (evenL y.1 y.2.1 y.2.2) 0 else often ws x y) = tot := ⟨_, rfl⟩
    rw [htt] at htot
    rw [htt] at J₁₁
    obtain ⟨Jg, Jw, tt, et⟩ := J₁₁
    obtain ⟨oo, items, nn, hKo, hco, hdo, hsz, hit⟩ := I₁₁
    subst hGG
    refine wpAny_execs_cons ?_
    refine wpAny_For ?_ (by intro _; kernel_rfl)
    refine ldE F₁₁ rfl ?_
    refine tupLoop (K := K₁₁) hh hKo hco ⟨nn, hdo⟩ (by kernel_rfl) (by kernel_rfl) F₁₁ (fun j _ m => OJ g d (oftenIn ws x sg (os'.take j) tot) m ∧ ∃ t, m (Str.ofString "sign") = some (.int sg t)) (fun _ _ _ _ e _ => e)
      ⟨⟨Jg, Jw, tt, et⟩, _, rfl⟩ ?_ ?_
    · rintro j v tk₁₂ m₁₂ h₁₂ K₁₂ hK₁₂ hK₁₂' - hv htk₁₂ J0J F₁₂
      refine hideG fun GG hGG => ?_
      try dsimp only
      obtain ⟨⟨Jg, Jw, tt, et⟩, ts, es⟩ := J0J
      obtain ⟨Ti, oi, xo, rfl, hKi, ii, hxo⟩ := hit j v hv
      have T₁₂ : TopH w h₁₂ := F₁₂.top T fun b o e => hK₁₂ _ _ (old₁₁ b o e)
      subst hGG
      try dsimp only
      refine wpAny_execs_cons ?_
      refine stepsComp (K := K₁₂) (by kernel_rfl) (by kernel_rfl) (by kernel_rfl) T₁₂ hh F₁₂ (hK₁₂ _ _ (old₁₁ _ _ hg)) (hK₁₂ _ _ hKi) ig ii Jg rfl (by kernel_rfl) (by kernel_rfl) (by kernel_rfl) (by kernel_rfl) rfl rfl (by kernel_rfl) (by kernel_rfl) (by kernel_rfl) (by kernel_rfl) (by kernel_rfl) (by kernel_rfl) (by kernel_rfl) (by intro _; kernel_rfl) (fun h₁₄ D₁ vs tk₁₃ F₁₄ k₁₃ nD PD iv htk₁₃ => ?_)
      try dsimp only
      have T₁₄ : TopH w h₁₄ := F₁₄.top T fun b o e => hK₁₂ _ _ (old₁₁ b o e)
      refine wpAny_execs_cons ?_
      refine wpAny_If ?_
      refine wpAny_isTrue_Compare1 ?_
      refine bcall1 T₁₄ (min_gl _) (min_bl _) (by kernel_rfl) ?_ (by kernel_rfl) (by kernel_rfl) (by kernel_rfl) rfl rfl
      refine ldE F₁₄ rfl ?_
      refine minX hh PD.isList iv (by simp) fun h₁₅ M tM tk₁₅ k₁₅ hM hmin => ?_
      try dsimp only
      have F₁₅ := F₁₄.keeps k₁₅
      have PD₁₅ : h₁₅.PlainList D₁ vs.toArray := PD.at fun o e => k₁₅ _ o e
      try dsimp only
      refine wpAny_Constant_int ?_
      refine P.ge_int ?_
      refine wpAny_truthy_bool ?_
      have hM3 : (M ≥ 0) ↔ (0 ≤ x.1 - xo.1 ∧ 0 ≤ x.2.1 - xo.2.1 ∧ 0 ≤ x.2.2 - xo.2.2) := by
        constructor
        · intro hp
          have a1 := hmin _ (List.mem_cons_self ..)
          have a2 := hmin _ (List.mem_cons_of_mem _ (List.mem_cons_self ..))
          have a3 := hmin _ (List.mem_cons_of_mem _ (List.mem_cons_of_mem _ (List.mem_cons_self ..)))
          lia
        · rintro ⟨a1, a2, a3⟩
          simp only [List.mem_cons, List.not_mem_nil, or_false] at hM
          lia
      by_cases hp : M ≥ 0
      · rw [decide_eq_true hp]
        refine wpAny_execs_cons ?_
        refine wpAny_AugAssign_Name ?_
        refine ldnE F₁₅ et ?_
        refine wpAny_BinOp ?_
        refine ldE F₁₅ es ?_
        refine hideG fun GG hGG => ?_
        try dsimp only
        obtain ⟨vsD, D', hvsD⟩ : IntD w h₁₅ d ws := by
          obtain ⟨vsD, ⟨od, es', ep, hod, r⟩, hvsD⟩ := D
          exact ⟨vsD, ⟨od, es', ep, F₁₅.keep _ _ (hK₁₂ _ _ (old₁₁ _ _ hod)), r⟩, hvsD⟩
        subst hGG
        refine get2E (k := 1024 * (x.1 - xo.1) + 32 * (x.2.1 - xo.2.1) + (x.2.2 - xo.2.2)) F₁₅ Jw ?_ D' hvsD hds (by kernel_rfl) (by kernel_rfl) (by kernel_rfl) (by kernel_rfl) (by kernel_rfl) fun tg tkg => ?_
        · intro Q' hq
          refine wpAny_BinOp ?_
          refine wpAny_BinOp ?_
          refine wpAny_BinOp ?_
          refine wpAny_Constant_int ?_
          refine itemL (c := 0) (fun Q'' hq' => ldE F₁₅ rfl hq') PD₁₅.isList iv rfl (by decide) (by intro _ _; rfl) fun t1 => ?_
          try dsimp only
          refine P.mul_int ?_ (IntMulOk.of_left (by decide))
          refine wpAny_BinOp ?_
          refine wpAny_Constant_int ?_
          refine itemL (c := 1) (fun Q'' hq' => ldE F₁₅ rfl hq') PD₁₅.isList iv rfl (by decide) (by intro _ _; rfl) fun t2 => ?_
          try dsimp only
          refine P.mul_int ?_ (IntMulOk.of_left (by decide))
          refine P.add_int ?_
          refine itemL (c := 2) (fun Q'' hq' => ldE F₁₅ rfl hq') PD₁₅.isList iv rfl (by decide) (by intro _ _; rfl) fun t3 => ?_
          try dsimp only
          refine P.add_int ?_
          exact hq _ _
        refine P.mul_int ?_ (IntMulOk.of_left (sgBits hsg))
        refine wpAny_iadd_int ?_
        refine stx F₁₅ fun h₁₆ F₁₆ _ => ?_
        try dsimp only
        refine wpAny_execs_nil ?_
        exact wpAny_execs_nil ⟨_, _, _, rfl, F₁₆, OJ.cast ((oftenIn_succ hxo).trans (if_pos (hM3.mp hp))) ⟨Jg, Jw, _, rfl⟩, _, es⟩
      · rw [decide_eq_false hp]
        refine wpAny_execs_nil ?_
        exact wpAny_execs_nil ⟨_, _, _, rfl, F₁₅, OJ.cast ((oftenIn_succ hxo).trans (if_neg (fun e => hp (hM3.mpr e)))) ⟨Jg, Jw, _, et⟩, _, es⟩
    · rintro h₁₂ tk₁₂ m₁₂ htk₁₂ F₁₂ J0J
      refine hideG fun GG hGG => ?_
      try dsimp only
      obtain ⟨⟨Jg, Jw, tt, et⟩, ts, es⟩ := J0J
      subst hGG
      refine wpAny_execs_nil ⟨_, _, _, rfl, F₁₂, ?_⟩
      rw [htot]
      have e : os'.take items.size = os' := List.take_of_length_le (by rw [hsz]; exact Nat.le_refl _)
      rw [e] at et
      exact ⟨Jg, Jw, tt, et⟩
  · rintro h₁₁ tk₁₁ m₁₁ htk₁₁ F₁₁ J0J
    refine hideG fun GG hGG => ?_
    try dsimp only
    obtain ⟨-, -, tt, et⟩ := J0J
    subst hGG
    refine wpAny_execs_cons ?_
    refine wpAny_Return_some ?_
    refine ldE F₁₁ et ?_
    exact fun hle => h _ _ _ (fun b o e => F₁₁.keep _ _ (.inl (.inl (.inl (hK₅ _ _ (hK₃ _ _ e)))))) hle
end
end Mine
namespace Mine
open PySem PySem.W PySem.Challenge PySem.Calls PyProof.Rows

section
variable {w : World} {A : Around} {E : Value → Shared → Prop} {s : Shared}

theorem newListP {K : Addr → Obj → Prop} {L : Addr} {m : Str → Option Value} {vs : List Value} {Q : Value → Shared → Prop} (F : Fx K L s.heap m)
    (h : ∀ h', Fx K L h' m → (∀ b o, s.heap.get? b = some o → h'.get? b = some o) → h'.PlainList s.heap.objs.size vs.toArray → Q (.ref s.heap.objs.size) { s with heap := h' }) (hsz : vs.length ≤ sizeLine) :
    wpAny (model pw w) A (newList vs) Q E s :=
  wpAny_newObj_type (h _ (F.push _) (fun _ _ e => Heap.get?_push_of_some _ e) ⟨_, Heap.get?_push_size _ rfl⟩) (by show vs.toArray.size ≤ sizeLine; rw [List.size_toArray]; exact hsz)

/-- a list of one, some times -/
theorem mulListX {l : Addr} {v : Value} {x : Int} {u : Tok} {Q : Value → Shared → Prop} (hl : s.heap.PlainList l #[v]) (hlo : -1000 ≤ x) (hhi : x ≤ 1000)
    (h : ∀ h', (∀ b o, s.heap.get? b = some o → h'.get? b = some o) → h'.PlainList s.heap.objs.size (List.replicate x.toNat v).toArray → Q (.ref s.heap.objs.size) { s with heap := h' }) :
    wpAny (model pw w) A (binaryOp .Mult (.ref l) (.int x u)) Q E s := by
  obtain ⟨k, hl⟩ := hl
  refine wpAny_binaryOp_repeat_ref (T := "list") (U := "int") (by decide) ⟨_, hl, rfl⟩ (fun s' => typeIs_int s' x u) noFill_list_mul F.fills_int_mul F.slot_int_rmul repeat_list F.slot_int_index.lookup ?_
  refine call_meets F.slot_int_rmul (typeIs_int s x u) F.entry_int_rmul (F.args_int_rmul_2 _ _) (int___rmul___int_list x u l #[v] k) ⟨hl, rfl, ⟨_, hl, rfl⟩, ?_⟩
  refine call_meets F.slot_list_mul ⟨_, hl, rfl⟩ F.entry_list_mul (F.args_list_mul_2 _ _) (AutoListH.list___mul___list_int_3 l #[v] k x u (by simp [Builtin.List.listFitsIndex]; omega) (by simp; omega) (by simp [Builtin.List.listTooLong, sizeLine]; omega)) ⟨hl, ?_⟩
  have e : List.foldl (fun x1 x2 => x1 ++ x2) #[] (List.replicate (if (#[v] : Array Value).isEmpty = true then 0 else x.toNat) #[v]) = (List.replicate x.toNat v).toArray := by
    rw [listMul_foldl_if]
    congr 1
    generalize x.toNat = n
    induction n with
    | zero => rfl
    | succ n ih => rw [List.replicate_succ, List.flatten_cons, ih]; rfl
  refine h _ (fun b o e => Heap.get?_push_of_some _ e) ⟨0, (Heap.get?_push_size _ rfl).trans ?_⟩
  rw [e]

theorem extendX {D b : Addr} {ys its2 : List Value} {Q : Value → Shared → Prop} (hD : s.heap.PlainList D ys.toArray) (hb : s.heap.PlainList b its2.toArray)
    (h : ∀ h', h'.PlainList D (ys ++ its2).toArray → Heap.SameBut D s.heap h' → Q .none { s with heap := h' }) (hsz : ys.length + its2.length ≤ sizeLine) :
    wpAny (model pw w) A (call (.builtin "list.extend") [.ref D, .ref b]) Q E s := by
  obtain ⟨n, hD⟩ := hD
  obtain ⟨n2, hb⟩ := hb
  have hsz' : ys.toArray.size + its2.toArray.size ≤ sizeLine := by rw [List.size_toArray, List.size_toArray]; exact hsz
  refine call_meets PySem.F.slot_list_extend ⟨_, hD, rfl⟩ PySem.F.entry_list_extend (PySem.F.args_list_extend_2 _ _) (AutoSeq1.list_extend_list_list_0 D ys.toArray n b its2.toArray n2 (extend_door hsz') (Nat.le_trans (Nat.le_add_right _ _) hsz')) ⟨hD, hb, ?_⟩
  have e : ys.toArray ++ its2.toArray = (ys ++ its2).toArray := by simp
  refine h _ ⟨_, (Heap.get?_update_self _ hD (by rw [mapSeq_app]; rfl)).trans (by rw [mapSeq_app, e])⟩ (Heap.SameBut.update ..)

/-- a for over range(a, b) -/
theorem forRange2 {env : Env} {x : Str} {px p cp pos : Pos} {e1 e2 : Expr} {body : List Stmt} {n : Nat} {lo hi : Int} {K : Addr → Obj → Prop} {m₀ : Str → Option Value} {Q : Flow → Shared → Prop}
    (T : TopH w s.heap) (hh : A.handled = none) (hn : (hi - lo).toNat = n) (h1 : -(2 ^ 62) ≤ lo) (h2 : lo < 2 ^ 62) (h3 : -(2 ^ 62) ≤ hi) (h4 : hi < 2 ^ 62)
    (hx : env.kindOf x = some .local) (hp : (env.scope.kind == .class || (env.scope.kind == .module && env.locals != env.globals)) = false)
    (hk : env.scope.kind = .function) (hr : env.kindOf (Str.ofString "range") = some .globalImplicit) (hgl : env.globals = mainGlobals) (hbl : env.builtins = builtinsNs)
    (ht : backTo cp (starEach [e1, e2] env) = [(false, eval e1 env), (false, eval e2 env)])
    (hs : ∀ x, foldedSetIterable (.Call (.Name (Str.ofString "range") p) [e1, e2] [] cp) env x = pure x)
    (F : Fx K env.locals s.heap m₀)
    (he1 : ∀ Q' E' : Value → Shared → Prop, (∀ t tk, Q' (.int lo t) { s with toks := tk }) → wpAny (model pw w) A (eval e1 env) Q' E' s)
    (he2 : ∀ (Q' E' : Value → Shared → Prop) tk₀, (∀ t tk, Q' (.int hi t) { s with toks := tk }) → wpAny (model pw w) A (eval e2 env) Q' E' { s with toks := tk₀ })
    (J : Nat → Heap → (Str → Option Value) → Prop) (stable : ∀ i h h' m, J i h m → (∀ b o, b ≠ env.locals → s.heap.get? b ≠ none → h.get? b = some o → h'.get? b = some o) → J i h' m)
    (h0 : J 0 s.heap m₀)
    (step : ∀ i t tk m h₁ (K' : Addr → Obj → Prop), (∀ b o, K b o → K' b o) → (∀ b o, K' b o → K b o ∨ s.heap.get? b = none) → i < n → s.toks ≤ tk → J i h₁ m →
      Fx K' env.locals h₁ (fun y => if y = x then some (.int (lo + i) t) else m y) →
      wpAny (model pw w) A (execs body env) (Turn s K' env.locals (J (i + 1)) Q) (fun _ _ => False) { s with heap := h₁, toks := tk })
    (fin : ∀ h tk m, s.toks ≤ tk → Fx K env.locals h m → J n h m → Q .next { s with heap := h, toks := tk }) :
    wpAny (model pw w) A (exec (.For (.Name x px) (.Call (.Name (Str.ofString "range") p) [e1, e2] [] cp) body [] pos) env) Q E s := by
  refine wpAny_For ?_ hs
  refine wpAny_with_toks (Nat.le_refl _) (tcall2 T (range_gl _) (range_bl _) ht (he1 _ _ fun t tk => he2 _ _ tk fun t' tk' => ?_) hk hr (by decide) hgl hbl)
  refine call_range_2 fun htk => ?_
  have htk : s.toks ≤ tk' + 1 := htk
  have back : ∀ {b : Addr} {o : Obj}, (s.heap.push o).get? b = none → s.heap.get? b = none := fun e => none_of_push _ e
  refine rangeLoop hh (IsRange.new ..) (n := n) hn h1 h2 h3 h4 hx hp (F.push _) J ?_ ?_ ?_ ?_
  · intro i h h' m hJ k
    exact stable i h h' m hJ fun b o hb hne e => k b o hb (fun hnone => hne (back hnone)) e
  · exact stable 0 _ _ m₀ h0 fun b o _ _ e => Heap.get?_push_of_some _ e
  · intro i t' tk' m h₁ K' hK hK' hi htk' hJ F₁
    refine wpAny_mono (step i t' tk' m h₁ K' hK (fun b o e => (hK' b o e).imp id fun hnone => back hnone) hi (Nat.le_trans htk htk') hJ F₁) (fun f s₂ hf => by cases f <;> exact hf) fun _ _ e => e
  · intro h tk' m htk' F₁ hJ
    exact fin h tk' m (Nat.le_trans htk htk') F₁ hJ
end
theorem IntRow.ints {zs : Array Value} {ks : List Nat} (h : IntRow zs ks) : IntsAre zs.toList (ks.map fun k : Nat => (k : Int)) := by
  obtain ⟨zs⟩ := zs
  obtain ⟨h1, h2⟩ := h
  dsimp only at *
  induction zs generalizing ks with
  | nil =>
    cases ks with
    | nil => exact .nil
    | cons k ks => simp at h1
  | cons z zs ih =>
    cases ks with
    | nil => simp at h1
    | cons k ks =>
      obtain ⟨k', t, e, rfl⟩ := h2 0 z (by simp)
      simp at e; subst e
      refine .cons _ _ (ih (by simpa using h1) fun i v hv => ?_)
      obtain ⟨k'', t', e', rfl⟩ := h2 (i + 1) v (by simpa using hv)
      exact ⟨k'', t', by simpa using e', rfl⟩
end Mine
namespace Mine
open PySem PySem.W PySem.Challenge PySem.Calls PyProof.Rows

theorem fnTold (P : Params) : FnAt P 217 (Str.ofString "_law_told") (stA 25) (.ref 216) :=
  ⟨⟨o217 P, pmOf (o217 P), by kernel_rfl, by kernel_rfl, by kernel_rfl⟩, ⟨216, o216 P, dFields (o216 P), tokAt (o216 P), rfl, by kernel_rfl, by kernel_rfl, by kernel_rfl, by decide⟩, by decide⟩

noncomputable def toldN (ws : List (Int × Int)) (st : I3) (full low mid : Nat) : Int := often ws ((full : Int) - low - mid + 2, (mid : Int) + 1, (low : Int)) st
noncomputable def toldAt (ws : List (Int × Int)) (st : I3) (full low mid : Nat) : List Str := List.replicate (toldN ws st full low mid).toNat (wordI ((full : Int) - low - mid) mid low)
noncomputable def toldIn (ws : List (Int × Int)) (st : I3) (full low n : Nat) : List Str := (List.range n).flatMap fun i => toldAt ws st full low (low + i)
noncomputable def toldTo (ws : List (Int × Int)) (st : I3) (full n : Nat) : List Str := (List.range n).flatMap fun low => toldIn ws st full low ((full - low) / 2 + 1 - low)
theorem toldIn_succ (ws : List (Int × Int)) (st : I3) (full low n : Nat) : toldIn ws st full low (n + 1) = toldIn ws st full low n ++ toldAt ws st full low (low + n) := by simp [toldIn, List.range_succ]
theorem toldTo_succ (ws : List (Int × Int)) (st : I3) (full n : Nat) : toldTo ws st full (n + 1) = toldTo ws st full n ++ toldIn ws st full n ((full - n) / 2 + 1 - n) := by simp [toldTo, List.range_succ]
theorem toldIn_mono (ws : List (Int × Int)) (st : I3) (full low : Nat) {i n : Nat} (h : i ≤ n) : (toldIn ws st full low i).length ≤ (toldIn ws st full low n).length := by
  induction n with
  | zero => rw [Nat.le_zero.mp h]; exact Nat.le_refl _
  | succ n ih =>
    rcases Nat.lt_or_ge i (n + 1) with h' | h'
    · rw [toldIn_succ, List.length_append]; have := ih (by lia); lia
    · rw [Nat.le_antisymm h h']; exact Nat.le_refl _
theorem toldTo_mono (ws : List (Int × Int)) (st : I3) (full : Nat) {i n : Nat} (h : i ≤ n) : (toldTo ws st full i).length ≤ (toldTo ws st full n).length := by
  induction n with
  | zero => rw [Nat.le_zero.mp h]; exact Nat.le_refl _
  | succ n ih =>
    rcases Nat.lt_or_ge i (n + 1) with h' | h'
    · rw [toldTo_succ, List.length_append]; have := ih (by lia); lia
    · rw [Nat.le_antisymm h h']; exact Nat.le_refl _
noncomputable def told (a b c : Nat) (ks : List Nat) : List Str := toldTo (shared ks) ((a : Int) + 2, (b : Int) + 1, (c : Int)) (a + b + c + ks.sum) ((a + b + c + ks.sum) / 3 + 1)

/-- sorted(words) -/
noncomputable def Sorts (w : World) (ws : List Str) : Prop :=
  ∀ (A : Around) (E : Value → Shared → Prop) (s : Shared) (Q : Value → Shared → Prop) (l : Addr) (vs : List Value), TopH w s.heap → A.handled = none → s.heap.PlainList l vs.toArray → StrsAre vs ws →
    (∀ h' l' tk ys ss, (∀ b o, s.heap.get? b = some o → h'.get? b = some o) → s.heap.get? l' = none → PlainL h' l' ys → StrsAre ys.toList ss → ss.Perm ws → sortedS ss = true → Q (.ref l') { s with heap := h', toks := tk }) →
    wpAny (model pw w) A (call (.builtin "sorted") [.ref l]) Q E s

theorem sumCast (ks : List Nat) : (ks.map fun k : Nat => (k : Int)).sum = ((ks.sum : Nat) : Int) := by
  induction ks with
  | nil => rfl
  | cons k ks ih => simp [ih]
theorem strsRep (x : Str) (t : Tok) (n : Nat) : StrsAre (List.replicate n (Value.str x t)) (List.replicate n x) := by
  induction n with
  | zero => exact .nil
  | succ n ih => rw [List.replicate_succ, List.replicate_succ]; exact .cons _ _ ih
theorem StrsAre.app {a b : List Value} {x y : List Str} (h : StrsAre a x) (h' : StrsAre b y) : StrsAre (a ++ b) (x ++ y) := by
  induction h with
  | nil => exact h'
  | cons z u _ ih => exact .cons z u ih

/-- the names and things of _law_told -/
structure TJ (d st W : Addr) (full : Nat) (ws : List Str) (h : Heap) (m : Str → Option Value) : Prop where
  ways : m (Str.ofString "ways") = some (.ref d)
  start : m (Str.ofString "start") = some (.ref st)
  full : ∃ t, m (Str.ofString "full") = some (.int (full : Nat) t)
  words : m (Str.ofString "words") = some (.ref W)
  list : ∃ vs : List Value, h.PlainList W vs.toArray ∧ StrsAre vs ws
theorem TJ.stable {d st W : Addr} {full : Nat} {ws : List Str} {h h' : Heap} {m : Str → Option Value} (g : TJ d st W full ws h m) (k : ∀ o, h.get? W = some o → h'.get? W = some o) : TJ d st W full ws h' m :=
  ⟨g.ways, g.start, g.full, g.words, let ⟨vs, a, b⟩ := g.list; ⟨vs, a.at k, b⟩⟩
theorem TJ.isIn {d st W : Addr} {full : Nat} {ws : List Str} {h : Heap} {m : Str → Option Value} (g : TJ d st W full ws h m) : h.get? W ≠ none := by
  obtain ⟨vs, ⟨n, e⟩, _⟩ := g.list; rw [e]; simp

section
variable {w : World} {A : Around} {E : Value → Shared → Prop} {s : Shared} {n : Nat} {Q : Value → Shared → Prop}

theorem Is3.of3 {h : Heap} {a : Addr} {x y z : Int} {t u v : Tok} (i : IsTup h a [Value.int x t, Value.int y u, Value.int z v].toArray) : ∃ o, h.get? a = some o ∧ Is3 o (x, y, z) :=
  let ⟨o, e, c, n, d⟩ := i; ⟨o, e, c, t, u, v, n, d⟩

theorem told_rest {L W d St : Addr} {full : Nat} {st0 : I3} {ws : List (Int × Int)} {vd : List (Int × Value)} {oS od : Obj} {K₀ : Addr → Obj → Prop} {m : Str → Option Value} {R : Flow → Shared → Prop} {E' : Value → Shared → Prop} (hr : Room A (n + 1))
    (F : Fx K₀ L s.heap m) (top : ∀ (h : Heap) (m : Str → Option Value), Fx K₀ L h m → TopH w h) (hWK : ∀ o, ¬ K₀ W o) (hWL : W ≠ L) (hds : (d == sysModules) = false) (hvd : IPs vd ws)
    (kD : K₀ d od) (rd : ∀ h : Heap, h.get? d = some od → h.DictOf (intKind pw w) d vd) (kS : K₀ St oS) (iS : Is3 oS st0) (J₀ : TJ d St W full [] s.heap m) (hfull : full ≤ 100)
    (hof : ∀ low mid, low ≤ full → mid ≤ full → -1000 ≤ toldN ws st0 full low mid)
    (hlen : (toldTo ws st0 full (full / 3 + 1)).length ≤ 1000) (hsort : Sorts w (toldTo ws st0 full (full / 3 + 1)))
    (h : ∀ h' l tk ys ss, (∀ b o, K₀ b o → h'.get? b = some o) → (∀ o, ¬ K₀ l o) → PlainL h' l ys → StrsAre ys.toList ss → ss.Perm (toldTo ws st0 full (full / 3 + 1)) → sortedS ss = true → s.toks ≤ tk → R (.ret (.ref l)) { s with heap := h', toks := tk }) :
    wpAny (model pw w) A (execs ((fBody (stA 25)).drop 4) (envOf (Str.ofString "_law_told") (fScope (stA 25)) L 217 (Value.ref 216))) R E' s := by
  have hh := hr.handled
  have T := top _ _ F
  obtain ⟨tf, ef⟩ := J₀.full
  have hWin := J₀.isIn
  show wpAny _ _ (execs [_, _] _) _ _ _
  refine wpAny_with_toks (n := s.toks) (Nat.le_refl _) ?_
  refine wpAny_execs_cons ?_
  refine forRange1 (n := full / 3 + 1) T hh (by lia) (by kernel_rfl) (by kernel_rfl) (by kernel_rfl) (by kernel_rfl) rfl rfl (by kernel_rfl) (by intro _; kernel_rfl) F ?_ (fun i h m => TJ d St W full (toldTo ws st0 full i) h m) ?_ J₀ ?_ ?_
  · intro Q' E' hq
    refine wpAny_BinOp ?_
    refine wpAny_BinOp ?_
    refine ldE F ef ?_
    refine wpAny_Constant_int ?_
    refine floordiv_int (by decide) ?_
    refine wpAny_Constant_int ?_
    refine P.add_int ?_
    have e : (full : Int).fdiv 3 + 1 = ((full / 3 + 1 : Nat) : Int) := by
      rw [Int.fdiv_eq_ediv_of_nonneg _ (by decide)]; lia
    rw [e]
    exact hq _ _
  · intro i h h' m g k
    exact g.stable fun o e => k _ o hWL hWin e
  · rintro low tl tk₁ m₁ h₁ K₁ hK₁ hK₁' hlow htk₁ J₁ F₁
    obtain ⟨tf₁, ef₁⟩ := J₁.full
    have T₁ := top _ _ (F₁.mono hK₁)
    have hWK₁ : ∀ o, ¬ K₁ W o := fun o e => (hK₁' W o e).elim (hWK o) hWin
    have hWin₁ := J₁.isIn
    have hcnt : ((((full : Int) - low).fdiv 2 + 1) - (low : Int)).toNat = (full - low) / 2 + 1 - low := by
      rw [Int.fdiv_eq_ediv_of_nonneg _ (by decide)]; lia
    have hb1 : ((full : Int) - low).fdiv 2 + 1 ≤ 1000 ∧ -1000 ≤ ((full : Int) - low).fdiv 2 + 1 := by
      rw [Int.fdiv_eq_ediv_of_nonneg _ (by decide)]; lia
    refine wpAny_execs_cons ?_
    refine forRange2 (lo := low) (hi := ((full : Int) - low).fdiv 2 + 1) (n := (full - low) / 2 + 1 - low) T₁ hh hcnt (by lia) (by lia) (by lia) (by lia) (by kernel_rfl) (by kernel_rfl) (by kernel_rfl) (by kernel_rfl) rfl rfl (by kernel_rfl) (by intro _; kernel_rfl) F₁ ?_ ?_
      (fun i h m => TJ d St W full (toldTo ws st0 full low ++ toldIn ws st0 full low i) h m ∧ ∃ t, m (Str.ofString "low") = some (.int (low : Nat) t)) ?_ ⟨⟨J₁.ways, J₁.start, ⟨_, ef₁⟩, J₁.words, by simpa [toldIn] using J₁.list⟩, _, rfl⟩ ?_ ?_
    · intro Q' E' hq
      exact ldE F₁ rfl (hq _ _)
    · intro Q' E' tk₀ hq
      refine wpAny_BinOp ?_
      refine wpAny_BinOp ?_
      refine wpAny_BinOp ?_
      refine ldE F₁ ef₁ ?_
      refine ldE F₁ rfl ?_
      refine P.sub_int ?_
      refine wpAny_Constant_int ?_
      refine floordiv_int (by decide) ?_
      refine wpAny_Constant_int ?_
      refine P.add_int ?_
      exact hq _ _
    · rintro i h h' m ⟨g, e⟩ k
      exact ⟨g.stable fun o e => k _ o hWL hWin₁ e, e⟩
    · rintro i ti tk₂ m₂ h₂ K₂ hK₂ hK₂' hi htk₂ J0J F₂
      refine hideG fun GG hGG => ?_
      try dsimp only
      obtain ⟨J₂, tl₂, el₂⟩ := J0J
      obtain ⟨tf₂, ef₂⟩ := J₂.full
      have hWK₂ : ∀ o, ¬ K₂ W o := fun o e => (hK₂' W o e).elim (hWK₁ o) hWin₁
      have k₀₂ : ∀ b o, K₀ b o → K₂ b o := fun b o e => hK₂ _ _ (hK₁ _ _ e)
      have T₂ := top _ _ (F₂.mono k₀₂)
      have hlm : low + (low + i) ≤ full := by lia
      subst hGG
      dsimp only
      refine wpAny_execs_cons ?_
      refine wpAny_Assign_Name ?_ (by kernel_rfl)
      refine wpAny_BinOp ?_
      refine wpAny_BinOp ?_
      refine ldE F₂ ef₂ ?_
      refine ldE F₂ el₂ ?_
      refine P.sub_int ?_
      refine ldE F₂ rfl ?_
      refine P.sub_int ?_
      refine stx F₂ fun h₃ F₃ s₃ => ?_
      try dsimp only
      have T₃ := top _ _ (F₃.mono k₀₂)
      dsimp only at s₃ ⊢
      refine wpAny_execs_cons ?_
      refine wpAny_Assign_Name ?_ (by kernel_rfl)
      refine gcall3 T₃ (fnOften _) (by kernel_rfl) (by kernel_rfl) ?_ (by kernel_rfl) (by kernel_rfl) (by kernel_rfl) rfl
      refine tup3 (by kernel_rfl) ?_
      refine wpAny_BinOp ?_
      refine ldE F₃ rfl ?_
      refine wpAny_Constant_int ?_
      refine P.add_int ?_
      refine wpAny_BinOp ?_
      refine ldE F₃ rfl ?_
      refine wpAny_Constant_int ?_
      refine P.add_int ?_
      refine ldE F₃ el₂ ?_
      refine newTupX F₃ (fun h₄ F₄ k₄ t₄ => ?_) (by show 3 ≤ sizeLine; decide)
      dsimp only at t₄ k₄ ⊢
      refine hideG fun GG hGG => ?_
      try dsimp only
      have F₄ : Fx K₂ L h₄ _ := F₃.keeps k₄
      have T₄ := top _ _ (F₄.mono k₀₂)
      obtain ⟨oG, eG, iG⟩ := Is3.of3 t₄
      subst hGG
      refine ldE F₄ J₂.start ?_
      refine ldE F₄ J₂.ways ⟨T₄, ?_⟩
      have D₄ : IntD w h₄ d ws := ⟨vd, rd _ (F₄.keep _ _ (k₀₂ _ _ kD)), hvd⟩
      refine often_call (n := n) T₄ hr eG iG (F₄.keep _ _ (k₀₂ _ _ kS)) iS D₄ hds fun h₅ to tk₅ k₅ htk₅ => ?_
      try dsimp only
      have F₅ := F₄.keeps k₅
      refine stx F₅ fun h₆ F₆ s₆ => ?_
      try dsimp only
      have T₆ := top _ _ (F₆.mono k₀₂)
      dsimp only at s₆ ⊢
      refine hideG fun GG hGG => ?_
      try dsimp only
      obtain ⟨vs, Pv, Sv⟩ := J₂.list
      have Pv₆ : h₆.PlainList W vs.toArray := Pv.at fun o e => (s₆.2 W hWL).trans (k₅ _ _ (k₄ _ _ ((s₃.2 W hWL).trans e)))
      have hN : often ws ((full : Int) - low - ((low : Int) + (i : Int)) + 2, ((low : Int) + (i : Int)) + 1, (low : Int)) st0 = toldN ws st0 full low (low + i) := by
        unfold toldN; rw [Int.natCast_add]
      have hlen2 : ((toldTo ws st0 full low ++ toldIn ws st0 full low (i + 1))).length ≤ 1000 := by
        have a1 := toldTo_mono ws st0 full (i := low + 1) (n := full / 3 + 1) (by lia)
        have a2 := toldIn_mono ws st0 full low (i := i + 1) (n := (full - low) / 2 + 1 - low) (by lia)
        rw [toldTo_succ, List.length_append] at a1
        rw [List.length_append]; lia
      rw [toldIn_succ, List.length_append, List.length_append] at hlen2
      have hrep : (toldAt ws st0 full low (low + i)).length = (toldN ws st0 full low (low + i)).toNat := by simp [toldAt]
      have hlo := hof low (low + i) (by lia) (by lia)
      have hvl := Sv.len_eq
      rw [List.length_append] at hvl
      obtain ⟨ma, la⟩ := one_mul (n := (full : Int) - low - ((low : Int) + i)) (x := Str.ofString "a") rfl (by lia) (by lia)
      obtain ⟨mb, lb⟩ := one_mul (n := (low : Int) + i) (x := Str.ofString "b") rfl (by lia) (by lia)
      obtain ⟨mc, lc⟩ := one_mul (n := (low : Int)) (x := Str.ofString "c") rfl (by lia) (by lia)
      subst hGG
      refine wpAny_execs_cons ?_
      refine wpAny_Expr ?_ (by kernel_rfl)
      refine Call_method1 (by kernel_rfl) (by kernel_rfl) (by kernel_rfl) ?_
      refine ldE F₆ J₂.words ?_
      refine ⟨"list", "list.extend", PySem.F.plainAttrs_list, PySem.F.slot_list_extend, PySem.F.type_list_extend, Pv₆.isList.typeIs, fun a e => ?_, ?_⟩
      · cases e
        obtain ⟨nn, e⟩ := Pv₆
        exact ⟨_, e, rfl⟩
      refine callWith_builtin rfl ?_
      refine evalArgs_plain ?_
      refine spliced_cons ?_
      refine wpAny_BinOp ?_
      refine lst1 (by kernel_rfl) ?_
      refine wpAny_BinOp ?_
      refine wpAny_BinOp ?_
      refine wpAny_BinOp ?_
      refine Constant_str ?_
      refine ldE F₆ rfl ?_
      refine SB.mul ma fun t₇ tk₇ => ?_
      try dsimp only
      refine wpAny_BinOp ?_
      refine Constant_str ?_
      refine ldE F₆ rfl ?_
      refine SB.mul mb fun t₈ tk₈ => ?_
      try dsimp only
      refine SB.add (fun t₉ tk₉ => ?_) (by rw [sizeLine_eq]; lia)
      refine wpAny_BinOp ?_
      refine Constant_str ?_
      refine ldE F₆ el₂ ?_
      refine SB.mul mc fun t₁₀ tk₁₀ => ?_
      try dsimp only
      refine SB.add (fun t₁₁ tk₁₁ => ?_) (by rw [sizeLine_eq, Str.length_append]; lia)
      refine newListP F₆ (fun h₇ F₇ k₇ P₇ => ?_) (by show 1 ≤ sizeLine; decide)
      dsimp only at P₇ k₇ ⊢
      refine ldE F₇ rfl ?_
      refine mulListX P₇ (by rw [hN]; exact hlo) (by rw [hN]; lia) fun h₈ k₈ P₈ => ?_
      try dsimp only
      have F₈ := F₇.keeps k₈
      dsimp only at P₈ k₈ ⊢
      refine spliced_nil ?_
      have Pv₈ : h₈.PlainList W vs.toArray := Pv₆.at fun o e => k₈ _ _ (k₇ _ _ e)
      rw [hN] at P₈
      refine extendX Pv₈ P₈ (fun h₉ P₉ s₉ => ?_) (by rw [List.length_replicate, sizeLine_eq]; lia)
      have F₉ := F₈.wr s₉ hWL hWK₂
      refine wpAny_execs_nil ⟨_, _, _, rfl, F₉, ⟨J₂.ways, J₂.start, ⟨_, ef₂⟩, J₂.words, _, P₉, ?_⟩, _, el₂⟩
      rw [toldIn_succ, ← List.append_assoc]
      refine Mine.StrsAre.app Sv ?_
      have e : toldAt ws st0 full low (low + i) = List.replicate (toldN ws st0 full low (low + i)).toNat (Txt.mul (Str.ofString "a") ((full : Int) - low - ((low : Int) + i)) ++ Txt.mul (Str.ofString "b") ((low : Int) + i) ++ Txt.mul (Str.ofString "c") (low : Int)) := by
        unfold toldAt wordI; rw [Int.natCast_add]
      rw [e]
      exact strsRep _ _ _
    · rintro h₂ tk₂ m₂ htk₂ F₂ ⟨J₂, -⟩
      rw [← toldTo_succ] at J₂
      exact wpAny_execs_nil ⟨_, _, _, rfl, F₂, J₂⟩
  · rintro h₁ tk₁ m₁ htk₁ F₁ J₁
    refine hideG fun GG hGG => ?_
    try dsimp only
    have T₁ := top _ _ F₁
    obtain ⟨vs, Pv, Sv⟩ := J₁.list
    subst hGG
    refine wpAny_execs_cons ?_
    refine wpAny_Return_some ?_
    refine bcall1 (id := "sorted") T₁ (by kernel_rfl) (by kernel_rfl) (by kernel_rfl) ?_ (by kernel_rfl) (by kernel_rfl) (by kernel_rfl) rfl rfl
    refine ldE F₁ J₁.words ?_
    refine hsort _ _ _ _ W vs T₁ hh Pv Sv fun h₂ l tk₂ ys ss k₂ ln Pl Sl hp hs => ?_
    try dsimp only
    refine fun hle => h h₂ l tk₂ ys ss (fun b o e => k₂ _ _ (F₁.keep _ _ e)) (fun o e => ?_) Pl Sl hp hs hle
    have ln : h₁.get? l = none := ln
    rw [F₁.keep _ _ e] at ln; cases ln

theorem told_call {ta z : Addr} {a b c full : Nat} {st0 : I3} {ks : List Nat} {zs : Array Value} {oz oa : Obj} {nz : Nat} (T : TopH w s.heap) (hr : Room A (n + 2))
    (ha : s.heap.get? ta = some oa) (ia : Is3 oa ((a : Int), (b : Int), (c : Int)))
    (hz : s.heap.get? z = some oz) (hzc : oz.cls = .type "list") (hzd : oz.data = .seq zs nz) (hzi : IntRow zs ks)
    (hk : ∀ k ∈ ks, k ≤ 100) (hsm : ∀ i, i ≤ ks.length → (shared (ks.take i)).length ≤ 1000) (hfu : a + b + c + ks.sum = full) (hfull : full ≤ 100) (hst0 : ((a : Int) + 2, (b : Int) + 1, (c : Int)) = st0)
    (hof : ∀ low mid, low ≤ full → mid ≤ full → -1000 ≤ toldN (shared ks) st0 full low mid)
    (hlen : (toldTo (shared ks) st0 full (full / 3 + 1)).length ≤ 1000) (hsort : Sorts w (toldTo (shared ks) st0 full (full / 3 + 1)))
    (h : ∀ h' l tk ys ss, (∀ b o, s.heap.get? b = some o → h'.get? b = some o) → s.heap.get? l = none → PlainL h' l ys → StrsAre ys.toList ss → ss.Perm (toldTo (shared ks) st0 full (full / 3 + 1)) → sortedS ss = true → s.toks ≤ tk → Q (.ref l) { s with heap := h', toks := tk }) :
    wpAny (model pw w) A (call (.ref 217) [.ref ta, .ref z]) Q E s := by
  refine wpAny_call (codeAny_with_toks (Nat.le_refl _) (enterX [Str.ofString "tall", Str.ofString "sizes"] T hr (fnTold _) (by kernel_rfl) (by kernel_rfl) (fun pm => by kernel_rfl) (by kernel_rfl) (by kernel_rfl) (by kernel_rfl) (fun h₁ tk htk F T₁ hr₁ => ?_)))
  try dsimp only
  refine hideG fun GG hGG => ?_
  try dsimp only
  have hh := hr₁.handled
  have hr₂ : Room (A.deeper (envOf (Str.ofString "_law_told") (fScope (stA 25)) s.heap.objs.size 217 (Value.ref 216))) (n + 1) := hr₁
  obtain ⟨u1, u2, u3, IA⟩ := ia.tup (F.keep _ _ ha)
  subst hGG
  refine wpAny_execs_cons ?_
  refine wpAny_Assign_Name ?_ (by kernel_rfl)
  refine gcall1 T₁ (fnShared _) (by kernel_rfl) (by kernel_rfl) ?_ (by kernel_rfl) (by kernel_rfl) (by kernel_rfl) rfl
  refine ldE F rfl ⟨T₁, ?_⟩
  refine shared_call T₁ hr₂ (F.keep _ _ hz) hzc hzd hzi hk hsm fun h₂ d tk₂ k₂ dn D₂ htk₂ => ?_
  try dsimp only
  refine hideG fun GG hGG => ?_
  try dsimp only
  have F₂ := F.keeps k₂
  have hds := T₁.notMods dn
  have dn₀ : s.heap.get? d = none := none_of_keeps (fun b o e => F.keep b o e) dn
  obtain ⟨vd, Dd, hvd⟩ := D₂
  obtain ⟨od, esd, epd, hod, rd⟩ := Dd
  have dL : d ≠ s.heap.objs.size := by rintro rfl; obtain ⟨oL, _, _, eL, _⟩ := F.ns; rw [dn] at eL; cases eL
  have F₂ : Fx (fun b o => s.heap.get? b = some o ∨ (b = d ∧ o = od)) s.heap.objs.size h₂ _ := ⟨F₂.ns, fun b o e => e.elim (F₂.keep b o) (fun e => by rw [e.1, e.2]; exact hod), fun o e => e.elim (F.off o) fun e => dL e.1.symm⟩
  subst hGG
  refine stx F₂ fun h₃ F₃ _ => ?_
  try dsimp only
  have IA₃ := tupAt IA (h' := h₃) fun o e => by rw [F.keep _ _ ha] at e; cases e; exact F₃.keep _ _ (.inl ha)
  refine wpAny_execs_cons ?_
  refine wpAny_Assign_Name ?_ (by kernel_rfl)
  refine tup3 (by kernel_rfl) ?_
  refine wpAny_BinOp ?_
  refine itemT (vs := [_, _, _]) (c := 0) (fun Q' hq => ldE F₃ rfl hq) IA₃ rfl (by decide) (by intro _ _; rfl) ?_
  refine wpAny_Constant_int ?_
  refine P.add_int ?_
  refine wpAny_BinOp ?_
  refine itemT (vs := [_, _, _]) (c := 1) (fun Q' hq => ldE F₃ rfl hq) IA₃ rfl (by decide) (by intro _ _; rfl) ?_
  refine wpAny_Constant_int ?_
  refine P.add_int ?_
  refine itemT (vs := [_, _, _]) (c := 2) (fun Q' hq => ldE F₃ rfl hq) IA₃ rfl (by decide) (by intro _ _; rfl) ?_
  refine newTupX F₃ (fun h₄ F₄ k₄ t₄ => ?_) (by show 3 ≤ sizeLine; decide)
  refine hideG fun GG hGG => ?_
  try dsimp only
  obtain ⟨oS, eS, cS, nS, dS⟩ := t₄
  have iS : Is3 oS ((a : Int) + 2, (b : Int) + 1, (c : Int)) := ⟨cS, _, _, _, nS, dS⟩
  have hSL : s.heap.objs.size ≠ h₃.objs.size := Nat.ne_of_lt F₃.ltL
  have F₄ : Fx (fun b o => (s.heap.get? b = some o ∨ (b = d ∧ o = od)) ∨ (b = h₃.objs.size ∧ o = oS)) s.heap.objs.size h₄ _ :=
    ⟨F₄.ns, fun b o e => e.elim (fun e => F₄.keep b o (.inl e)) (fun e => by rw [e.1, e.2]; exact eS), fun o e => e.elim (fun e => F₄.off o (.inl e)) (fun e => hSL e.1)⟩
  subst hGG
  refine stx F₄ fun h₅ F₅ _ => ?_
  dsimp only at F₅ ⊢
  have T₅ : TopH w h₅ := F₅.top T fun b o e => .inl (.inl e)
  have IA₅ := tupAt IA (h' := h₅) fun o e => by rw [F.keep _ _ ha] at e; cases e; exact F₅.keep _ _ (.inl (.inl ha))
  refine wpAny_execs_cons ?_
  refine wpAny_Assign_Name ?_ (by kernel_rfl)
  refine wpAny_BinOp ?_
  refine bcall1 (id := "sum") T₅ (by kernel_rfl) (by kernel_rfl) (by kernel_rfl) ?_ (by kernel_rfl) (by kernel_rfl) (by kernel_rfl) rfl rfl
  refine ldE F₅ rfl ?_
  refine sumTupX (vs := [_, _, _]) hh IA₅ (.cons _ _ (.cons _ _ (.cons _ _ .nil))) fun h₆ t₆ tk₆ k₆ => ?_
  try dsimp only
  have F₆ := F₅.keeps k₆
  have T₆ := T₅.keeps k₆
  refine bcall1 (id := "sum") T₆ (by kernel_rfl) (by kernel_rfl) (by kernel_rfl) ?_ (by kernel_rfl) (by kernel_rfl) (by kernel_rfl) rfl rfl
  refine ldE F₆ rfl ?_
  refine sumListX (vs := zs.toList) hh (ns := ks.map fun k : Nat => (k : Int)) ⟨oz, F₆.keep _ _ (.inl (.inl hz)), hzc, nz, by simpa using hzd⟩ hzi.ints fun h₇ t₇ tk₇ k₇ => ?_
  try dsimp only
  have F₇ := F₆.keeps k₇
  refine P.add_int ?_
  refine stx F₇ fun h₈ F₈ _ => ?_
  try dsimp only
  have hsum : ([(a : Int), (b : Int), (c : Int)].sum + (ks.map fun k : Nat => (k : Int)).sum) = ((full : Nat) : Int) := by
    rw [sumCast, ← hfu]; simp; lia
  refine wpAny_execs_cons ?_
  refine wpAny_Assign_Name ?_ (by kernel_rfl)
  refine List_ (spliced_nil ?_)
  refine newListP F₈ (fun h₉ F₉ k₉ P₉ => ?_) (by decide)
  refine stx F₉ fun h₁₀ F₁₀ s₁₀ => ?_
  dsimp only at F₁₀ P₉ s₁₀ ⊢
  have hWL : h₈.objs.size ≠ s.heap.objs.size := (Nat.ne_of_lt F₈.ltL).symm
  have P₁₀ : h₁₀.PlainList h₈.objs.size ([] : List Value).toArray := P₉.at fun o e => (s₁₀.2 _ hWL).trans e
  have hWK := F₈.notThere
  have hWin : h₁₀.get? h₈.objs.size ≠ none := by obtain ⟨nn, e⟩ := P₁₀; rw [e]; simp
  rw [hst0] at iS
  have kOld : ∀ b o, s.heap.get? b = some o → ((s.heap.get? b = some o ∨ (b = d ∧ o = od)) ∨ (b = h₃.objs.size ∧ o = oS)) := fun b o e => .inl (.inl e)
  exact told_rest (K₀ := fun b o => (s.heap.get? b = some o ∨ (b = d ∧ o = od)) ∨ (b = h₃.objs.size ∧ o = oS)) hr₂ F₁₀ (fun h m F => F.top T kOld) hWK hWL hds hvd (.inl (.inr ⟨rfl, rfl⟩)) (fun h e => ⟨od, esd, epd, e, rd⟩) (.inr ⟨rfl, rfl⟩) iS
    ⟨rfl, rfl, ⟨_, congrArg (fun x => some (Value.int x _)) hsum⟩, rfl, _, P₁₀, .nil⟩ hfull hof hlen hsort
    fun h' l tk' ys ss kk hl Pl Sl hp hs _ hle => h h' l tk' ys ss (fun b o e => kk _ _ (kOld _ _ e)) (by
      cases e : s.heap.get? l with
      | none => rfl
      | some o => exact absurd (kOld _ _ e) (hl o)) Pl Sl hp hs hle
end
end Mine
namespace Mine
open PySem PySem.W PySem.Challenge PySem.Calls PyProof.Rows

theorem fnSpelled (P : Params) : FnAt P 169 (Str.ofString "_law_spelled") (stA 17) (.ref 168) :=
  ⟨⟨o169 P, pmOf (o169 P), by kernel_rfl, by kernel_rfl, by kernel_rfl⟩, ⟨168, o168 P, dFields (o168 P), tokAt (o168 P), rfl, by kernel_rfl, by kernel_rfl, by kernel_rfl, by decide⟩, by decide⟩

noncomputable def b1Low : List Nat := [173, 847, 6150, 6155, 6156, 6157, 8203, 8204, 8205, 8288, 65279]
noncomputable def unseenL (p : Nat) : List Nat := if p < 11 then [b1Low.getD p 0] else if p < 27 then [65013 + p] else []
noncomputable def kindsL : List Nat := [97, 65, 119808, 119860, 119912, 120016, 120172, 120224, 120276, 120328, 120380, 120432]
noncomputable def kindsI : List Int := [97, 65, 119808, 119860, 119912, 120016, 120172, 120224, 120276, 120328, 120380, 120432]
theorem kinds_in : ∀ k ∈ kindsL, 65 ≤ k ∧ k ≤ 120432 := by decide +kernel
theorem kindsI_eq : kindsI = kindsL.map fun k : Nat => (k : Int) := by decide +kernel
noncomputable def spelled (c turn : Nat) : Str := ⟨(unseenL (turn / 12 % 28)).toArray⟩ ++ ⟨#[kindsL.getD (turn % 12) 0 + c - 97]⟩

theorem fits63 (p : Nat) (h : p < 1000000) : (decide ((p : Int) < -(2 ^ 63 : Int)) || decide ((p : Int) ≥ 2 ^ 63)) = false := by
  rw [decide_eq_false (by lia), decide_eq_false (by lia)]; rfl
theorem chrFits (i : Int) (h1 : 0 ≤ i) (h2 : i ≤ 1114111) : (decide (i < 0) || decide (i > 0x10FFFF)) = false := by
  rw [decide_eq_false (by lia), decide_eq_false (by lia)]; rfl
theorem unseenAt (x : Str) (hx : x = ⟨b1Low.toArray⟩) (p : Nat) (h : p < 11) : (seqIndex? (p : Int) x.length).bind (x.cps[·]?) = some (b1Low.getD p 0) := by
  subst hx
  match p, h with
  | 0, _ => rfl
  | 1, _ => rfl
  | 2, _ => rfl
  | 3, _ => rfl
  | 4, _ => rfl
  | 5, _ => rfl
  | 6, _ => rfl
  | 7, _ => rfl
  | 8, _ => rfl
  | 9, _ => rfl
  | 10, _ => rfl
theorem notLt1 {a b : Nat} (h : b ≤ a) : (!decide (([a] : List Nat) < [b])) = true := by
  have : ¬ (([a] : List Nat) < [b]) := by
    intro hl
    cases hl with
    | rel h' => lia
    | cons h' => cases h'
  simp [this]
theorem notLtS {x y : Str} {a b : Nat} (hx : x = ⟨#[a]⟩) (hy : y = ⟨#[b]⟩) (h : b ≤ a) : (!decide (x.cps.toList < y.cps.toList)) = true := by
  subst hx hy; exact notLt1 h
theorem iteT {c : Bool} {P Q : Prop} (h : c = true) (p : P) : if c = true then P else Q := by rw [h]; exact p
theorem strEq {x y : Str} {t : Tok} (e : x = y) : some (Value.str x t) = some (Value.str y t) := by rw [e]
noncomputable def intsOf : List Expr → List (Int × Nat × Pos)
  | .Constant (.int n) k p :: es => (n, k, p) :: intsOf es
  | _ => []
noncomputable abbrev mkInts (es : List (Int × Nat × Pos)) : List Expr := es.map fun e => .Constant (.int e.1) e.2.1 e.2.2
theorem spliceInts {w : World} {A : Around} {E : Value → Shared → Prop} {env : Env} : ∀ (es : List (Int × Nat × Pos)) (s : Shared) (Q : List Value → Shared → Prop),
    (∀ vs tk, IntsAre vs (es.map (·.1)) → Q vs { s with toks := tk }) → wpAny (model pw w) A (spliced ((mkInts es).map fun e => (false, eval e env))) Q E s
  | [], s, Q, h => spliced_nil (h [] s.toks .nil)
  | e :: es, s, Q, h => by
    refine spliced_cons ?_
    refine wpAny_Constant_int ?_
    refine spliceInts es _ _ fun vs tk hv => ?_
    exact h _ _ (.cons _ _ hv)
/-- a tuple of written ints -/
theorem tupInts {w : World} {A : Around} {E : Value → Shared → Prop} {s : Shared} {env : Env} {elts : List Expr} {kt : Nat} {tp : Pos} {Q : Value → Shared → Prop} (ns : List Int) (hm : elts = mkInts (intsOf elts)) (hn : (intsOf elts).map (·.1) = ns)
    (ht : backTo tp (starEach elts env) = elts.map fun e => (false, eval e env))
    (h : ∀ vs tk, IntsAre vs ns → wpAny (model pw w) A (newTuple vs) Q E { s with toks := tk }) : wpAny (model pw w) A (eval (.Tuple elts kt tp) env) Q E s := by
  refine Tuple_ ?_
  rw [ht]
  subst hn
  rw [hm]
  exact spliceInts _ _ _ h
theorem unseen_len (p : Nat) : (unseenL p).length ≤ 1 := by
  unfold unseenL; split
  · simp
  · split <;> simp

section
variable {w : World} {A : Around} {E : Value → Shared → Prop} {s : Shared} {n : Nat} {Q : Value → Shared → Prop}

theorem spelled_call {c turn : Nat} {t u : Tok} (T : TopH w s.heap) (hr : Room A (n + 1)) (hc : 97 ≤ c ∧ c ≤ 99)
    (h : ∀ h' t' tk, (∀ b o, s.heap.get? b = some o → h'.get? b = some o) → Q (.str (spelled c turn) t') { s with heap := h', toks := tk }) :
    wpAny (model pw w) A (call (.ref 169) [.str ⟨#[c]⟩ t, .int (turn : Nat) u]) Q E s := by
  obtain ⟨p, hpp⟩ : ∃ p, turn / 12 % 28 = p := ⟨_, rfl⟩
  have ep : ((turn : Int).fdiv 12).fmod 28 = ((p : Nat) : Int) := by
    rw [Int.fdiv_eq_ediv_of_nonneg _ (by decide), Int.fmod_eq_emod_of_nonneg _ (by decide)]; lia
  have hpl : p < 28 := by lia
  refine wpAny_call (enterX [Str.ofString "sign", Str.ofString "turn"] T hr (fnSpelled _) (by kernel_rfl) (by kernel_rfl) (fun pm => by kernel_rfl) (by kernel_rfl) (by kernel_rfl) (by kernel_rfl) (fun h₁ tk htk F T₁ hr₁ => ?_))
  refine wpAny_execs_cons ?_
  refine wpAny_Assign_Name ?_ (by kernel_rfl)
  refine wpAny_BinOp ?_
  refine wpAny_BinOp ?_
  refine ldE F rfl ?_
  refine wpAny_Constant_int ?_
  refine floordiv_int (by decide) ?_
  refine wpAny_Constant_int ?_
  refine mod_int (by decide) ?_
  rw [ep]
  refine stx F fun h₂ F₂ _ => ?_
  try dsimp only at F₂ ⊢
  refine wpAny_execs_cons ?_
  refine wpAny_Assign_Name ?_ (by kernel_rfl)
  refine Constant_str ?_
  refine stx F₂ fun h₃ F₃ _ => ?_
  try dsimp only at F₃ ⊢
  refine wpAny_execs_cons ?_
  refine wpAny_mono (Q := fun f s' => f = .next ∧ ∃ h₄ t₄ tk₄ m₄, s' = { s with heap := h₄, toks := tk₄ } ∧ Fx (kp s.heap) s.heap.objs.size h₄ m₄ ∧ m₄ (Str.ofString "unseen") = some (.str ⟨(unseenL p).toArray⟩ t₄) ∧ m₄ (Str.ofString "sign") = some (.str ⟨#[c]⟩ t) ∧ m₄ (Str.ofString "turn") = some (.int (turn : Nat) u))
    (E := fun _ _ => False) ?_ ?_ (fun _ _ e => e)
  · refine wpAny_If ?_
    refine wpAny_isTrue_Compare1 ?_
    refine ldE F₃ rfl ?_
    refine wpAny_Constant_int ?_
    refine P.lt_int ?_
    refine wpAny_truthy_bool ?_
    by_cases h11 : p < 11
    · have h11' : ((p : Nat) : Int) < 11 := by lia
      rw [decide_eq_true h11']
      refine wpAny_execs_cons ?_
      refine wpAny_Assign_Name ?_ (by kernel_rfl)
      refine Subscript_ ?_
      refine Constant_str ?_
      refine ldE F₃ rfl ?_
      refine subscriptTail_builtin (typeIs_str _ _ _) PySem.F.slot_str_getitem.lookup ?_
      refine P.getItem_str (c := b1Low.getD p 0) (fits63 p (by lia)) ?_ ?_
      · exact unseenAt _ (by kernel_rfl) p h11
      · refine stx F₃ fun h₄ F₄ _ => ?_
        refine wpAny_execs_nil ?_
        have e : (unseenL p) = [b1Low.getD p 0] := by unfold unseenL; rw [if_pos h11]
        exact ⟨rfl, _, _, _, _, rfl, F₄, by rw [e]; rfl, rfl, rfl⟩
    · have h11' : ¬ ((p : Nat) : Int) < 11 := by lia
      rw [decide_eq_false h11']
      refine wpAny_execs_cons ?_
      refine wpAny_If ?_
      refine wpAny_isTrue_Compare1 ?_
      refine ldE F₃ rfl ?_
      refine wpAny_Constant_int ?_
      refine P.lt_int ?_
      refine wpAny_truthy_bool ?_
      by_cases h27 : p < 27
      · have h27' : ((p : Nat) : Int) < 27 := by lia
        rw [decide_eq_true h27']
        refine wpAny_execs_cons ?_
        refine wpAny_Assign_Name ?_ (by kernel_rfl)
        refine bcall1 (id := "chr") (F₃.top T fun _ _ e => e) (by kernel_rfl) (by kernel_rfl) (by kernel_rfl) ?_ (by kernel_rfl) (by kernel_rfl) (by kernel_rfl) rfl rfl
        refine wpAny_BinOp ?_
        refine wpAny_Constant_int ?_
        refine ldE F₃ rfl ?_
        refine P.add_int ?_
        refine P.chr_of_int (chrFits _ (by lia) (by lia)) ?_
        refine stx F₃ fun h₄ F₄ _ => ?_
        try dsimp only at F₄ ⊢
        refine wpAny_execs_nil ?_
        refine wpAny_execs_nil ?_
        have e : (unseenL p) = [65013 + p] := by unfold unseenL; rw [if_neg h11, if_pos h27]
        have e2 : (65013 + (p : Int)).toNat = 65013 + p := by lia
        exact ⟨rfl, _, _, _, _, rfl, F₄, strEq (by rw [e, e2]), rfl, rfl⟩
      · have h27' : ¬ ((p : Nat) : Int) < 27 := by lia
        rw [decide_eq_false h27']
        refine wpAny_execs_nil ?_
        refine wpAny_execs_nil ?_
        have e : (unseenL p) = [] := by unfold unseenL; rw [if_neg h11, if_neg h27]
        exact ⟨rfl, _, _, _, _, rfl, F₃, by rw [e]; rfl, rfl, rfl⟩
  · rintro f s' ⟨rfl, h₄, t₄, tk₄, m₄, rfl, F₄, eu, es, et⟩
    have T₄ : TopH w h₄ := F₄.top T fun _ _ e => e
    dsimp only
    refine wpAny_execs_cons ?_
    refine wpAny_If ?_
    refine isTrue_chain ?_ (by with_unfolding_all rfl)
    refine Constant_str ?_
    refine test_link ?_
    refine ldE F₄ es ?_
    refine P.le_str ?_
    refine wpAny_truthy_bool ?_
    refine iteT (notLtS (a := c) (b := 97) rfl (by kernel_rfl) hc.1) ?_
    refine test_last ?_
    refine Constant_str ?_
    refine P.le_str ?_
    refine wpAny_truthy_bool ?_
    refine iteT (notLtS (a := 122) (b := c) (by kernel_rfl) rfl (by lia)) ?_
    refine wpAny_execs_cons ?_
    refine wpAny_Assign_Name ?_ ?hs
    case hs => kernel_rfl
    with_reducible refine tupInts kindsI ?_ ?_ ?_ ?_
    · kernel_rfl
    · kernel_rfl
    · kernel_rfl
    intro vs tk₅ hvs
    rw [kindsI_eq] at hvs
    refine newTupX F₄ (fun h₅ F₅ k₅ t₅ => ?_) (by rw [hvs.length]; decide)
    refine stx F₅ fun h₆ F₆ s₆ => ?_
    try dsimp only at F₆ s₆ t₅ ⊢
    have hTL : h₄.objs.size ≠ s.heap.objs.size := Nat.ne_of_gt F₄.ltL
    have t₆ : IsTup h₆ h₄.objs.size vs.toArray := tupAt t₅ fun o e => (s₆.2 _ hTL).trans e
    have T₆ : TopH w h₆ := F₆.top T fun _ _ e => .inl e
    refine wpAny_execs_cons ?_
    refine wpAny_Return_some ?_
    refine wpAny_BinOp ?_
    refine ldE F₆ eu ?_
    refine bcall1 (id := "chr") T₆ (by kernel_rfl) (by kernel_rfl) (by kernel_rfl) ?_ (by kernel_rfl) (by kernel_rfl) (by kernel_rfl) rfl rfl
    refine wpAny_BinOp ?_
    refine wpAny_BinOp ?_
    refine Subscript_ ?_
    refine ldE F₆ rfl ?_
    refine wpAny_BinOp ?_
    refine ldE F₆ et ?_
    refine wpAny_Constant_int ?_
    refine mod_int (by decide) ?_
    have em : (turn : Int).fmod 12 = ((turn % 12 : Nat) : Int) := by
      rw [Int.fmod_eq_emod_of_nonneg _ (by decide)]; lia
    rw [em]
    have hm12 : turn % 12 < 12 := Nat.mod_lt _ (by decide)
    have hlen : kindsL.length = 12 := rfl
    obtain ⟨kk, hkk⟩ : ∃ k, kindsL[turn % 12]? = some k := ⟨kindsL[turn % 12]'(by lia), by simp⟩
    have hkd : kindsL.getD (turn % 12) 0 = kk := by rw [List.getD_eq_getElem?_getD, hkk]; rfl
    obtain ⟨tk', hx⟩ := hvs.get (turn % 12) (kk : Int) (by rw [List.getElem?_map, hkk]; rfl)
    have hvl : vs.length = 12 := by rw [hvs.length]; rfl
    have hkb : 65 ≤ kk ∧ kk ≤ 120432 := kinds_in kk (List.mem_of_getElem? hkk)
    try dsimp only
    refine subscriptTail_builtin t₆.typeIs slot_tuple_getitem.lookup ?_
    refine getItem_tuple (j := turn % 12) (x := .int (kk : Int) tk') t₆ (by lia) (by lia) (by unfold seqIndex?; simp; lia) (by simpa using hx) ?_
    refine bcall1 (id := "ord") T₆ (by kernel_rfl) (by kernel_rfl) (by kernel_rfl) ?_ (by kernel_rfl) (by kernel_rfl) (by kernel_rfl) rfl rfl
    refine ldE F₆ es ?_
    refine P.ord_of_char ?_
    refine P.add_int ?_
    refine wpAny_Constant_int ?_
    refine P.sub_int ?_
    try dsimp only
    refine P.chr_of_int (chrFits _ (by lia) (by lia)) ?_
    have en : ((kk : Int) + (c : Int) - 97).toNat = kindsL.getD (turn % 12) 0 + c - 97 := by rw [hkd]; lia
    rw [en]
    refine SB.add (fun t₇ tk₇ => ?_) ?_
    · have e : spelled c turn = ⟨(unseenL p).toArray⟩ ++ ⟨#[kindsL.getD (turn % 12) 0 + c - 97]⟩ := by unfold spelled; rw [hpp]
      rw [← e]
      exact h _ _ _ fun b o e => F₆.keep _ _ (.inl e)
    · have := unseen_len p
      rw [sizeLine_eq]
      show (unseenL p).toArray.size + 1 ≤ _
      simp; lia
end
end Mine
namespace Mine
open PySem PySem.W PySem.Challenge PySem.Calls PyProof.Rows

theorem fnB1 (P : Params) : FnAt P 109 (Str.ofString "in_table_b1") (stA 12) (.ref 108) :=
  ⟨⟨o109 P, pmOf (o109 P), by kernel_rfl, by kernel_rfl, by kernel_rfl⟩, ⟨108, o108 P, dFields (o108 P), tokAt (o108 P), rfl, by kernel_rfl, by kernel_rfl, by kernel_rfl, by decide⟩, by decide⟩
theorem fnB3 (P : Params) : FnAt P 155 (Str.ofString "map_table_b3") (stA 14) (.ref 154) :=
  ⟨⟨o155 P, pmOf (o155 P), by kernel_rfl, by kernel_rfl, by kernel_rfl⟩, ⟨154, o154 P, dFields (o154 P), tokAt (o154 P), rfl, by kernel_rfl, by kernel_rfl, by kernel_rfl, by decide⟩, by decide⟩
theorem fnXfrm (P : Params) : FnAt P 63 (Str.ofString "_strxfrm") (stA 3) (.ref 62) :=
  ⟨⟨o63 P, pmOf (o63 P), by kernel_rfl, by kernel_rfl, by kernel_rfl⟩, ⟨62, o62 P, dFields (o62 P), tokAt (o62 P), rfl, by kernel_rfl, by kernel_rfl, by kernel_rfl, by decide⟩, by decide⟩

/-- the set's elements -/
noncomputable def esB (P : Params) : Array (Int × Value) := match (o99 P).data with | .set es _ _ => es | _ => #[]
noncomputable def epB (P : Params) : Nat := match (o99 P).data with | .set _ ep _ => ep | _ => 0
noncomputable def tbB (P : Params) : SetTable := match (o99 P).data with | .set _ _ t => t | _ => .fresh 0 0 false
noncomputable def intsE : List (Int × Value) → List Int
  | (_, .int n _) :: es => n :: intsE es
  | _ => []
noncomputable def inB1 (c : Int) : Bool := b1All.contains c where
  b1All : List Int := [65024, 65025, 65026, 65027, 65028, 65029, 6150, 65030, 65031, 65032, 65033, 6155, 6156, 6157, 8203, 8204, 8205, 65034, 65035, 65036, 65037, 65038, 65039, 173, 847, 8288, 65279]
noncomputable def okE : List (Int × Value) → List Int → Bool
  | (h, .int n t) :: es, m :: ms => h == hashInt n && n == m && (Value.int n t).scannable && okE es ms
  | [], [] => true
  | _, _ => false
theorem okE_elems {w : World} : ∀ (es : List (Int × Value)) (ms : List Int), okE es ms = true → ElemsOf (intKind pw w) es ∧ ∀ k : Int, ms.contains k = true ↔ ∃ e ∈ es, (intKind pw w).is k e.2 = true
  | [], [], _ => ⟨fun e he => by simp at he, fun k => by simp⟩
  | (h, .int n t) :: es, m :: ms, hk => by
    simp only [okE, Bool.and_eq_true, beq_iff_eq] at hk
    obtain ⟨⟨⟨h1, h2⟩, h3⟩, h4⟩ := hk
    subst h1 h2
    obtain ⟨i1, i2⟩ := okE_elems (w := w) es ms h4
    refine ⟨fun e he => ?_, fun k => ?_⟩
    · rcases List.mem_cons.mp he with rfl | he
      · exact ⟨⟨n, intKind_is _ _ _ _, rfl⟩, h3⟩
      · exact i1 e he
    · rw [List.contains_cons, Bool.or_eq_true, beq_iff_eq]
      constructor
      · rintro (rfl | h)
        · exact ⟨_, List.mem_cons_self .., intKind_is _ _ _ _⟩
        · obtain ⟨e, he, hi⟩ := (i2 k).mp h
          exact ⟨e, List.mem_cons_of_mem _ he, hi⟩
      · rintro ⟨e, he, hi⟩
        rcases List.mem_cons.mp he with rfl | he
        · have : Value.isInt k (.int n t) = true := hi
          simp [Value.isInt] at this
          exact .inl this.symm
        · exact .inr ((i2 k).mpr ⟨e, he, hi⟩)
  | [], _ :: _, h | (_, .int _ _) :: _, [], h => by simp [okE] at h
  | (_, .none) :: _, _, h | (_, .ellipsis) :: _, _, h | (_, .notImplemented) :: _, _, h | (_, .bool _) :: _, _, h | (_, .str _ _) :: _, _, h | (_, .float _ _) :: _, _, h | (_, .bytes _ _) :: _, _, h | (_, .type _) :: _, _, h
  | (_, .builtin _) :: _, _, h | (_, .ref _) :: _, _, h => by simp [okE] at h

theorem TopH.b1 {w : World} {h : Heap} (T : TopH w h) : h.SetOf (intKind pw w) 99 (fun k => inB1 k) 27 := by
  have e : h.get? 99 = some (o99 w.params) := T.at_ 99 _ (by kernel_rfl) (by decide)
  have ok : okE (esB w.params).toList inB1.b1All = true := by kernel_rfl
  obtain ⟨i1, i2⟩ := okE_elems (w := w) _ _ ok
  have hs : (esB w.params).size = 27 := by kernel_rfl
  refine ⟨_, esB w.params, epB w.params, tbB w.params, e, ⟨by kernel_rfl, by kernel_rfl, by kernel_rfl⟩, by kernel_rfl, i1, i2, ?_, by kernel_rfl, hs⟩
  rw [hs]; decide

noncomputable def b3at (c : Int) : Option Str := (b3data.find? fun d => decide (d.1 = c)).map (·.2)
theorem Carr.get : ∀ {ds : List (Int × Str)} {ks : List (Int × Value)} (k : Int), Carr ds ks →
    (valueAt ks k = none ∧ (ds.find? fun d => decide (d.1 = k)).map (·.2) = none) ∨ ∃ x t, valueAt ks k = some (.str x t) ∧ (ds.find? fun d => decide (d.1 = k)).map (·.2) = some x
  | [], [], k, _ => .inl ⟨rfl, rfl⟩
  | d :: ds, kv :: ks, k, h => by
    obtain ⟨e, ⟨t, et⟩, h⟩ := h
    by_cases hk : kv.1 = k
    · refine .inr ⟨d.2, t, ?_, ?_⟩
      · simp [valueAt, hk, et]
      · simp [e, hk]
    · have := Carr.get k h
      simpa [valueAt, e, hk] using this
  | [], _ :: _, _, h => h.elim
  | _ :: _, [], _, h => h.elim

noncomputable def lowerS (x : Str) : Str := ⟨placed x fun i _ => Unicode.lowerAt x.cps i⟩
noncomputable def mapB3 (c : Nat) : Str := (b3at c).getD (lowerS ⟨#[c]⟩)

section
variable {w : World} {A : Around} {E : Value → Shared → Prop} {s : Shared} {n : Nat} {Q : Value → Shared → Prop}

theorem b1_call {c : Nat} {t : Tok} (T : TopH w s.heap) (hr : Room A (n + 1))
    (h : ∀ h' tk, (∀ b o, s.heap.get? b = some o → h'.get? b = some o) → Q (.bool (inB1 c)) { s with heap := h', toks := tk }) :
    wpAny (model pw w) A (call (.ref 109) [.str ⟨#[c]⟩ t]) Q E s := by
  refine wpAny_call (enterX [Str.ofString "code"] T hr (fnB1 _) (by kernel_rfl) (by kernel_rfl) (fun pm => by kernel_rfl) (by kernel_rfl) (by kernel_rfl) (by kernel_rfl) (fun h₁ tk htk F T₁ hr₁ => ?_))
  refine wpAny_execs_cons ?_
  refine wpAny_Return_some ?_
  refine wpAny_Compare1 ?_
  refine bcall1 (id := "ord") T₁ (by kernel_rfl) (by kernel_rfl) (by kernel_rfl) ?_ (by kernel_rfl) (by kernel_rfl) (by kernel_rfl) rfl rfl
  refine ldE F rfl ?_
  refine P.ord_of_char ?_
  refine nameG (v := .ref 99) T₁ ?_ (by kernel_rfl) (by kernel_rfl) (by kernel_rfl) (by kernel_rfl) rfl
  refine wpAny_inSet_of (knd := intKind pw w) (intKind_is _ _ _ _) rfl T₁.b1 ?_
  exact h _ _ F.keep

theorem b3_call {c : Nat} {t : Tok} (T : TopH w s.heap) (hr : Room A (n + 1)) (hlow : Builtin.Str.tooLong (placed ⟨#[c]⟩ fun i _ => Unicode.lowerAt (#[c]) i).size = false)
    (h : ∀ h' t' tk, (∀ b o, s.heap.get? b = some o → h'.get? b = some o) → Q (.str (mapB3 c) t') { s with heap := h', toks := tk }) :
    wpAny (model pw w) A (call (.ref 155) [.str ⟨#[c]⟩ t]) Q E s := by
  obtain ⟨kvs, hC, hD⟩ := T.dict
  refine wpAny_call (enterX [Str.ofString "code"] T hr (fnB3 _) (by kernel_rfl) (by kernel_rfl) (fun pm => by kernel_rfl) (by kernel_rfl) (by kernel_rfl) (by kernel_rfl) (fun h₁ tk htk F T₁ hr₁ => ?_))
  have D₁ : h₁.DictOf (intKind pw w) 110 kvs := hD.keep F.keep
  refine wpAny_execs_cons ?_
  refine wpAny_Assign_Name ?_ ?hs
  case hs => kernel_rfl
  refine Call_method1 (by kernel_rfl) (by kernel_rfl) (by kernel_rfl) ?_
  refine nameG (v := .ref 110) T₁ ?_ (by kernel_rfl) (by kernel_rfl) (by kernel_rfl) (by kernel_rfl) rfl
  refine ⟨"dict", "dict.get", PySem.F.plainAttrs_dict, PySem.F.slot_dict_get, PySem.F.type_dict_get, D₁.typeIs, D₁.mapOf.noDict, ?_⟩
  refine wpAny_dict_get1 (knd := intKind pw w) (by decide) ?_
  refine bcall1 (id := "ord") T₁ (by kernel_rfl) (by kernel_rfl) (by kernel_rfl) ?_ (by kernel_rfl) (by kernel_rfl) (by kernel_rfl) rfl rfl
  refine ldE F rfl ?_
  refine P.ord_of_char ?_
  refine ⟨(c : Nat), valueAt kvs, intKind_is _ _ _ _, D₁.mapOf, ?_⟩
  dsimp only
  rcases hC.get (c : Int) with ⟨e1, e2⟩ | ⟨x, tx, e1, e2⟩
  · rw [e1]
    refine stx F fun h₂ F₂ _ => ?_
    dsimp only at F₂ ⊢
    refine wpAny_execs_cons ?_
    refine wpAny_If ?_
    refine wpAny_isTrue_Compare1 ?_
    refine ldE F₂ rfl ?_
    refine Constant_none ?_
    refine wpAny_isNot_self rfl ?_
    refine wpAny_truthy_bool ?_
    refine wpAny_execs_nil ?_
    refine wpAny_execs_cons ?_
    refine wpAny_Return_some ?_
    refine Call_method0 (by kernel_rfl) (by kernel_rfl) ?_
    refine ldE F₂ rfl ?_
    refine MethodOnS.str0 PySem.F.slot_str_lower PySem.F.type_str_lower PySem.F.entry_str_lower (PySem.F.args_str_lower_1 _) (gives_str_lower _ _ hlow) ?_
    have e : mapB3 c = lowerS ⟨#[c]⟩ := by unfold mapB3 b3at; rw [e2]; rfl
    have hg : ∀ t' tk', Q (.str (lowerS ⟨#[c]⟩) t') { s with heap := h₂, toks := tk' } := fun t' tk' => by rw [← e]; exact h _ _ _ F₂.keep
    refine ⟨?_, hg _ _⟩
    have : ¬ ((placed ⟨#[c]⟩ fun i _ => Unicode.lowerAt (#[c]) i).size > sizeLine) := fun hb => by
      have : Builtin.Str.tooLong (placed ⟨#[c]⟩ fun i _ => Unicode.lowerAt (#[c]) i).size = true := decide_eq_true hb
      rw [hlow] at this; cases this
    exact Nat.not_lt.mp this
  · rw [e1]
    refine stx F fun h₂ F₂ _ => ?_
    dsimp only at F₂ ⊢
    refine wpAny_execs_cons ?_
    refine wpAny_If ?_
    refine wpAny_isTrue_Compare1 ?_
    refine ldE F₂ rfl ?_
    refine Constant_none ?_
    refine isnot_str_none ?_
    refine wpAny_truthy_bool ?_
    refine wpAny_execs_cons ?_
    refine wpAny_Return_some ?_
    refine ldE F₂ rfl ?_
    have e : mapB3 c = x := by unfold mapB3 b3at; rw [e2]; rfl
    rw [← e]
    exact h _ _ _ F₂.keep
end
end Mine
namespace Mine
open PySem PySem.W PySem.Challenge PySem.Calls PyProof.Rows

theorem pyIter_strY {w : World} {A : Around} {E : Value → Shared → Prop} {s : Shared} {x : Str} {t : Tok} {Q : Value → Shared → Prop}
    (hQ : ∀ (o : Obj) (St : Nat → Heap → Prop), (∀ A' : Around, A'.handled = none → WalksX w A' s.heap.objs.size [s.heap.objs.size] [s.heap.objs.size] x.cps.size (SignAtK x) St ∧
      Draws pw w A'.in1 s.heap.objs.size [s.heap.objs.size] x.cps.size (fun i v => ∃ c u, x.cps[i]? = some c ∧ v = .str ⟨#[c]⟩ u) St) →
      (∀ (A' : Around) (s' : Shared) (Q' : Value → Shared → Prop) (E' : Value → Shared → Prop), A'.handled = none → St 0 s'.heap → Q' (.ref s.heap.objs.size) s' → wpAny (model pw w) A' (pyIter (.ref s.heap.objs.size)) Q' E' s') → St 0 (s.heap.push o) →
      Q (.ref s.heap.objs.size) { s with heap := s.heap.push o }) : wpAny (model pw w) A (pyIter (.str x t)) Q E s := by
  cases ha : x.cps.all (· < 128)
  · refine wpAny_pyIter_wide ha (hQ _ (fun i h => h.IsStrIter s.heap.objs.size "str_iterator" x t i) (fun A' hA => ⟨⟨(Walks.strWide (prog := pw) (w := w) hA _ x t).sub, (Walks.strWide (prog := pw) (w := w) hA _ x t).frame, ?_, (Walks.strWide (prog := pw) (w := w) hA _ x t).done⟩, Draws.strWide (A := A'.in1) hA _ x t⟩)
      (fun A' s' Q' E' hA hst hq => (Walks.strWide (prog := pw) (w := w) hA _ x t).self 0 s' Q' E' hst hq) ⟨_, Heap.get?_push_size _ rfl, rfl, rfl⟩)
    intro i s Q E hi st hQ
    refine wpAny_pyNext_wide_item st (c := x.cps[i]) (by simp [hi]) fun h' hit' hs' => ?_
    exact hQ _ h' (s.toks + 1) ⟨_, _, by simp [hi], rfl, Nat.le_refl _⟩ hit' fun b o hb e => hs'.extBut b o (fun h => hb (by simp [h])) e
  · refine wpAny_pyIter_ascii ha (hQ _ (fun i h => h.IsStrIter s.heap.objs.size "str_ascii_iterator" x t i) (fun A' hA => ⟨⟨(Walks.strAscii (prog := pw) (w := w) hA _ x t).sub, (Walks.strAscii (prog := pw) (w := w) hA _ x t).frame, ?_, (Walks.strAscii (prog := pw) (w := w) hA _ x t).done⟩, Draws.strAscii (A := A'.in1) hA _ x t⟩)
      (fun A' s' Q' E' hA hst hq => (Walks.strAscii (prog := pw) (w := w) hA _ x t).self 0 s' Q' E' hst hq) ⟨_, Heap.get?_push_size _ rfl, rfl, rfl⟩)
    intro i s Q E hi st hQ
    refine wpAny_pyNext_ascii_item st (c := x.cps[i]) (by simp [hi]) fun h' hit' hs' => ?_
    exact hQ _ h' (s.toks + 1) ⟨_, _, by simp [hi], rfl, Nat.le_refl _⟩ hit' fun b o hb e => hs'.extBut b o (fun h => hb (by simp [h])) e

section
variable {w : World} {A : Around} {E : Value → Shared → Prop} {s : Shared} {n : Nat}

/-- a comprehension over a str's signs -/
theorem strComp {env : Env} {scope : Scope} {cl : List (Str × Addr)} {x : Str} {ifs : List Expr} {elt : Expr} {y : Str} {t : Tok} {Q : Value → Shared → Prop} (K : Addr → Obj → Prop) (J : Nat → Heap → List Value → Prop)
    (hh : A.handled = none) (hn : y.length ≤ sizeLine) (keep : ∀ b o, K b o → s.heap.get? b = some o)
    (stable : ∀ i h h' vs, J i h vs → (∀ b o, s.heap.get? b ≠ none → h.get? b = some o → h'.get? b = some o) → J i h' vs)
    (h0 : J 0 s.heap [])
    (step : ∀ i c u tk m h₁ C vs (K' : Addr → Obj → Prop), (∀ b o, K b o → K' b o) → (∀ b o, K' b o → K b o ∨ s.heap.get? b = none) → s.heap.get? C = none → y.cps[i]? = some c → s.toks ≤ tk → J i h₁ vs → vs.length ≤ i →
      Fx K' C h₁ m → m x = some (.str ⟨#[c]⟩ u) →
      wpAny (model pw w) A (forIn ifs true fun c r => if r = true then do let ok ← isTrue c (compEnvC scope cl C env) (eval c (compEnvC scope cl C env)); pure (ForInStep.yield ok) else pure (ForInStep.yield r))
        (fun ok s₃ => if ok = true then wpAny (model pw w) A (eval elt (compEnvC scope cl C env)) (fun y s₄ => ∃ h₄ tk₄ m₄, s₄ = { s with heap := h₄, toks := tk₄ } ∧ Fx K' C h₄ m₄ ∧ J (i + 1) h₄ (vs ++ [y])) (fun _ _ => False) s₃
          else ∃ h₃ tk₃ m₃, s₃ = { s with heap := h₃, toks := tk₃ } ∧ Fx K' C h₃ m₃ ∧ J (i + 1) h₃ vs) (fun _ _ => False) { s with heap := h₁, toks := tk })
    (fin : ∀ h tk D vs, s.toks ≤ tk → (∀ b o, K b o → h.get? b = some o) → s.heap.get? D = none → h.PlainList D vs.toArray → J y.cps.size h vs → Q (.ref D) { s with heap := h, toks := tk }) :
    wpAny (model pw w) A (pyIter (.str y t)) (fun it s₂ => ∃ I fp wr n P St K J, it = .ref I ∧ CompOK w A env scope cl x ifs elt I fp wr n P St K J Q s₂) E s := by
  refine pyIter_strY fun o St W self h0' => ?_
  have hI : s.heap.get? s.heap.objs.size = none := gone_of_size (Nat.le_refl _)
  refine ⟨s.heap.objs.size, [s.heap.objs.size], [s.heap.objs.size], y.cps.size, _, _, K, J, rfl, ⟨(W A hh).1, fun s' Q' E' hst hq => self A s' Q' E' hh hst hq, hn, h0', ?_, fun b o e => Heap.get?_push_of_some _ (keep b o e), ?_, ?_, ?_, ?_, ?_⟩⟩
  · intro b hb; simp at hb; subst hb; show s.heap.objs.size < (s.heap.push _).objs.size; rw [Heap.size_push]; exact Nat.lt_succ_self _
  · intro b hb o e; simp at hb; subst hb; have := keep _ o e; rw [hI] at this; cases this
  · intro i h h' vs hJ k
    exact stable i h h' vs hJ fun b o hne e => k b o (notNone_push _ hne) (by simp; rintro rfl; exact hne hI) e
  · exact stable 0 _ _ [] h0 fun b o _ e => Heap.get?_push_of_some _ e
  · rintro i v tk m h₁ tk₀ C vs K' hK hK' hC hi htk₀ htk₁ ⟨c, u, hc, rfl, _⟩ hJ hlen F hm
    exact step i c u tk m h₁ C vs K' hK (fun b o e => (hK' b o e).imp id fun e => e.elim (fun e => by simp at e; rw [e]; exact hI) (none_of_push _)) (none_of_push _ hC) hc (Nat.le_trans htk₀ htk₁) hJ hlen F hm
  · intro h tk D vs htk hk hD hP hJ
    exact fin h tk D vs htk hk (none_of_push _ hD) hP hJ

/-- ''.join(...) -/
theorem joinX {env : Env} {sep : Str} {k : Nat} {sp apos pos : Pos} {e : Expr} {Q : Value → Shared → Prop}
    (hbase : attributeBase (.Constant (.str sep) k sp) (Str.ofString "join") env (eval (.Constant (.str sep) k sp) env) = eval (.Constant (.str sep) k sp) env) (hs : starEach [e] env = [(false, eval e env)]) (hline : (apos.endLine == pos.line) = true)
    (h : wpAny (model pw w) A (eval e env) (fun v s₁ => ∃ D vs ys, v = .ref D ∧ s₁.heap.PlainList D (vs : List Value).toArray ∧ StrsAre vs ys ∧ sep.length ≤ 64 ∧ (ys.map (·.length)).sum + ys.length * 64 ≤ 16777216 ∧ ∀ t tk, Q (.str (Txt.join sep ys) t) { s₁ with toks := tk }) E { s with toks := s.toks + 1 }) :
    wpAny (model pw w) A (eval (.Call (.Attribute (.Constant (.str sep) k sp) (Str.ofString "join") apos) [e] [] pos) env) Q E s := by
  refine Call_method1 hbase hs hline ?_
  refine Constant_str ?_
  refine ⟨"str", "str.join", PySem.F.plainAttrs_str, PySem.F.slot_str_join, PySem.F.type_str_join, typeIs_str _ _ _, (fun _ e => nomatch e), ?_⟩
  refine callWith_builtin rfl (evalArgs_plain (spliced_cons (wpAny_mono h (fun v s₁ h₁ => spliced_nil ?_) fun _ _ e => e)))
  obtain ⟨D, vs, ys, rfl, hP, hS, h1, h2, hq⟩ := h₁
  exact join_listC hP.isList (by simpa using hS) h1 h2 fun t' k => hq t' k
end
theorem fnPrepared (P : Params) : FnAt P 179 (Str.ofString "_law_prepared") (stA 19) (.ref 178) :=
  ⟨⟨o179 P, pmOf (o179 P), by kernel_rfl, by kernel_rfl, by kernel_rfl⟩, ⟨178, o178 P, dFields (o178 P), tokAt (o178 P), rfl, by kernel_rfl, by kernel_rfl, by kernel_rfl, by decide⟩, by decide⟩

noncomputable def prepL (l : List Nat) : List Str := (l.filter fun c : Nat => !inB1 (c : Int)).map mapB3
noncomputable def prepared (x : Str) : Str := Txt.join ⟨#[]⟩ (prepL x.cps.toList)
theorem prepL_snoc (l : List Nat) (c : Nat) : prepL (l ++ [c]) = prepL l ++ (if inB1 c then [] else [mapB3 c]) := by
  unfold prepL
  rw [List.filter_append, List.map_append]
  cases h : inB1 c <;> simp [h]

section
variable {w : World} {A : Around} {E : Value → Shared → Prop} {s : Shared} {n : Nat} {Q : Value → Shared → Prop}
theorem prepared_call {x : Str} {t : Tok} (T : TopH w s.heap) (hr : Room A (n + 2)) (hx : x.length ≤ 1000) (hc : ∀ c ∈ x.cps.toList, inB1 c = false → Builtin.Str.tooLong (placed ⟨#[c]⟩ fun i _ => Unicode.lowerAt (#[c]) i).size = false)
    (hj : ((prepL x.cps.toList).map (·.length)).sum + (prepL x.cps.toList).length * 64 ≤ 16777216)
    (h : ∀ h' t' tk, (∀ b o, s.heap.get? b = some o → h'.get? b = some o) → Q (.str (prepared x) t') { s with heap := h', toks := tk }) :
    wpAny (model pw w) A (call (.ref 179) [.str x t]) Q E s := by
  refine wpAny_call (enterX [Str.ofString "word"] T hr (fnPrepared _) (by kernel_rfl) (by kernel_rfl) (fun pm => by kernel_rfl) (by kernel_rfl) (by kernel_rfl) (by kernel_rfl) (fun h₁ tk htk F T₁ hr₁ => ?_))
  have hr₂ : Room (A.deeper (envOf (Str.ofString "_law_prepared") (fScope (stA 19)) s.heap.objs.size 179 (Value.ref 178))) (n + 1) := hr₁
  refine wpAny_execs_cons ?_
  refine wpAny_Return_some ?_
  refine joinX (by kernel_rfl) (by kernel_rfl) (by kernel_rfl) ?_
  refine compB (cl := []) (by kernel_rfl) (by kernel_rfl) (by kernel_rfl) (by kernel_rfl) (by kernel_rfl) (by intro _; kernel_rfl) ?_
  refine ldE F rfl ?_
  refine strComp (kp s.heap) (fun i _ vs => StrsAre vs (prepL (x.cps.toList.take i))) hr₁.handled (by rw [sizeLine_eq]; lia) (fun b o e => F.keep b o e) (fun _ _ _ _ e _ => e) .nil ?_ ?_
  · rintro i c u tk₂ m h₂ C vs K' hK hK' hC hci htk₂ hJ hlen F₂ hm
    have T₂ : TopH w h₂ := F₂.top T hK
    have hci' : x.cps.toList[i]? = some c := by simpa using hci
    have hsn : x.cps.toList.take (i + 1) = x.cps.toList.take i ++ [c] := take_one hci'
    dsimp only
    refine wpAny_tests_one ?_
    refine wpAny_isTrue_Not ?_
    refine wpAny_isTrue_value ?_ (by kernel_rfl)
    refine gcall1 T₂ (fnB1 _) (by kernel_rfl) (by kernel_rfl) ?_ (by kernel_rfl) (by kernel_rfl) (by kernel_rfl) rfl
    refine ldE F₂ hm ⟨T₂, ?_⟩
    refine b1_call T₂ hr₂ fun h₃ tk₃ k₃ => ?_
    have F₃ := F₂.keeps k₃
    have T₃ := T₂.keeps k₃
    refine wpAny_truthy_bool ?_
    cases hb : inB1 c with
    | true =>
      refine ⟨_, _, _, rfl, F₃, ?_⟩
      rw [hsn, prepL_snoc, hb]
      simpa using hJ
    | false =>
      show wpAny _ _ _ _ _ _
      refine gcall1 T₃ (fnB3 _) (by kernel_rfl) (by kernel_rfl) ?_ (by kernel_rfl) (by kernel_rfl) (by kernel_rfl) rfl
      refine ldE F₃ hm ⟨T₃, ?_⟩
      refine b3_call T₃ hr₂ (hc c (List.mem_of_getElem? hci') hb) fun h₄ t₄ tk₄ k₄ => ?_
      refine ⟨_, _, _, rfl, F₃.keeps k₄, ?_⟩
      rw [hsn, prepL_snoc, hb]
      exact StrsAre.snoc hJ
  · intro h₂ tk₂ D vs htk₂ k₂ hD PD hJ
    have e : x.cps.toList.take x.cps.size = x.cps.toList := List.take_of_length_le (by simp)
    rw [e] at hJ
    refine ⟨D, vs, _, rfl, PD, hJ, by decide, hj, fun t' tk' => ?_⟩
    exact h _ _ _ fun b o e => k₂ _ _ e
end
end Mine
namespace Mine
open PySem PySem.W PySem.Challenge PySem.Calls PyProof.Rows

theorem fnWritten (P : Params) : FnAt P 174 (Str.ofString "_law_written") (stA 18) (.ref 173) :=
  ⟨⟨o174 P, pmOf (o174 P), by kernel_rfl, by kernel_rfl, by kernel_rfl⟩, ⟨173, o173 P, dFields (o173 P), tokAt (o173 P), rfl, by kernel_rfl, by kernel_rfl, by kernel_rfl, by decide⟩, by decide⟩

noncomputable def spL (l : List Nat) (seed : Nat) : List Str := l.zipIdx.map fun ci => spelled ci.1 (seed * (ci.2 + 1) + ci.2)
noncomputable def signsOf (name : Str) (seed : Nat) : Str := Txt.join ⟨#[]⟩ (spL name.cps.toList seed)
noncomputable def inQ (c : Nat) : Bool := !(Builtin.Str.occurrences ⟨#[34, 92]⟩ ⟨#[c]⟩ 0 2 1).isEmpty
noncomputable def bs (c : Nat) : Str := ⟨#[92]⟩ ++ ⟨#[c]⟩
noncomputable def qL (x : Str) : List Str := x.cps.toList.map fun c => if inQ c then bs c else ⟨#[c]⟩
noncomputable def uL (x : Str) : List Str := x.cps.toList.map bs
noncomputable def written (name : Str) (seed : Nat) (q : Bool) : Str :=
  if q then (⟨#[34]⟩ ++ Txt.join ⟨#[]⟩ (qL (signsOf name seed))) ++ ⟨#[34]⟩ else Txt.join ⟨#[]⟩ (uL (signsOf name seed))
theorem spL_take {l : List Nat} {seed i c : Nat} (h : l[i]? = some c) : (spL l seed).take (i + 1) = (spL l seed).take i ++ [spelled c (seed * (i + 1) + i)] := by
  refine take_one ?_
  unfold spL
  rw [List.getElem?_map, List.getElem?_zipIdx, h]; simp
theorem spelled_len (c t : Nat) : (spelled c t).length ≤ 2 := by
  unfold spelled
  rw [Str.length_append]
  have := unseen_len (t / 12 % 28)
  show (unseenL (t / 12 % 28)).toArray.size + 1 ≤ 2
  simp; lia

theorem iteOn {b c : Bool} {P Q : Prop} (e : b = c) (hp : c = true → P) (hq : c = false → Q) : if b = true then P else Q := by
  subst e
  cases h : b
  · rw [if_neg (by simp)]; exact hq h
  · rw [if_pos rfl]; exact hp h
theorem sumLen_le (b : Nat) : ∀ (l : List Str), (∀ x ∈ l, x.length ≤ b) → (l.map (·.length)).sum ≤ l.length * b
  | [], _ => by simp
  | x :: l, h => by
    have h1 := h x (List.mem_cons_self ..)
    have h2 := sumLen_le b l fun y hy => h y (List.mem_cons_of_mem _ hy)
    simp only [List.map_cons, List.sum_cons, List.length_cons, Nat.succ_mul]
    lia
theorem join_nil_cons (x : Str) (l : List Str) : Str.join ⟨#[]⟩ (x :: l) = x ++ Str.join ⟨#[]⟩ l := by
  cases l with
  | nil => simp [Str.join, Str.empty]; rfl
  | cons y l => simp [Str.join]; rfl
theorem join_len (l : List Str) : (Str.join ⟨#[]⟩ l).length = (l.map (·.length)).sum := by
  induction l with
  | nil => rfl
  | cons x l ih => rw [join_nil_cons, Str.length_append, ih]; rfl
theorem spL_len (l : List Nat) (seed : Nat) : (spL l seed).length = l.length := by simp [spL]
theorem spL_each (l : List Nat) (seed : Nat) : ∀ x ∈ spL l seed, x.length ≤ 2 := by
  intro x hx
  obtain ⟨ci, _, rfl⟩ := List.mem_map.mp hx
  exact spelled_len _ _

section
variable {w : World} {A : Around} {E : Value → Shared → Prop} {s : Shared} {n : Nat} {Q : Value → Shared → Prop}

theorem drawsStr {I : Addr} {name : Str} {t : Tok} {h : Heap} (hh : A.handled = none) (hit : h.IsStrIter I (strIterType name) name t 0) :
    ∃ St : Nat → Heap → Prop, Draws pw w A.in1 I [I] name.cps.size (fun i v => ∃ c u, name.cps[i]? = some c ∧ v = .str ⟨#[c]⟩ u) St ∧ St 0 h := by
  cases ha : name.cps.all (· < 128)
  · refine ⟨_, Draws.strWide (A := A.in1) hh _ name t, ?_⟩
    simpa [strIterType, ha] using hit
  · refine ⟨_, Draws.strAscii (A := A.in1) hh _ name t, ?_⟩
    simpa [strIterType, ha] using hit

theorem written_call {name : Str} {seed : Nat} {q : Int} {t u v : Tok} (T : TopH w s.heap) (hr : Room A (n + 2)) (hn : name.length ≤ 100) (hl : ∀ c ∈ name.cps.toList, 97 ≤ c ∧ c ≤ 99) (hsl : (signsOf name seed).length ≤ 1000)
    (h : ∀ h' t' tk, (∀ b o, s.heap.get? b = some o → h'.get? b = some o) → Q (.str (written name seed (q != 0)) t') { s with heap := h', toks := tk }) :
    wpAny (model pw w) A (call (.ref 174) [.str name t, .int (seed : Nat) u, .int q v]) Q E s := by
  refine wpAny_call (enterC [Str.ofString "name", Str.ofString "seed", Str.ofString "quoted"] T hr (fnWritten _) (by intro _; kernel_rfl) (fun pm => by kernel_rfl) (by kernel_rfl) (by kernel_rfl) (fun h₁ tk htk F X T₁ hr₁ => ?_))
  have hr₂ : Room (A.deeper (envOfC (Str.ofString "_law_written") (fScope (stA 18)) s.heap.objs.size 174 (Value.ref 173))) (n + 1) := hr₁
  have hh := hr₁.handled
  obtain ⟨oc, F, hoc⟩ := F.cell (X.cell (Str.ofString "seed") (s.heap.objs.size + 1) (by kernel_rfl)) (Nat.ne_of_gt (Nat.lt_succ_self _))
  have hoc : oc.data = .cell (some (.int (seed : Nat) u)) := hoc
  refine wpAny_execs_cons ?_
  refine wpAny_Assign_Name ?_ ?hs
  case hs => kernel_rfl
  refine joinX (by kernel_rfl) (by kernel_rfl) (by kernel_rfl) ?_
  refine compU (cl := [(Str.ofString "seed", s.heap.objs.size + 1)]) hh (by kernel_rfl) (by kernel_rfl) (by kernel_rfl) (by kernel_rfl) (by kernel_rfl) (by kernel_rfl) (by decide) (by intro _; kernel_rfl) ?_
  refine tcall1 (id := "enumerate") T₁ (by kernel_rfl) (by kernel_rfl) (by kernel_rfl) ?_ (by kernel_rfl) (by kernel_rfl) (by kernel_rfl) rfl rfl
  refine ldE F rfl ?_
  refine call_enumerate_str fun h₂ he hit hz k₂ => ?_
  dsimp only at he hit hz k₂ ⊢
  refine wpAny_pyIter_enum he ?_
  have h1S : h₁.get? h₁.objs.size = none := gone_of_size (Nat.le_refl _)
  have h1S1 : h₁.get? (h₁.objs.size + 1) = none := gone_of_size (Nat.le_succ _)
  have D := drawsStr (w := w) hh hit
  obtain ⟨St, D, hSt⟩ := D
  have W := (WalksT.enumerateD D (h₁.objs.size + 1) (Nat.succ_ne_self _) (by simp) (by simp)).toU
  refine ⟨_, _, _, _, _, _, _, kp h₁, fun i _ vs => StrsAre vs ((spL name.cps.toList seed).take i), rfl, ?_, ⟨W, ?_, ?_, ⟨⟨_, he⟩, hSt⟩, ?_, fun b o e => k₂ b o e, ?_, fun _ _ _ _ e _ => e, .nil, ?_, ?_⟩⟩
  · intro C o e e'
    have e' : h₁.get? C = some o := e'
    have e : h₂.get? C = none := e
    rw [k₂ _ _ e'] at e; cases e
  · rintro i vals ⟨t, x, _, rfl⟩; exact ⟨_, _, rfl⟩
  · rw [sizeLine_eq]; have : name.cps.size ≤ 100 := hn; lia
  · intro b hb
    simp only [List.mem_cons, List.not_mem_nil, or_false] at hb
    show b < h₂.objs.size
    rw [hz]
    rcases hb with rfl | rfl
    · exact Nat.lt_succ_self _
    · exact Nat.lt_succ_of_lt (Nat.lt_succ_self _)
  · intro b hb o e
    simp only [List.mem_cons, List.not_mem_nil, or_false] at hb
    have e : h₁.get? b = some o := e
    rcases hb with rfl | rfl
    · rw [h1S1] at e; cases e
    · rw [h1S] at e; cases e
  · rintro i a b tk₃ m h₃ C vs K' hK hK' hC hi htk₃ ⟨ti, x, ⟨c, uc, hci, rfl⟩, hab⟩ hJ hlen F₃ ma mb
    simp only [Array.mk.injEq, List.cons.injEq, and_true] at hab
    obtain ⟨rfl, rfl⟩ := hab
    have T₃ : TopH w h₃ := F₃.top T₁ hK
    have hci' : name.cps.toList[i]? = some c := by simpa using hci
    have hi100 : i < 100 := by have : name.cps.size ≤ 100 := hn; lia
    dsimp only
    refine gcall2 T₃ (fnSpelled _) (by kernel_rfl) (by kernel_rfl) ?_ (by kernel_rfl) (by kernel_rfl) (by kernel_rfl) rfl
    refine ldE F₃ mb ?_ (by kernel_rfl) (by kernel_rfl)
    refine wpAny_BinOp ?_
    refine wpAny_BinOp ?_
    refine ldCell (c := s.heap.objs.size + 1) (by kernel_rfl) (F₃.keep _ _ (hK _ _ (F.keep _ _ (.inr ⟨rfl, rfl⟩)))) hoc ?_ (by kernel_rfl) (by kernel_rfl)
    refine wpAny_BinOp ?_
    refine ldE F₃ ma ?_ (by kernel_rfl) (by kernel_rfl)
    refine wpAny_Constant_int ?_
    refine P.add_int ?_
    refine P.mul_int ?_ (IntMulOk.of_right (PySem.intBits_le_64 (by lia) (by lia)))
    refine ldE F₃ ma ?_ (by kernel_rfl) (by kernel_rfl)
    refine P.add_int ?_
    have et : (seed : Int) * ((i : Int) + 1) + (i : Int) = ((seed * (i + 1) + i : Nat) : Int) := by simp
    rw [et]
    refine ⟨T₃, ?_⟩
    dsimp only
    refine spelled_call T₃ hr₂ (hl c (List.mem_of_getElem? hci')) fun h₄ t₄ tk₄ k₄ => ?_
    refine ⟨_, _, _, rfl, F₃.keeps k₄, ?_⟩
    rw [spL_take hci']
    exact StrsAre.snoc hJ
  · rintro h₃ tk₃ C D vs m htk₃ k₃ hD hC hDC hn₃ PD hJ
    have e : (spL name.cps.toList seed).take name.cps.size = spL name.cps.toList seed := List.take_of_length_le (by rw [spL_len]; simp)
    rw [e] at hJ
    refine ⟨h₃, D, vs, m, tk₃, rfl, rfl, hDC, hn₃, PD, fun h₄ k₄ kC P₄ => ?_⟩
    have hln := spL_len name.cps.toList seed
    have hln2 : name.cps.toList.length ≤ 100 := by have : name.cps.size ≤ 100 := hn; simpa using this
    have hsum := sumLen_le 2 (spL name.cps.toList seed) (spL_each _ _)
    refine ⟨D, vs, _, rfl, P₄, hJ, by decide, by lia, fun t₅ tk₅ => ?_⟩
    have F₄ : Fx (fun b o => s.heap.get? b = some o ∨ (b = s.heap.objs.size + 1 ∧ o = oc)) s.heap.objs.size h₄ _ := F.keeps k₄
    have T₄ : TopH w h₄ := F₄.top T fun b o e => .inl e
    dsimp only
    refine stx F₄ fun h₆ F₆ _ => ?_
    dsimp only at F₆ ⊢
    have T₆ : TopH w h₆ := F₆.top T fun b o e => .inl e
    have hsg : Txt.join (Str.ofString "") (spL name.cps.toList seed) = signsOf name seed := rfl
    rw [hsg] at F₆
    obtain ⟨sg, hsgd⟩ : ∃ sg, signsOf name seed = sg := ⟨_, rfl⟩
    have hfin : ∀ b h' t' tk, b = (q != 0) → (∀ b o, s.heap.get? b = some o → h'.get? b = some o) → Q (.str (if b then (⟨#[34]⟩ ++ Txt.join ⟨#[]⟩ (qL sg)) ++ ⟨#[34]⟩ else Txt.join ⟨#[]⟩ (uL sg)) t') { s with heap := h', toks := tk } := by
      rintro b h' t' tk rfl k
      have := h h' t' tk k
      unfold written at this
      rwa [hsgd] at this
    rw [hsgd] at F₆ hsl
    refine wpAny_execs_cons ?_
    refine wpAny_If ?_
    refine wpAny_isTrue_value ?_ (by kernel_rfl)
    refine ldE F₆ rfl ?_
    refine P.truthy_int ?_
    have hsl2 : sg.cps.toList.length ≤ 1000 := by have : sg.cps.size ≤ 1000 := hsl; simpa using this
    have hbs : ∀ c : Nat, (bs c).length = 2 := fun c => by unfold bs; rw [Str.length_append]; rfl
    cases hq : (q != 0) with
    | false =>
      refine wpAny_execs_nil ?_
      refine wpAny_execs_cons ?_
      refine wpAny_Return_some ?_
      refine joinX (by kernel_rfl) (by kernel_rfl) (by kernel_rfl) ?_
      refine compB (cl := []) (by kernel_rfl) (by kernel_rfl) (by kernel_rfl) (by kernel_rfl) (by kernel_rfl) (by intro _; kernel_rfl) ?_
      refine ldE F₆ rfl ?_
      refine strComp (kp h₆) (fun i _ vs => StrsAre vs ((uL sg).take i)) hh (by rw [sizeLine_eq]; lia) (fun b o e => e) (fun _ _ _ _ e _ => e) .nil ?_ ?_
      · rintro i c u tk₇ m₇ h₇ C vs K' hK hK' hC hci htk₇ hJ hlen F₇ hm
        have hci' : sg.cps.toList[i]? = some c := by simpa using hci
        refine wpAny_tests_nil ?_
        rw [if_pos rfl]
        refine wpAny_BinOp ?_
        refine Constant_str ?_
        refine ldE F₇ hm ?_ (by kernel_rfl) (by kernel_rfl)
        refine SB.add (fun t₈ tk₈ => ?_) (by show 1 + 1 ≤ sizeLine; decide)
        refine ⟨_, _, _, rfl, F₇, ?_⟩
        rw [take_one (x := bs c) (by unfold uL; rw [List.getElem?_map, hci']; rfl)]
        exact StrsAre.snoc hJ
      · intro h₇ tk₇ D vs htk₇ k₇ hD PD hJ
        have e : (uL sg).take sg.cps.size = uL sg := List.take_of_length_le (by simp [uL])
        rw [e] at hJ
        have hsum := sumLen_le 2 (uL sg) (fun x hx => by obtain ⟨c, _, rfl⟩ := List.mem_map.mp hx; rw [hbs]; lia)
        have hl2 : (uL sg).length = sg.cps.toList.length := by simp [uL]
        exact ⟨D, vs, _, rfl, PD, hJ, by decide, by lia, fun t₈ tk₈ => hfin false _ _ _ hq.symm fun b o e => k₇ _ _ (F₆.keep _ _ (.inl e))⟩
    | true =>
      refine wpAny_execs_cons ?_
      refine wpAny_Return_some ?_
      refine wpAny_BinOp ?_
      refine wpAny_BinOp ?_
      refine Constant_str ?_
      refine joinX (by kernel_rfl) (by kernel_rfl) (by kernel_rfl) ?_
      refine compB (cl := []) (by kernel_rfl) (by kernel_rfl) (by kernel_rfl) (by kernel_rfl) (by kernel_rfl) (by intro _; kernel_rfl) ?_
      refine ldE F₆ rfl ?_
      refine strComp (kp h₆) (fun i _ vs => StrsAre vs ((qL sg).take i)) hh (by rw [sizeLine_eq]; lia) (fun b o e => e) (fun _ _ _ _ e _ => e) .nil ?_ ?_
      · rintro i c u tk₇ m₇ h₇ C vs K' hK hK' hC hci htk₇ hJ hlen F₇ hm
        have hci' : sg.cps.toList[i]? = some c := by simpa using hci
        refine wpAny_tests_nil ?_
        rw [if_pos rfl]
        refine wpAny_IfExp ?_
        refine wpAny_isTrue_Compare1 ?_
        refine ldE F₇ hm ?_ (by kernel_rfl) (by kernel_rfl)
        refine Constant_str ?_
        refine P.in_str ?_
        refine wpAny_truthy_bool ?_
        have hin : (!(Builtin.Str.occurrences (Str.ofString "\"\\") ⟨#[c]⟩ 0 (Str.ofString "\"\\").length 1).isEmpty) = inQ c := by kernel_rfl
        rw [take_one (x := if inQ c then bs c else ⟨#[c]⟩) (by unfold qL; rw [List.getElem?_map, hci']; rfl)]
        refine iteOn hin (fun hc => ?_) (fun hc => ?_)
        · refine wpAny_BinOp ?_
          refine Constant_str ?_
          refine ldE F₇ hm ?_ (by kernel_rfl) (by kernel_rfl)
          refine SB.add (fun t₈ tk₈ => ?_) (by show 1 + 1 ≤ sizeLine; decide)
          refine ⟨_, _, _, rfl, F₇, ?_⟩
          rw [hc]
          exact StrsAre.snoc hJ
        · refine ldE F₇ hm ?_ (by kernel_rfl) (by kernel_rfl)
          refine ⟨_, _, _, rfl, F₇, ?_⟩
          rw [hc]
          exact StrsAre.snoc hJ
      · intro h₇ tk₇ D vs htk₇ k₇ hD PD hJ
        have e : (qL sg).take sg.cps.size = qL sg := List.take_of_length_le (by simp [qL])
        rw [e] at hJ
        have hsum := sumLen_le 2 (qL sg) (fun x hx => by
          obtain ⟨c, _, rfl⟩ := List.mem_map.mp hx
          split
          · rw [hbs]; lia
          · show 1 ≤ 2; lia)
        have hl2 : (qL sg).length = sg.cps.toList.length := by simp [qL]
        refine ⟨D, vs, _, rfl, PD, hJ, by decide, by lia, fun t₈ tk₈ => ?_⟩
        have hjl : (Txt.join (Str.ofString "") (qL sg)).length ≤ 2000 := by
          have e0 : Str.ofString "" = ⟨#[]⟩ := by kernel_rfl
          rw [e0]
          rw [show Txt.join ⟨#[]⟩ (qL sg) = Str.join ⟨#[]⟩ (qL sg) from StrLaws.glued_eq_join _ _, join_len]; lia
        refine SB.add (fun t₉ tk₉ => ?_) (by rw [sizeLine_eq]; show 1 + _ ≤ _; lia)
        refine Constant_str ?_
        refine SB.add (fun t₁₀ tk₁₀ => ?_) (by rw [sizeLine_eq, Str.length_append]; show (1 + _) + 1 ≤ _; lia)
        exact hfin true _ _ _ hq.symm fun b o e => k₇ _ _ (F₆.keep _ _ (.inl e))
end
end Mine
namespace Mine
open PySem PySem.W PySem.Challenge PySem.Calls PyProof.Rows

/-- the data of a function made in a def's body -/
noncomputable def inFd (nm qn : Str) (st : Stmt) (cl : List (Str × Addr)) (ct cd pm : Value) : FuncData :=
  { name := nm, qualname := qn, params := fArgs st, body := .stmts (fBody st), scope := fScope st, globals := mainGlobals, closure := cl, defaults := .none, kwdefaults := .none, doc := .none, pyModule := pm, code := cd, closureTuple := ct, builtins := builtinsNs }

theorem gl_bi (P : Params) : gl P (Str.ofString "__builtins__") = some (.ref 4) := by kernel_rfl
theorem TopH.bm {w : World} {h : Heap} (T : TopH w h) : ∃ o, h.get? 4 = some o ∧ o.cls = .type "module" ∧ o.dict = some builtinsNs ∧ o.data = .plain := by
  have h0 : ((TD w.params).get 4).isSome = true := by kernel_rfl
  obtain ⟨o, ho⟩ := Option.isSome_iff_exists.mp h0
  have h1 : ((TD w.params).get 4).map (fun o => (o.cls, o.dict)) = some (.type "module", some builtinsNs) := by kernel_rfl
  have h2 : (match (TD w.params).get 4 with | some o => (match o.data with | .plain => true | _ => false) | none => false) = true := by kernel_rfl
  rw [ho] at h1 h2
  simp only [Option.map_some, Option.some.injEq, Prod.mk.injEq] at h1
  refine ⟨o, T.at_ 4 o ho (by decide), h1.1, h1.2, ?_⟩
  dsimp only at h2
  generalize o.data = d at h2 ⊢
  cases d <;> first | rfl | cases h2

section
variable {w : World} {A : Around} {E : Value → Shared → Prop} {s : Shared} {n : Nat}

/-- a def in a def's body that closes over cells -/
theorem innerDef {env : Env} {name q : Str} {args : Arguments} {body : List Stmt} {scope : Scope} {pos : Pos} {cl : List (Str × Addr)} {c Pl : Addr} {K : Addr → Obj → Prop} {m : Str → Option Value} {Q : Flow → Shared → Prop}
    (T : TopH w s.heap) (F : Fx K env.locals s.heap m) (hcode : env.code = .ref c) (ok : s.heap.IsCode c Pl #[]) (tab : s.heap.TableAt c Pl #[]) (hPK : ∀ o, ¬ K Pl o) (hPL : Pl ≠ env.locals) (hP : Free w Pl) (hgl : env.globals = mainGlobals)
    (hd : defaultsOf args env = ([], [])) (hann : annTrees args none env = []) (hkw : args.kwonlyargs = []) (hclos : closureFor scope env = pure cl) (hne : cl.isEmpty = false) (hdoc : docOf body = none) (hq : qualnameIn env name name = q)
    (hl : env.kindOf name = some .local) (hp : (env.scope.kind == .class || (env.scope.kind == .module && env.locals != env.globals)) = false)
    (h : ∀ h' fo c' ct pm tk, Fx K env.locals h' (fun y => if y = name then some (.ref fo) else m y) → s.heap.get? fo = none → fo ≠ env.locals →
      h'.get? fo = some { cls := .type "function", data := .func { name, qualname := q, params := args, body := .stmts body, scope, globals := mainGlobals, closure := cl, defaults := .none, kwdefaults := .none, doc := .none, pyModule := pm, code := .ref c', closureTuple := ct, builtins := builtinsNs } } →
      h'.CodeRec (.ref c') q → (∀ b o, b ≠ Pl → b ≠ env.locals → s.heap.get? b = some o → h'.get? b = some o) → (∀ c'' o, h'.get? c'' = some o → c'' = c' → s.heap.get? c'' = none) → (∃ ps, h'.get? Pl = some { cls := .none, data := .fields ps }) → Q .next { s with heap := h', toks := tk }) :
    wpAny (model pw w) A (exec (.FunctionDef name args body [] none [] scope none name pos) env) Q E s := by
  rw [exec_def, hd, hann, hq]
  refine wpAny_bind (wpAny_standAt ?_)
  refine wpAny_bind ?_
  refine wpAny_holding ?_
  refine wpAny_bind (m := evalAll []) (wpAny_pure ?_)
  refine wpAny_bind (wpAny_holding (m := evalAllOpt []) (wpAny_pure ?_))
  refine wpAny_holding ?_
  refine wpAny_bind (m := evalNamed []) (wpAny_pure ?_)
  rw [makeFunction_eq, hkw]
  refine wpAny_bind (wpAny_pure ?_)
  refine wpAny_bind (wpAny_pure ?_)
  refine wpAny_bind (wpAny_pure ?_)
  unfold makeTail
  rw [hclos]
  refine wpAny_bind (wpAny_pure ?_)
  rw [if_neg (by rw [hne]; simp)]
  refine wpAny_bind (wpAny_newTextTuple ?_)
  have up : ∀ b o, s.heap.get? b = some o → (s.heap.push { cls := .type "tuple", data := .seq ((cl.mergeSort fun a b => a.1.cps.toList ≤ b.1.cps.toList).map (.ref ·.2) : List Value).toArray }).get? b = some o := fun b o e => Heap.get?_push_of_some _ e
  refine wpAny_bind (wpAny_functionCodeX hcode (ok.keeps up) (tab.keeps up) (by rfl) fun c' h₁ tk₁ hx hge hlt hok' hrec htab' _ => ?_)
  have T₁ : TopH w h₁ := T.but hP fun b o hb e => hx b o hb (up _ _ e)
  obtain ⟨ob, hob, b1, b2, b3⟩ := T₁.bm
  rw [hgl]
  refine wpAny_bind (wpAny_builtinsFor T₁.g (gl_bi _) (by decide) hob b1 b2 b3 ?_)
  refine wpAny_bind (wpAny_nsGet T₁.g ?_)
  dsimp only
  rw [hdoc]
  refine wpAny_bind (wpAny_pure ?_)
  refine wpAny_newObj_type ?_ (by size_fits)
  refine wpAny_bind (wpAny_standAt ?_)
  refine wpAny_bind ?_
  refine wpAny_bindName ?_
  dsimp only at hx hge hlt ⊢
  have F₁ : Fx K env.locals h₁ m := F.but (wr := [Pl]) (by simpa using hPL.symm) (by simpa using hPK) fun b o hb e => hx b o (by simpa using hb) (up _ _ e)
  have hsz : s.heap.objs.size ≤ h₁.objs.size := by
    have := hlt
    have h2 : (s.heap.push { cls := .type "tuple", data := .seq ((cl.mergeSort fun a b => a.1.cps.toList ≤ b.1.cps.toList).map (.ref ·.2) : List Value).toArray }).objs.size = s.heap.objs.size + 1 := Heap.size_push ..
    have hge' : s.heap.objs.size + 1 ≤ c' := h2 ▸ hge
    exact Nat.le_trans (Nat.le_succ _) (Nat.le_trans hge' (Nat.le_of_lt hlt))
  refine stx (F₁.push _) (fun h₂ F₂ s₂ => ?_) hl hp
  dsimp only at s₂ ⊢
  have hfoL : h₁.objs.size ≠ env.locals := Nat.ne_of_gt F₁.ltL
  refine wpAny_pure (h h₂ h₁.objs.size c' _ _ _ F₂ (gone_of_size hsz) hfoL ((s₂.2 _ hfoL).trans (Heap.get?_push_size _ rfl)) ?_ (fun b o h1 h2 e => (s₂.2 _ h2).trans (Heap.get?_push_of_some _ (hx b o h1 (up _ _ e)))) ?_ ⟨_, (s₂.2 _ hPL).trans (Heap.get?_push_of_some _ htab'.2)⟩)
  · obtain ⟨c₂, o₂, vs₂, t₂, e₂, g₂, r₂⟩ := hrec
    cases e₂
    have hcL : c' ≠ env.locals := Nat.ne_of_gt (Nat.lt_of_lt_of_le F.ltL (Nat.le_trans (by
      have h2 : (s.heap.push { cls := .type "tuple", data := .seq ((cl.mergeSort fun a b => a.1.cps.toList ≤ b.1.cps.toList).map (.ref ·.2) : List Value).toArray }).objs.size = s.heap.objs.size + 1 := Heap.size_push ..
      rw [h2]; exact Nat.le_succ _) hge))
    exact ⟨c', o₂, vs₂, t₂, rfl, (s₂.2 _ hcL).trans (Heap.get?_push_of_some _ g₂), r₂⟩
  · rintro c'' o _ rfl
    refine gone_of_size (Nat.le_trans ?_ hge)
    have h2 : (s.heap.push { cls := .type "tuple", data := .seq ((cl.mergeSort fun a b => a.1.cps.toList ≤ b.1.cps.toList).map (.ref ·.2) : List Value).toArray }).objs.size = s.heap.objs.size + 1 := Heap.size_push ..
    rw [h2]; exact Nat.le_succ _

/-- the environment of a function that closes over cells -/
noncomputable abbrev envK (qn : Str) (sc : Scope) (L a : Addr) (cd : Value) (cl : List (Str × Addr)) : Env := newEnv sc L mainGlobals cl (qn ++ ".<locals>.") (some a) cd none builtinsNs
/-- entering a function that closes over cells -/
theorem enterK {a : Addr} {nm qn : Str} {st : Stmt} {cl : List (Str × Addr)} {ct cd pm : Value} {o : Obj} {args : List Value} {R : Result → Shared → Prop} (ps : List Str) (T : TopH w s.heap) (hr : Room A (n + 1)) (ho : s.heap.get? a = some o) (hd : o.data = .func (inFd nm qn st cl ct cd pm)) (hrec : s.heap.CodeRec cd qn)
    (hloc : (ps.all fun x => decide ((fScope st).names.lookup x = some .local)) = true)
    (hbind : bindArgs (inFd nm qn st cl ct cd pm) ⟨args, []⟩ = pure (ps.zip args))
    (hco : ((fScope st).isCoroutine, (fScope st).isGenerator) = (false, false)) (hk : (fScope st).kind = .function) (hcell : ((fScope st).names.all fun x => decide (x.2 ≠ .cell)) = true)
    (h : ∀ h₁ tk, s.toks ≤ tk → Fx (kp s.heap) s.heap.objs.size h₁ (fun x => (ps.zip args).reverse.lookup x) → TopH w h₁ → Room (A.deeper (envK qn (fScope st) s.heap.objs.size a cd cl)) n →
      wpAny (model pw w) (A.deeper (envK qn (fScope st) s.heap.objs.size a cd cl)) (execs (fBody st) (envK qn (fScope st) s.heap.objs.size a cd cl))
        (fun f s' => R (.ok (.ret (match f with | .ret v => v | _ => .none))) s') (fun _ _ => False)
        { s with heap := h₁, toks := tk }) :
    codeAny (model pw w) A (.call (.ref a) ⟨args, []⟩) R s := by
  have hloc' : ∀ x ∈ ps.zip args, (fScope st).names.lookup x.1 = some .local := fun x hx =>
    of_decide_eq_true (List.all_eq_true.mp hloc x.1 (List.of_mem_zip hx).1)
  have hcell' : ∀ x ∈ (fScope st).names, x.2 ≠ .cell := fun x hx => of_decide_eq_true (List.all_eq_true.mp hcell x hx)
  refine codeAny_call_function (by have := hr.depth; omega) ho hd (Prod.mk.inj hco).1 (Prod.mk.inj hco).2 rfl hrec ?_
  rw [hbind]
  refine wpAny_pure (wpAny_newFunctionEnv hcell' hloc' (fun h₁ hns hsb => ⟨T.lim.fresh _ hsb, ?_⟩) hk)
  show codeAny _ _ (.func (fBody st) (envK qn (fScope st) s.heap.objs.size a cd cl)) _ _
  have F : Fr s.heap s.heap.objs.size h₁ (fun x => (ps.zip args).reverse.lookup x) := ⟨hns, fun b o e => hsb.extBut b o (Nat.ne_of_lt (Heap.lt_size e)) (Heap.get?_push_of_some _ e), Nat.le_refl _⟩
  refine codeAny_func (wpAny_mono (h h₁ _ (Nat.le_add_right _ _) (Fx.of F) (T.keeps F.keep) (hr.deeper _)) (fun _ _ x => x) (fun _ _ x => x.elim))
end
end Mine
namespace Mine
open PySem PySem.W PySem.Challenge PySem.Calls PyProof.Rows

theorem extLoop {w : World} {A : Around} {R : Result → Shared → Prop} {I S : Addr} {fp wr : List Addr} {n : Nat} {P : Nat → Nat → Value → Prop} {St : Nat → Heap → Prop} {res : Value} (W : WalksX w A.in1 I fp wr n P St) (hSf : S ∉ fp) :
    ∀ (k i : Nat) (s : Shared) (acc : Array Value), n - i = k → i ≤ n → St i s.heap → s.heap.PlainList S acc → acc.size + k ≤ sizeLine →
    (∀ h' tk acc', (∀ b o, b ≠ S → b ∉ wr → s.heap.get? b = some o → h'.get? b = some o) → h'.PlainList S acc' → acc'.size = acc.size + k → R (.ok (.ret res)) { s with heap := h', toks := tk }) →
    codeAny (model pw w) A (.builtin "list.extend.loop" ⟨[.ref S, .ref I, res], []⟩) R s := by
  have hSw : S ∉ wr := fun h => hSf (W.sub _ h)
  intro k
  induction k with
  | zero =>
    intro i s acc hk hi hst hS hsz hR
    have hin : i = n := by lia
    subst hin
    refine codeAny_builtin F.entry_extend_loop ?_
    rw [Around.under_plainId F.plain_extend_loop _]
    show wpAny _ A.in1 (pyNext (.ref I) >>= _) _ _ s
    refine wpAny_bind (W.done s _ _ hst fun h' tk hk' => ?_)
    exact wpAny_pure (hR h' tk acc (fun b o _ hb e => hk' b o hb e) (hS.at fun o e => hk' S o hSw e) rfl)
  | succ k ih =>
    intro i s acc hk hi hst hS hsz hR
    have hlt : i < n := by lia
    refine codeAny_builtin F.entry_extend_loop ?_
    rw [Around.under_plainId F.plain_extend_loop _]
    show wpAny _ A.in1 (pyNext (.ref I) >>= _) _ _ s
    refine wpAny_bind (W.item i s _ _ hlt hst fun v h' tk hP hst' hk' => ?_)
    obtain ⟨c, hS'⟩ := hS.at (h' := h') fun o e => hk' S o hSw e
    show wpAny _ A.in1 (updateSeq S (·.push v) >>= _) _ _ _
    refine wpAny_bind ?_
    obtain ⟨c2, hm⟩ := mapSeq_list acc c (·.push v)
    have hup := Heap.get?_update_self (Obj.mapSeq (·.push v)) hS' (by rw [hm]; rfl)
    refine wpAny_updateSeq hS' rfl (wpAny_pure ⟨plainId_quiet F.plain_extend_loop _, ih (i + 1) _ (acc.push v) (by lia) hlt (W.frame _ _ _ hst' fun b hb o e => ?_) ⟨c2, hup.trans (by rw [hm])⟩ (by rw [Array.size_push]; lia) fun h'' tk'' acc' hk'' hS'' hsz' => ?_⟩)
      (by lia) (by show (acc.push v).size ≤ sizeLine + 1; rw [Array.size_push]; lia)
    · exact (Heap.get?_update_other _ _ (fun h : S = b => hSf (by rw [h]; exact hb))).trans e
    · refine hR h'' tk'' acc' (fun b o hb hw e => hk'' b o hb hw ((Heap.get?_update_other _ _ (Ne.symm hb)).trans (hk' b o hw e))) hS'' ?_
      rw [hsz', Array.size_push]; lia

section
variable {w : World} {A : Around} {E : Value → Shared → Prop} {s : Shared} {n : Nat}

theorem extendS {S : Addr} {its : Array Value} {y : Str} {t : Tok} {Q : Value → Shared → Prop} (hh : A.handled = none) (hS : s.heap.PlainList S its) (hsz : its.size + y.cps.size ≤ sizeLine)
    (h : ∀ h' tk its', (∀ b o, b ≠ S → s.heap.get? b = some o → h'.get? b = some o) → h'.PlainList S its' → its'.size = its.size + y.cps.size → Q .none { s with heap := h', toks := tk }) :
    wpAny (model pw w) A (call (.builtin "list.extend") [.ref S, .str y t]) Q E s := by
  have hT := hS.isList.typeIs
  refine wpAny_call (codeAny_call_builtin PySem.F.slot_list_extend.plain PySem.F.entry_list_extend (PySem.F.slot_list_extend.check _ _ _ _ _ _ _ _ hT (PySem.F.args_list_extend_2 _ _) ?_))
  show wpAny _ A.in1 (Builtin.List.listExtendWith (.ref S) (.str y t) .none) _ _ s
  unfold Builtin.List.listExtendWith
  refine wpAny_bind (wpAny_typeOf (T := "str") (v := .str y t) rfl ?_)
  have h1 : Builtin.List.listSameRef (.ref S) (.str y t) = false := rfl
  have h2 : (Value.type "str" == Value.type "list") = false := by decide
  have h3 : (Value.type "str" == Value.type "tuple") = false := by decide
  simp only [h1, h2, h3, Bool.or_false, Bool.false_eq_true, if_false]
  refine wpAny_bind (pyIter_strY fun o St W self h0 => ?_)
  refine wpAny_bind (wpAny_holding ?_)
  unfold Builtin.List.listLengthHint
  refine wpAny_bind (wpAny_specialOf (T := "str") (v := .str y t) rfl F.str_len ?_)
  wp_delta
  refine wpAny_bind (wpAny_isInstance (T := "str") (v := .str y t) (b := true) rfl (by rw [isSubtype_type]; kernel_rfl) ?_)
  show wpAny _ _ (typeOf (Value.str y t) >>= _) _ _ _
  refine wpAny_bind (wpAny_typeOf (T := "str") (v := .str y t) rfl ?_)
  refine wpAny_pure ?_
  rw [if_neg (by decide)]
  obtain ⟨c, hS'⟩ := hS
  have hSI : S ≠ s.heap.objs.size := Nat.ne_of_lt (Heap.lt_size hS')
  refine wpAny_pure ⟨plainId_quiet F.plain_extend_loop _, extLoop (n := y.cps.size) (W A.in1 hh).1 (by simpa using hSI) y.cps.size 0 _ its rfl (Nat.zero_le _) h0 ⟨c, Heap.get?_push_of_some _ hS'⟩ hsz fun h' tk acc' hk hS'' hsz' => ?_⟩
  exact h h' tk acc' (fun b o hb e => hk b o hb (by simpa using Nat.ne_of_lt (Heap.lt_size e)) (Heap.get?_push_of_some _ e)) hS'' hsz'
end
end Mine
namespace Mine
open PySem PySem.W PySem.Challenge PySem.Calls PyProof.Rows

noncomputable def stP : Stmt := (fBody (stA 16)).getD 2 (.Pass default)
noncomputable def qP : Str := Str.ofString "_law_lexer.<locals>._law_piece"
noncomputable def oneAt (x : Str) (p : Nat) : Str := match x.cps[p]? with | some c => ⟨#[c]⟩ | none => ⟨#[]⟩

/-- the reader of a stream -/
structure Piece (K : Addr → Obj → Prop) (fo g : Addr) (text : Str) : Prop where
  fn : ∃ cT cG cl ct cd pm oT oG ofn t, K fo ofn ∧ ofn.data = .func (inFd (Str.ofString "_law_piece") qP stP cl ct cd pm) ∧ K cT oT ∧ oT.data = .cell (some (.str text t)) ∧ K cG oG ∧ oG.data = .cell (some (.ref g)) ∧
    cl.lookup (Str.ofString "text") = some cT ∧ cl.lookup (Str.ofString "gone") = some cG ∧ ∃ c oc vs t', cd = .ref c ∧ K c oc ∧ oc.data = .fields vs ∧ vs[1]? = some (.str qP t')

theorem oneAt_len (x : Str) (p : Nat) : (oneAt x p).length ≤ 1 := by
  unfold oneAt; split <;> simp [Str.length]
theorem sliceOne {x : Str} {p : Nat} (hp : p ≤ x.length) : Txt.slice x (some (p : Int)) (some ((p : Int) + 1)) = oneAt x p := by
  have hlen : x.length = x.cps.size := rfl
  have e : Builtin.Str.strSliceIndices (some (p : Int)) (some ((p : Int) + 1)) 1 x.length = if p < x.length then [p] else [] := by
    unfold Builtin.Str.strSliceIndices sliceRange
    by_cases h : p < x.length
    · rw [if_pos h]
      have a1 : (if (p : Int) < 0 then (p : Int) + (x.length : Nat) else (p : Int)) = p := if_neg (by lia)
      have a2 : (if (p : Int) + 1 < 0 then (p : Int) + 1 + (x.length : Nat) else (p : Int) + 1) = p + 1 := if_neg (by lia)
      simp only [a1, a2, show (1 : Int) > 0 by decide, if_true]
      have a3 : max 0 (min (p : Int) (x.length : Nat)) = p := by lia
      have a4 : max 0 (min ((p : Int) + 1) (x.length : Nat)) = p + 1 := by lia
      rw [a3, a4, if_pos (by lia)]
      have a5 : ((p : Int) + 1 - p + 1 - 1) / 1 = 1 := by lia
      rw [a5]
      simp
    · rw [if_neg h]
      have a1 : (if (p : Int) < 0 then (p : Int) + (x.length : Nat) else (p : Int)) = p := if_neg (by lia)
      have a2 : (if (p : Int) + 1 < 0 then (p : Int) + 1 + (x.length : Nat) else (p : Int) + 1) = p + 1 := if_neg (by lia)
      simp only [a1, a2, show (1 : Int) > 0 by decide, if_true]
      have a3 : max 0 (min (p : Int) (x.length : Nat)) = p := by lia
      have a4 : max 0 (min ((p : Int) + 1) (x.length : Nat)) = p := by lia
      rw [a3, a4, if_neg (by lia)]
      simp
  unfold Txt.slice
  rw [e]
  by_cases h : p < x.length
  · rw [if_pos h]
    have h' : p < x.cps.size := h
    have hx : x.cps[p]? = some (x.cps[p]'h') := Array.getElem?_eq_getElem h'
    by_cases h1 : x.length = 1
    · have hp0 : p = 0 := by lia
      subst hp0
      rw [if_pos (by simp [h1])]
      unfold oneAt
      rw [hx]
      obtain ⟨⟨l⟩⟩ := x
      have : l.length = 1 := h1
      match l, this with
      | [c], _ => rfl
    · rw [if_neg (by simp; lia)]
      unfold oneAt
      rw [hx]
      simp [hx]
  · rw [if_neg h]
    have hx : x.cps[p]? = none := Array.getElem?_eq_none (Nat.not_lt.mp h)
    unfold oneAt
    rw [hx]
    by_cases h0 : x.length = 0
    · rw [if_pos (by simp [h0])]
      obtain ⟨⟨l⟩⟩ := x
      have : l.length = 0 := h0
      match l, this with
      | [], _ => rfl
    · rw [if_neg (by simp; lia)]
      simp

section
variable {w : World} {A : Around} {E : Value → Shared → Prop} {s : Shared} {n : Nat} {Q : Value → Shared → Prop}

theorem piece_call {K : Addr → Obj → Prop} {fo g : Addr} {text : Str} {its : Array Value} {u : Tok} (T : TopH w s.heap) (hr : Room A (n + 1)) (hK : ∀ b o, K b o → s.heap.get? b = some o) (PC : Piece K fo g text) (hg : s.heap.PlainList g its) (hp : its.size ≤ text.length) (htx : text.length ≤ 10000)
    (h : ∀ h' t' tk its', (∀ b o, b ≠ g → s.heap.get? b = some o → h'.get? b = some o) → h'.PlainList g its' → its'.size = its.size + (oneAt text its.size).length → Q (.str (oneAt text its.size) t') { s with heap := h', toks := tk }) :
    wpAny (model pw w) A (call (.ref fo) [.int 1 u]) Q E s := by
  obtain ⟨cT, cG, cl, ct, cd, pm, oT, oG, ofn, tt, k1, d1, k2, d2, k3, d3, l1, l2, c, oc, vs, t', rfl, k4, d4, e4⟩ := PC.fn
  refine wpAny_call (enterK [Str.ofString "count"] T hr (hK _ _ k1) d1 ⟨c, oc, vs, t', rfl, hK _ _ k4, d4, e4⟩ (by kernel_rfl) (by kernel_rfl) (by kernel_rfl) (by kernel_rfl) (by kernel_rfl) (fun h₁ tk htk F T₁ hr₁ => ?_))
  have g₁ : h₁.PlainList g its := hg.at fun o e => F.keep _ _ e
  have cTg := F.keep _ _ (hK _ _ k2)
  have cGg := F.keep _ _ (hK _ _ k3)
  refine wpAny_execs_cons ?_
  refine wpAny_Assign_Name ?_ ?hs
  case hs => kernel_rfl
  refine wpAny_Subscript_str_slice ?_
  refine ldFree l1 cTg d2 ?_ (by kernel_rfl) (by kernel_rfl)
  rw [evalPart_some, evalPart_some]
  refine bcall1 (id := "len") T₁ (by kernel_rfl) (by kernel_rfl) (by kernel_rfl) ?_ (by kernel_rfl) (by kernel_rfl) (by kernel_rfl) rfl rfl
  refine ldFree l2 cGg d3 ?_ (by kernel_rfl) (by kernel_rfl)
  refine call_len_list g₁.isList (by lia) ?_
  refine wpAny_BinOp ?_
  refine bcall1 (id := "len") T₁ (by kernel_rfl) (by kernel_rfl) (by kernel_rfl) ?_ (by kernel_rfl) (by kernel_rfl) (by kernel_rfl) rfl rfl
  refine ldFree l2 cGg d3 ?_ (by kernel_rfl) (by kernel_rfl)
  refine call_len_list g₁.isList (by lia) ?_
  refine ldE F rfl ?_ (by kernel_rfl) (by kernel_rfl)
  refine P.add_int ?_
  dsimp only
  refine ⟨text, _, some (_, _), some (_, _), rfl, rfl, rfl, ?_⟩
  refine post_val_or_str ⟨Nat.le_trans (Txt.slice_le text _ _) (by rw [sizeLine_eq]; lia), fun t₂ k₂ => ?_⟩
  have hsl : (if ((1 : Int) == 1 && (Builtin.Str.strSliceIndices (some ((its.size : Nat) : Int)) (some (((its.size : Nat) : Int) + 1)) 1 text.length).length == text.length) = true then text else ⟨((Builtin.Str.strSliceIndices (some ((its.size : Nat) : Int)) (some (((its.size : Nat) : Int) + 1)) 1 text.length).filterMap (text.cps[·]?)).toArray⟩) = oneAt text its.size := sliceOne hp
  refine Eq.mpr (congrArg (fun z => wpAny _ _ (storeName _ _ (Value.str z t₂)) _ _ _) hsl) ?_
  refine stx (F.push _) fun h₂ F₂ s₂ => ?_
  dsimp only at F₂ s₂ ⊢
  have hgL : g ≠ s.heap.objs.size := by obtain ⟨ng, eg⟩ := hg; exact Nat.ne_of_lt (Heap.lt_size eg)
  have g₂ : h₂.PlainList g its := g₁.at fun o e => (s₂.2 g hgL).trans (Heap.get?_push_of_some _ e)
  have cGg₂ := F₂.keep _ _ (hK _ _ k3)
  refine wpAny_execs_cons ?_
  refine wpAny_Expr ?_ ?hs
  case hs => kernel_rfl
  refine Call_method1 (by kernel_rfl) (by kernel_rfl) (by kernel_rfl) ?_
  refine ldFree l2 cGg₂ d3 ?_ (by kernel_rfl) (by kernel_rfl)
  refine ⟨"list", "list.extend", PySem.F.plainAttrs_list, PySem.F.slot_list_extend, PySem.F.type_list_extend, g₂.isList.typeIs, fun a e => ?_, ?_⟩
  · cases e
    obtain ⟨nn, e⟩ := g₂
    exact ⟨_, e, rfl⟩
  refine callWith_builtin rfl ?_
  refine evalArgs_plain ?_
  refine spliced_cons ?_
  refine ldE F₂ rfl ?_ (by kernel_rfl) (by kernel_rfl)
  refine spliced_nil ?_
  have hol := oneAt_len text its.size
  refine extendS hr₁.handled g₂ (by rw [sizeLine_eq]; show _ + (oneAt text its.size).length ≤ _; lia) fun h₃ tk₃ its' k₃ g₃ sz₃ => ?_
  dsimp only at k₃ ⊢
  obtain ⟨ns₂, nsk⟩ : ∃ m, m = (fun y => if y = Str.ofString "piece" then some (Value.str (oneAt text its.size) t₂) else List.lookup y ([Str.ofString "count"].zip [Value.int 1 u]).reverse) := ⟨_, rfl⟩
  have F₃ : Fx (fun b o => s.heap.get? b = some o ∧ b ≠ g) s.heap.objs.size h₃ _ := (F₂.mono fun b o e => e.1).but (wr := [g]) (show s.heap.objs.size ∉ [g] by simpa using hgL.symm) (by intro b hb o e; simp at hb; exact e.2 hb) fun b o hb e => k₃ b o (by simpa using hb) e
  refine wpAny_execs_cons ?_
  refine wpAny_Return_some ?_
  refine ldE F₃ rfl ?_ (by kernel_rfl) (by kernel_rfl)
  exact h h₃ _ _ its' (fun b o hb e => F₃.keep _ _ ⟨e, hb⟩) g₃ sz₃
end
end Mine
namespace Mine
open PySem PySem.W PySem.Challenge PySem.Calls PyProof.Rows

section
variable {w : World} {A : Around} {E : Value → Shared → Prop} {s : Shared} {n : Nat}

set_option maxHeartbeats 4000000 in
/-- what an object's own attribute holds, for a call -/
theorem getOwn {pl : Sem Bool} {h : Heap} {g : Array GenState} {d : Drawn} {t : Nat} {os : OsState} {nm q : Str} {C N x : Addr} {bs : List Value} {sn : List Str} {sub : List Value} {ab : Bool} {col : Option Bool} {dd : Option Addr} {k0 k1 k2 k3 k5 : Option Value} {newId : String}
    {mN mA : Str → Option Value} {name : Str} {v : Value} {Q : Value × List Value → Shared → Prop}
    (hC : h.get? C = some (excClassObj nm q C N bs [.type "object"] true sn sub ab col dd k0 k1 k2 k3 k5 newId)) (hn : h.Ns N mN) (hng : mN "__getattribute__" = none) (hnh : mN "__getattr__" = none)
    (hna : mN name = none) (hB : typeLookup (.type "object") name = pure none) (I : h.Inst x C mA) (hA : mA name = some v) (hh : handedOut v = pure v) (hq : Q (v, []) ⟨h, g, d, t + 1, os⟩) :
    wpAny (model pw w) A (getMethod (.ref x) name pl) Q E ⟨h, g, d, t, os⟩ := by
  obtain ⟨o, hx, hc, hnc, hd⟩ := id I
  unfold getMethod specialOf
  repeat (first | (with_reducible refine wpAny_loadPart_at hx ?_; rw [hc]) | (with_reducible refine wpAny_typeLookup_exc hC hn F.mro_object F.lk_object_ga ?_; rw [hng]) | (with_reducible refine wpAny_typeLookup_exc hC hn F.mro_object F.lk_object_getattr ?_; rw [hnh]) | (with_reducible refine wpAny_typeLookup_exc hC hn F.mro_object hB ?_; rw [hna]) | simp only [F.canon_object_ga, Bool.false_eq_true, if_false] | wp_step)
  show wpAny _ _ ((runValue (.builtin "proto.getattr_hooked" ⟨[.ref x, .str name t], []⟩)).onRaise (noteIf true (.ref x) (.str name t))) _ _ _
  refine wpAny_onRaise (wpAny_runValue (codeAny_builtin F.plainObj_entry_getattr_hooked (load_entry hC hn hna hB I hA ?_)))
  show wpAny _ _ (handedOut v) _ _ _
  rw [hh]
  exact wpAny_pure (wpAny_pure hq)

/-- the call of what an object's own attribute holds -/
theorem ownCall {env : Env} {o : Expr} {fo : Addr} {name : Str} {apos pos : Pos} {args : List Expr} {trees : List (Bool × Sem Value)} {Q : Value → Shared → Prop}
    (hna : cl w.params name = none) (hB : typeLookup (.type "object") name = pure none)
    (h : wpAny (model pw w) A (eval o env) (fun ov s₁ => ∃ y mB, ov = .ref y ∧ TopH w s₁.heap ∧ s₁.heap.Inst y 52 mB ∧ mB name = some (.ref fo) ∧ wpAny (model pw w) A (callWith pos (.ref fo) [] trees []) Q E { s₁ with toks := s₁.toks + 1 }) E s)
    (ht : backTo pos (starEach args env) = trees) (hpos : ∀ b, methodCallPos b o env apos pos = pure pos)
    (hbase : attributeBase o name env (eval o env) = eval o env)
    (hfew : methodCallForm (args.length + ([] : List Keyword).length) trees (backToKw pos (keywordEach [] env)) = true) :
    wpAny (model pw w) A (eval (.Call (.Attribute o name apos) args [] pos) env) Q E s := by
  rw [arm_eval_Call, hbase]
  refine wpAny_bind (wpAny_mono h (fun ov s₁ h₁ => ?_) fun _ _ e => e)
  obtain ⟨y, mB, rfl, T, I, hA, hc⟩ := h₁
  obtain ⟨nm', q, k2, k3, hC⟩ := T.cls
  refine wpAny_bind (wpAny_standAt ?_)
  subst ht
  unfold methodCall
  rw [hfew]
  refine wpAny_bind (wpAny_holding ?_)
  show wpAny _ _ (getMethod (.ref y) name _) _ _ _
  obtain ⟨hp, g, d, t, os⟩ := s₁
  refine getOwn hC T.clsNs (cl_ga _) (cl_gt _) hna hB I hA rfl ?_
  exact wpAny_bind (wpAny_of_eq (hpos _) hc)
end
end Mine
namespace Mine
open PySem PySem.W PySem.Challenge PySem.Calls PyProof.Rows

theorem fnRead (P : Params) : FnM P 35 (Str.ofString "_read_char") (Str.ofString "_netrclex._read_char") (stM 1) (.ref 34) :=
  ⟨⟨o35 P, pmOf (o35 P), by kernel_rfl, by kernel_rfl, by kernel_rfl⟩, ⟨34, o34 P, dFields (o34 P), tokAt (o34 P), rfl, by kernel_rfl, by kernel_rfl, by kernel_rfl, by decide⟩, by decide⟩

/-- the object of a class -/
noncomputable def IsInst (o : Obj) (x dx : Addr) : Prop := o.cls = .ref 52 ∧ (∀ c, o.data ≠ .cls c) ∧ o.dict = some dx ∧ dx ≠ x
/-- a dict of names -/
noncomputable def NsObj1 (o : Obj) (m : Str → Option Value) : Prop := ∃ es ep, o.data = .dict es ep ∧ StrKeys es ∧ UniqKeys es ∧ ∀ name, nsFind es name = m name

/-- what stands of a lexer and its stream -/
structure LexK (K : Addr → Obj → Prop) (x dx y g : Addr) (text : Str) : Prop where
  ndx : ∀ o, ¬ K dx o
  ng : ∀ o, ¬ K g o
  dg : dx ≠ g
  inst : ∃ o, K x o ∧ IsInst o x dx
  strm : ∃ fo oy dy ody mB, K y oy ∧ IsInst oy y dy ∧ K dy ody ∧ NsObj1 ody mB ∧ mB (Str.ofString "read") = some (.ref fo) ∧ Piece K fo g text

noncomputable def lexNames : List Str := [Str.ofString "lineno", Str.ofString "instream", Str.ofString "whitespace", Str.ofString "pushback"]
noncomputable def wsS : Str := Str.ofString "\n\t\r "
structure LexM (mA : Str → Option Value) (n : Int) (P y : Addr) : Prop where
  line : ∃ t, mA (Str.ofString "lineno") = some (.int n t)
  strm : mA (Str.ofString "instream") = some (.ref y)
  white : ∃ t, mA (Str.ofString "whitespace") = some (.str wsS t)
  push : mA (Str.ofString "pushback") = some (.ref P)
  few : Within mA lexNames
theorem LexM.none {mA : Str → Option Value} {n : Int} {P y : Addr} (l : LexM mA n P y) {nm : Str} (h : nm ∉ lexNames) : mA nm = none := by
  cases e : mA nm with
  | none => rfl
  | some v => exact absurd (l.few nm (by rw [e]; simp)) h
/-- what moves -/
structure LexD (h : Heap) (dx g y P : Addr) (p : Nat) (n : Int) : Prop where
  attrs : ∃ mA, h.Ns1 dx mA ∧ LexM mA n P y
  gone : ∃ its, h.PlainList g its ∧ its.size = p
theorem LexD.but {h h' : Heap} {dx g y P : Addr} {p : Nat} {n : Int} (d : LexD h dx g y P p n) (k : ∀ b o, (b = dx ∨ b = g) → h.get? b = some o → h'.get? b = some o) : LexD h' dx g y P p n :=
  ⟨let ⟨mA, a, b⟩ := d.attrs; ⟨mA, a.at fun o e => k _ o (.inl rfl) e, b⟩, let ⟨its, a, b⟩ := d.gone; ⟨its, a.at fun o e => k _ o (.inr rfl) e, b⟩⟩

theorem LexK.instOf {K : Addr → Obj → Prop} {x dx y g : Addr} {text : Str} (l : LexK K x dx y g text) {h : Heap} (hK : ∀ b o, K b o → h.get? b = some o) {mA : Str → Option Value} (ns : h.Ns1 dx mA) : h.Inst x 52 mA := by
  refine hideG fun GG hGG => ?_
  obtain ⟨o, k, c, nc, d, hne⟩ := l.inst
  subst hGG
  exact ⟨o, hK _ _ k, c, nc, .inr ⟨dx, d, hne, ns⟩⟩

theorem cl_is (P : Params) : cl P (Str.ofString "instream") = none := by kernel_rfl
theorem no_is : typeLookup (.type "object") (Str.ofString "instream") = pure none := by rw [typeLookup_type, builtinLookup_eq_fast]; kernel_rfl
theorem cl_rd (P : Params) : cl P (Str.ofString "read") = none := by kernel_rfl
theorem no_rd : typeLookup (.type "object") (Str.ofString "read") = pure none := by rw [typeLookup_type, builtinLookup_eq_fast]; kernel_rfl
theorem cl_ln (P : Params) : cl P (Str.ofString "lineno") = none := by kernel_rfl
theorem no_ln : typeLookup (.type "object") (Str.ofString "lineno") = pure none := by rw [typeLookup_type, builtinLookup_eq_fast]; kernel_rfl
theorem cl_wh (P : Params) : cl P (Str.ofString "whitespace") = none := by kernel_rfl
theorem no_wh : typeLookup (.type "object") (Str.ofString "whitespace") = pure none := by rw [typeLookup_type, builtinLookup_eq_fast]; kernel_rfl
theorem cl_sa (P : Params) : cl P (Str.ofString "__setattr__") = none := by kernel_rfl

noncomputable def nlS : Str := Str.ofString "\n"

section
variable {w : World} {A : Around} {E : Value → Shared → Prop} {s : Shared} {n : Nat} {Q : Value → Shared → Prop}

theorem obj_same {o o' : Obj} (h1 : o'.cls = o.cls) (h2 : o'.data = o.data) (h3 : o'.slots = o.slots) (h4 : o'.dict = o.dict) : o' = o := by
  cases o; cases o'; simp_all

theorem strBeq (x y : Str) : (x.cps.toList == y.cps.toList) = decide (x = y) := by
  by_cases h : x = y
  · subst h; simp
  · rw [decide_eq_false h]
    cases hh : x.cps.toList == y.cps.toList with
    | false => rfl
    | true =>
      have e := eq_of_beq hh
      obtain ⟨⟨a⟩⟩ := x
      obtain ⟨⟨b⟩⟩ := y
      dsimp only at e
      subst e
      exact absurd rfl h
theorem ownCall1 {env : Env} {o e1 : Expr} {name : Str} {apos pos : Pos} {Q : Value → Shared → Prop} (fo : Addr)
    (hna : cl w.params name = none) (hB : typeLookup (.type "object") name = pure none)
    (h : wpAny (model pw w) A (eval o env) (fun ov s₁ => ∃ y mB, ov = .ref y ∧ TopH w s₁.heap ∧ s₁.heap.Inst y 52 mB ∧ mB name = some (.ref fo) ∧ wpAny (model pw w) A (callWith pos (.ref fo) [] [(false, eval e1 env)] []) Q E { s₁ with toks := s₁.toks + 1 }) E s)
    (ht : backTo pos (starEach [e1] env) = [(false, eval e1 env)]) (hpos : ∀ b, methodCallPos b o env apos pos = pure pos)
    (hbase : attributeBase o name env (eval o env) = eval o env)
    (hfew : methodCallForm ([e1].length + ([] : List Keyword).length) [(false, eval e1 env)] (backToKw pos (keywordEach [] env)) = true) :
    wpAny (model pw w) A (eval (.Call (.Attribute o name apos) [e1] [] pos) env) Q E s := ownCall hna hB h ht hpos hbase hfew

theorem read_code {K : Addr → Obj → Prop} {x dx y g Pb : Addr} {text : Str} {p : Nat} {ln : Int} (T : TopH w s.heap) (hr : Room A (n + 2)) (hK : ∀ b o, K b o → s.heap.get? b = some o) (L : LexK K x dx y g text) (D : LexD s.heap dx g y Pb p ln)
    (fd : Free w dx) (fg : Free w g) (hp : p ≤ text.length) (htx : text.length ≤ 10000)
    (h : ∀ h' t' tk, (∀ b o, b ≠ dx → b ≠ g → s.heap.get? b = some o → h'.get? b = some o) → LexD h' dx g y Pb (p + (oneAt text p).length) (ln + if oneAt text p = nlS then 1 else 0) → Q (.str (oneAt text p) t') { s with heap := h', toks := tk }) :
    codeAny (model pw w) A (.call (.ref 35) ⟨[.ref x], []⟩) (fun r s' => match r with | .ok (.ret v) => Q v s' | .ok _ => False | .error e => E e s') s := by
  refine (enterM [Str.ofString "self"] T hr (fnRead _) (by kernel_rfl) (fun pm => by kernel_rfl) (by kernel_rfl) (by kernel_rfl) (by kernel_rfl) (fun h₁ tk htk F T₁ hr₁ => ?_))
  refine hideG fun GG hGG => ?_
  have hr₂ : Room (A.deeper (envOf (Str.ofString "_netrclex._read_char") (fScope (stM 1)) s.heap.objs.size 35 (Value.ref 34))) (n + 1) := hr₁
  have hK₁ : ∀ b o, K b o → h₁.get? b = some o := fun b o e => F.keep _ _ (hK _ _ e)
  have D₁ : LexD h₁ dx g y Pb p ln := D.but fun b o _ e => F.keep _ _ e
  obtain ⟨mA, ns, M⟩ := D₁.attrs
  obtain ⟨its, hg, hgs⟩ := D₁.gone
  have I₁ := L.instOf hK₁ ns
  obtain ⟨fo, oy, dy, ody, mB, ky, iy, kdy, nsy, hrd, PC⟩ := L.strm
  have Iy : h₁.Inst y 52 mB := by
    obtain ⟨c, nc, d, hne⟩ := iy
    obtain ⟨es, ep, r⟩ := nsy
    exact ⟨oy, hK₁ _ _ ky, c, nc, .inr ⟨dy, d, hne, ody, es, ep, hK₁ _ _ kdy, r⟩⟩
  obtain ⟨cT, cG, cls, ct, cd, pm, oT, oG, ofn, tt, k1, d1, _⟩ := PC.fn
  subst hGG
  refine wpAny_execs_cons ?_
  refine wpAny_Assign_Name ?_ ?hs
  case hs => kernel_rfl
  refine ownCall1 fo (cl_rd _) no_rd ?_ (by kernel_rfl) (by intro b; cases b <;> kernel_rfl) (by kernel_rfl) (by kernel_rfl)
  refine attrX T₁ I₁ M.strm (cl_is _) no_is rfl F.ns rfl (by kernel_rfl) (by kernel_rfl) (by decide) (by with_unfolding_all rfl) ?_
  refine ⟨y, mB, rfl, T₁, Iy, hrd, ?_⟩
  dsimp only
  refine callWith_function (o := ofn) (evalArgs_plain (spliced_cons (wpAny_Constant_int (spliced_nil ⟨⟨hK₁ _ _ k1, d1⟩, ?_⟩))))
  dsimp only
  refine piece_call T₁ hr₂ hK₁ PC hg (by rw [hgs]; exact hp) htx fun h₂ t₂ tk₂ its' k₂ hg₂ sz₂ => ?_
  rw [hgs] at sz₂ ⊢
  dsimp only at k₂ ⊢
  have hgL : g ≠ s.heap.objs.size := by obtain ⟨_, ⟨ng, eg⟩, _⟩ := D.gone; exact Nat.ne_of_lt (Heap.lt_size eg)
  have hdL : dx ≠ s.heap.objs.size := by obtain ⟨_, ⟨o, _, _, e, _⟩, _⟩ := D.attrs; exact Nat.ne_of_lt (Heap.lt_size e)
  have F₂ : Fx (fun b o => s.heap.get? b = some o ∧ b ≠ g) s.heap.objs.size h₂ _ := (F.mono fun b o e => e.1).but (wr := [g]) (show s.heap.objs.size ∉ [g] by simpa using hgL.symm) (by intro b hb o e; simp at hb; exact e.2 hb) fun b o hb e => k₂ b o (by simpa using hb) e
  have T₂ : TopH w h₂ := T₁.but fg k₂
  have ns₂ : h₂.Ns1 dx mA := ns.at fun o e => k₂ _ o L.dg e
  refine stx F₂ fun h₃ F₃ s₃ => ?_
  dsimp only at s₃ F₃ ⊢
  refine hideG fun GG hGG => ?_
  have T₃ : TopH w h₃ := T.but fg fun b o hb e => F₃.keep _ _ ⟨e, hb⟩
  have ns₃ : h₃.Ns1 dx mA := ns₂.at fun o e => (s₃.2 _ hdL).trans e
  have hg₃ : h₃.PlainList g its' := hg₂.at fun o e => (s₃.2 _ hgL).trans e
  have hK₃ : ∀ b o, K b o → h₃.get? b = some o := fun b o e => F₃.keep _ _ ⟨hK _ _ e, fun q => L.ng o (q ▸ e)⟩
  have I₃ := L.instOf hK₃ ns₃
  obtain ⟨ch, hch⟩ : ∃ ch, oneAt text p = ch := ⟨_, rfl⟩
  rw [hch] at F₃ sz₂ h
  subst hGG
  refine wpAny_execs_cons ?_
  refine wpAny_mono (Q := fun f s' => f = .next ∧ ∃ h₄ tk₄ m₄, s' = { s with heap := h₄, toks := tk₄ } ∧ (∀ b o, b ≠ dx → b ≠ g → s.heap.get? b = some o → h₄.get? b = some o) ∧ h₄.Ns s.heap.objs.size m₄ ∧ m₄ (Str.ofString "ch") = some (.str ch t₂) ∧ LexD h₄ dx g y Pb (p + ch.length) (ln + if ch = nlS then 1 else 0))
    (E := fun _ _ => False) ?_ ?_ (fun _ _ e => e)
  · refine wpAny_If ?_
    refine wpAny_isTrue_Compare1 ?_
    refine ldE F₃ rfl ?_
    refine Constant_str ?_
    refine P.eq_str ?_
    refine wpAny_truthy_bool ?_
    refine iteOn (c := decide (ch = nlS)) (strBeq _ _) (fun hc => ?_) (fun hc => ?_)
    · have hc := of_decide_eq_true hc
      refine hideG fun GG hGG => ?_
      obtain ⟨nm', q, k2, k3, hC⟩ := T₃.cls
      obtain ⟨tl, el⟩ := M.line
      have hxC : x ≠ 52 := by
        rintro rfl
        obtain ⟨o, k, c, _⟩ := L.inst
        rw [hK₃ _ _ k] at hC
        cases hC
        cases c
      subst hGG
      dsimp only
      refine wpAny_execs_cons ?_
      refine wpAny_AugAssign_AttributeAny ?_
      refine ldE F₃ rfl ?_
      refine load_attr hC T₃.clsNs (cl_ga _) (cl_ln _) no_ln I₃ el rfl ?_
      refine wpAny_Constant_int ?_
      refine wpAny_iadd_int ?_
      dsimp only
      refine store_attr PySem.F.store_object hC T₃.clsNs (cl_sa _) (cl_ln _) no_ln hxC I₃ (fun h₄ tk₄ I₄ k₄ same₄ => ?_) (hw := M.few) (hsz := by rw [sizeLine_eq]; decide)
      refine wpAny_execs_nil ?_
      refine hideG fun GG hGG => ?_
      obtain ⟨ox, kx, cx, ncx, dxx, nex⟩ := L.inst
      have gx := hK₃ _ _ kx
      obtain ⟨o₁, g₁, a1, a2, a3, a4⟩ := same₄ ox gx
      have e₁ : o₁ = ox := obj_same a1 a2 a3 ((a4 dx dxx).trans dxx.symm)
      subst hGG
      subst e₁
      refine hideG fun GG hGG => ?_
      have keep₄ : ∀ b o, b ≠ dx → h₃.get? b = some o → h₄.get? b = some o := fun b o hb e => by
        by_cases hbx : b = x
        · subst hbx; rw [gx] at e; cases e; exact g₁
        · exact k₄ b o hbx (fun o₀ d₀ e0 ed => by rw [gx] at e0; cases e0; rw [dxx] at ed; cases ed; exact hb) e
      obtain ⟨mA', ns₄, t₅, rfl⟩ : ∃ mA', h₄.Ns1 dx mA' ∧ ∃ t, mA' = (fun q => if q = Str.ofString "lineno" then some (Value.int (ln + 1) t) else mA q) := by
        obtain ⟨o', e', _, _, dd⟩ := I₄
        rw [g₁] at e'; cases e'
        rcases dd with ⟨dn, _⟩ | ⟨d', ed, _, nsd⟩
        · rw [dxx] at dn; cases dn
        · rw [dxx] at ed; cases ed; exact ⟨_, nsd, _, rfl⟩
      subst hGG
      refine ⟨rfl, h₄, tk₄, _, rfl, fun b o h1 h2 e => keep₄ b o h1 (F₃.keep _ _ ⟨e, h2⟩), F₃.ns.at' fun o e => keep₄ _ o hdL.symm e, rfl, ⟨_, ns₄, ?_⟩, its', hg₃.at fun o e => keep₄ _ o L.dg.symm e, sz₂⟩
      rw [if_pos hc]
      refine ⟨⟨_, rfl⟩, M.strm, M.white, M.push, fun nm hnm => ?_⟩
      by_cases hn : nm = Str.ofString "lineno"
      · subst hn; exact List.mem_cons_self ..
      · exact M.few nm (by simpa [hn] using hnm)
    · have hc : ¬ ch = nlS := of_decide_eq_false hc
      refine wpAny_execs_nil ?_
      refine ⟨rfl, h₃, _, _, rfl, fun b o h1 h2 e => F₃.keep _ _ ⟨e, h2⟩, F₃.ns, rfl, ⟨mA, ns₃, ?_⟩, its', hg₃, sz₂⟩
      rw [if_neg hc, Int.add_zero]
      exact M
  · rintro f s' J0J
    refine hideG fun GG hGG => ?_
    obtain ⟨rfl, h₄, tk₄, m₄, rfl, k₄, n₄, e₄, D₄⟩ := J0J
    subst hGG
    dsimp only
    refine wpAny_execs_cons ?_
    refine wpAny_Return_some ?_
    refine wpAny_Name (wpAny_loadName_local (by kernel_rfl) (by kernel_rfl) n₄ e₄ ?_) (by decide)
    exact h h₄ _ _ k₄ D₄
theorem read_call {K : Addr → Obj → Prop} {x dx y g Pb : Addr} {text : Str} {p : Nat} {ln : Int} (T : TopH w s.heap) (hr : Room A (n + 2)) (hK : ∀ b o, K b o → s.heap.get? b = some o) (L : LexK K x dx y g text) (D : LexD s.heap dx g y Pb p ln)
    (fd : Free w dx) (fg : Free w g) (hp : p ≤ text.length) (htx : text.length ≤ 10000)
    (h : ∀ h' t' tk, (∀ b o, b ≠ dx → b ≠ g → s.heap.get? b = some o → h'.get? b = some o) → LexD h' dx g y Pb (p + (oneAt text p).length) (ln + if oneAt text p = nlS then 1 else 0) → Q (.str (oneAt text p) t') { s with heap := h', toks := tk }) :
    wpAny (model pw w) A (call (.ref 35) [.ref x]) Q E s := wpAny_call (read_code T hr hK L D fd fg hp htx h)
end
end Mine
namespace Mine
open PySem PySem.W PySem.Challenge PySem.Calls PyProof.Rows
open Builtin Builtin.ObjectAttr

section
variable {w : World} {A : Around} {E : Value → Shared → Prop} {s : Shared} {n : Nat}

theorem hlk6 : typeLookup (.type "function") "__get__" = pure (some (.builtin "function.__get__")) := PySem.F.ks_slot_function_get.lookup
theorem lkS6 : typeLookup (.type "function") "__set__" = pure none := by rw [typeLookup_type, builtinLookup_eq_fast]; kernel_rfl
theorem lkD6 : typeLookup (.type "function") "__delete__" = pure none := by rw [typeLookup_type, builtinLookup_eq_fast]; kernel_rfl
/-- a method of the class's, loaded from an object -/
theorem boundEntry {h : Heap} {g : Array GenState} {d : Drawn} {t : Nat} {os : OsState} {nm q : Str} {C N x f : Addr} {of : Obj} {bs : List Value} {sn : List Str} {sub : List Value} {ab : Bool} {col : Option Bool} {dd : Option Addr} {k0 k1 k2 k3 k5 : Option Value} {newId : String}
    {mN mA : Str → Option Value} {name : Str} {tk : Tok} {Q : Fin → Shared → Prop}
    (hC : h.get? C = some (excClassObj nm q C N bs [.type "object"] true sn sub ab col dd k0 k1 k2 k3 k5 newId)) (hn : h.Ns N mN) (hng : mN "__getattribute__" = none) (hnh : mN "__getattr__" = none)
    (hf : mN name = some (.ref f)) (hfo : h.get? f = some of) (hfc : of.cls = .type "function") (hB : typeLookup (.type "object") name = pure none) (I : h.Inst x C mA) (hA : mA name = none) (hsome : ∃ a v, mA a = some v) (hcp : ((["__module__", "__name__", "__qualname__", "__doc__", "__annotations__"] : List Str).contains name) = false)
    (hq : Q (.done (.ret (.ref h.objs.size))) ⟨h.push { cls := .type "method", data := .fields #[.ref f, .ref x] }, g, d, t, os⟩) :
    wpAny (model pw w) A (Builtin.«proto.getattr_hooked» ⟨[.ref x, .str name tk], []⟩) Q E ⟨h, g, d, t, os⟩ := by
  obtain ⟨o, hx, hc, hnc, hd⟩ := id I
  have hTf : (⟨h, g, d, t, os⟩ : Shared).TypeIs (.ref f) "function" := ⟨_, hfo, hfc⟩
  unfold Builtin.«proto.getattr_hooked»
  repeat (first | (with_reducible refine wpAny_loadPart_at hx ?_; rw [hc]) | (with_reducible refine wpAny_typeLookup_exc hC hn F.mro_object hB ?_; rw [hf]) | (with_reducible refine wpAny_typeLookup_exc hC hn F.mro_object F.lk_object_getattr ?_; rw [hnh]) | (with_reducible refine wpAny_typeOf (T := "function") ⟨_, hfo, hfc⟩ ?_) | (with_reducible refine wpAny_of_eq hlk6 ?_) | (with_reducible refine wpAny_of_eq lkS6 ?_) | (with_reducible refine wpAny_of_eq lkD6 ?_) | wp_step)
  split
  · rename_i c hcd
    exact absurd hcd (hnc c)
  rcases hd with ⟨_, hmA⟩ | ⟨dx, hdx, hne, hns⟩
  · obtain ⟨a, v, e⟩ := hsome
    rw [hmA a] at e; cases e
  unfold instanceDict
  repeat (first | (with_reducible refine wpAny_loadPart_at hx ?_; rw [hc]) | with_reducible refine wpAny_loadPart_at hC ?_ | wp_step)
  rw [hdx]
  unfold copiedAttributeGuard
  simp only [hcp, Bool.false_eq_true, if_false]
  repeat (first | (with_reducible refine wpAny_nsGet hns.ns ?_; rw [hA]) | (with_reducible refine wpAny_typeLookup_exc hC hn F.mro_object F.lk_object_getattr ?_; rw [hnh]) | (with_reducible refine wpAny_call_entry PySem.F.ks_slot_function_get hTf PySem.F.ks_entry_function_get ?_ (PySem.F.ks_getArgs_function _ _ _)) | (with_reducible refine ⟨_, rfl, ?_⟩) | wp_step | dsimp only)
  exact hq
end
end Mine
namespace Mine
open PySem PySem.W PySem.Challenge PySem.Calls PyProof.Rows
open Builtin Builtin.ObjectAttr

theorem cl_rc (P : Params) : cl P (Str.ofString "_read_char") = some (.ref 35) := by kernel_rfl
theorem no_rc : typeLookup (.type "object") (Str.ofString "_read_char") = pure none := by rw [typeLookup_type, builtinLookup_eq_fast]; kernel_rfl
theorem lk_call : typeLookup (.type "method") "__call__" = pure (some (.builtin "method.__call__")) := by rw [typeLookup_type, builtinLookup_eq_fast]; kernel_rfl

section
variable {w : World} {A : Around} {E : Value → Shared → Prop} {s : Shared} {n : Nat}

/-- self._read_char, not called -/
theorem boundLoad {env : Env} {x f : Addr} {of : Obj} {nm attr : Str} {xp pos : Pos} {mA m : Str → Option Value} {Q : Value → Shared → Prop} (T : TopH w s.heap) (I : s.heap.Inst x 52 mA) (hA : mA attr = none) (hsome : ∃ a v, mA a = some v)
    (hf : cl w.params attr = some (.ref f)) (hfo : s.heap.get? f = some of) (hfc : of.cls = .type "function") (hB : typeLookup (.type "object") attr = pure none) (hcp : ((["__module__", "__name__", "__qualname__", "__doc__", "__annotations__"] : List Str).contains attr) = false)
    (hn : s.heap.Ns env.locals m) (hm : m nm = some (.ref x)) (hk : env.scope.kind = .function) (hl : env.kindOf nm = some .local) (hd : (nm == ("__debug__" : Str)) = false)
    (he : eval (.Attribute (.Name nm xp) attr pos) env = (do
      let o ← eval (.Name nm xp) env
      standAt pos.atName
      let r ← holding [o] (getAttr o attr true)
      letTemporaryGo (.Name nm xp) o r
      pure r))
    (h : Q (.ref s.heap.objs.size) { s with heap := s.heap.push { cls := .type "method", data := .fields #[.ref f, .ref x] }, toks := s.toks + 1 }) : wpAny (model pw w) A (eval (.Attribute (.Name nm xp) attr pos) env) Q E s := by
  obtain ⟨nm', q, k2, k3, hC⟩ := T.cls
  refine Attribute_Name_ (wpAny_Name (wpAny_loadName_local hk hl hn hm ?_) hd) he
  obtain ⟨hp, g, d, t, os⟩ := s
  obtain ⟨o, hx, hc, _⟩ := id I
  have hng := cl_ga w.params
  have hn' := T.clsNs
  unfold getAttr getAttrBy
  repeat (first | (with_reducible refine wpAny_loadPart_at hx ?_; rw [hc]) | (with_reducible refine wpAny_typeLookup_exc hC hn' F.mro_object F.lk_object_ga ?_; rw [hng]) | wp_step)
  show wpAny _ _ ((runValue (.builtin "proto.getattr_hooked" ⟨[.ref x, .str attr t], []⟩)).onRaise (noteIf true (.ref x) (.str attr t))) _ _ _
  refine wpAny_onRaise (wpAny_runValue (codeAny_builtin F.plainObj_entry_getattr_hooked (boundEntry hC T.clsNs (cl_ga _) (cl_gt _) hf hfo hfc hB I hA hsome hcp ?_)))
  exact wpAny_pure h

/-- iter(a bound method, '') -/
theorem iterSent {b f x : Addr} {y : Str} {t : Tok} {Q : Value → Shared → Prop} (hb : s.heap.get? b = some { cls := .type "method", data := .fields #[.ref f, .ref x] })
    (h : Q (.ref s.heap.objs.size) { s with heap := s.heap.push { cls := .type "callable_iterator", data := .fields #[.ref b, .str y t, .bool false] } }) :
    wpAny (model pw w) A (call (.builtin "iter") [.ref b, .str y t]) Q E s := by
  refine call_function_entry (id := "iter") (b := Builtin.«iter») (by decide +kernel) (by decide +kernel) (entryFor_of_tree (by kernel_rfl)) (by unfold argsOk; kernel_rfl) ?_
  show wpAny _ _ (do
    if (← specialOf (.ref b) "__call__").isNone then rule "iter.not-callable"; raiseError "TypeError" "iter(v, w): v must be callable"
    rule "iter.sentinel"; ret (← newFields "callable_iterator" [.ref b, .str y t, .bool false])) _ _ _
  refine wpAny_bind (wpAny_specialOf (T := "method") ⟨_, hb, rfl⟩ lk_call ?_)
  show wpAny _ _ (rule "iter.sentinel" >>= fun _ => (newFields "callable_iterator" [.ref b, .str y t, .bool false] >>= fun v => ret v)) _ _ _
  refine wpAny_bind (wpAny_rule ?_)
  refine wpAny_bind (wpAny_newObj_type ?_)
  exact wpAny_pure ⟨_, rfl, h⟩

theorem wpAny_callBorrowed {f : Value} {pos : List Value} {Q : Value → Shared → Prop}
    (hc : codeAny (model pw w) A (.call f ⟨pos, []⟩) (fun r s' => match r with | .ok (.ret v) => Q v s' | .ok _ => False | .error e => E e s') s) :
    wpAny (model pw w) A (callBorrowed f pos) Q E s := fun Γ p hΓ => by
  have h := hc (Γ.enter (.call f ⟨pos, []⟩) none p) p rfl (hΓ.enter (.call f ⟨pos, []⟩) none p (by intro x; cases x))
  unfold callBorrowed
  rw [Sem.wp_call]
  have e : (fun (r : Result) (s' : Shared) => Sem.wp (model pw w) Γ (match r with | .ok (.ret v) => Sem.pure v | .ok _ => Sem.unsupported "internal:call-without-return-value" | .error e => Sem.raise e) (fun a _ s' => Q a s') (fun e _ s' => E e s') p s') =
      (fun r s' => match r with | .ok (.ret v) => Q v s' | .ok _ => False | .error e => E e s') := by
    funext r s'
    cases r with
    | error e => rfl
    | ok f => cases f <;> rfl
  refine Eq.mpr ?_ h
  congr 1

theorem slot_ci_next : Slot "callable_iterator" "__next__" "callable_iterator.__next__" := .of (owner := "callable_iterator") (n := "__next__") (by rw [typeLookup_type, builtinLookup_eq_fast]; kernel_rfl) (by decide +kernel) (by decide +kernel) (by decide +kernel)
  (by first | exact .inl (by decide +kernel) | exact .inr (by decide +kernel)) (by rw [isSubtype_type]; kernel_rfl)
theorem entry_ci_next : entryFor table "callable_iterator.__next__" = some Builtin.«callable_iterator.__next__» := entryFor_of_tree (by kernel_rfl)
theorem args_ci_next (a : Value) : argsOk "callable_iterator.__next__" ⟨[a], []⟩ := by unfold argsOk; kernel_rfl
theorem slot_ci_iter : Slot "callable_iterator" "__iter__" "callable_iterator.__iter__" := .of (owner := "callable_iterator") (n := "__iter__") (by rw [typeLookup_type, builtinLookup_eq_fast]; kernel_rfl) (by decide +kernel) (by decide +kernel) (by decide +kernel)
  (by first | exact .inl (by decide +kernel) | exact .inr (by decide +kernel)) (by rw [isSubtype_type]; kernel_rfl)
theorem entry_ci_iter : entryFor table "callable_iterator.__iter__" = some Builtin.«dict_keyiterator.__iter__» :=
  entryFor_alias (id' := "dict_keyiterator.__iter__") (by kernel_rfl) (by first | rfl | decide +kernel | (unfold String.splitOn; simp +decide [String.splitOnAux])) (by decide +kernel) (by kernel_rfl)
theorem args_ci_iter (a : Value) : argsOk "callable_iterator.__iter__" ⟨[a], []⟩ := by unfold argsOk; kernel_rfl
end
end Mine
namespace Mine
open PySem PySem.W PySem.Challenge PySem.Calls PyProof.Rows

theorem Room.in1 {A : Around} {n : Nat} (h : Room A (n + 1)) : Room A.in1 n :=
  ⟨h.handled, by have := h.depth; show A.depth + n < _; lia, by have := h.units; show A.units + 1 + 20 * n < _; lia⟩

/-- the iterator over what _read_char gives, up to '' -/
structure CIter (h : Heap) (I b x : Addr) : Prop where
  it : ∃ t, h.get? I = some { cls := .type "callable_iterator", data := .fields #[.ref b, .str ⟨#[]⟩ t, .bool false] }
  bd : h.get? b = some { cls := .type "method", data := .fields #[.ref 35, .ref x] }

section
variable {w : World} {A : Around} {E : Value → Shared → Prop} {s : Shared} {n : Nat}

theorem borrows {b x : Addr} {Q : Bool → Shared → Prop} (T : TopH w s.heap) (hb : s.heap.get? b = some { cls := .type "method", data := .fields #[.ref 35, .ref x] }) (h : Q true s) :
    wpAny (model pw w) A (borrowsExactly (.ref b)) Q E s := by
  obtain ⟨o, pm, ho, hc, hd⟩ := (fnRead w.params).get T
  unfold borrowsExactly
  refine wpAny_bind (wpAny_load hb ?_)
  show wpAny _ _ (do match (← load 35).data with | .func _ => pure true | _ => pure false) _ _ _
  refine wpAny_bind (wpAny_load ho ?_)
  rw [hd]
  exact wpAny_pure h

theorem nextBody {K : Addr → Obj → Prop} {x dx y g Pb I b : Addr} {text : Str} {p : Nat} {ln : Int} {Q : Fin → Shared → Prop} (T : TopH w s.heap) (hr : Room A (n + 3)) (hK : ∀ b o, K b o → s.heap.get? b = some o) (L : LexK K x dx y g text) (D : LexD s.heap dx g y Pb p ln)
    (fd : Free w dx) (fg : Free w g) (hp : p ≤ text.length) (htx : text.length ≤ 10000) (C : CIter s.heap I b x) (h1 : I ≠ dx) (h2 : I ≠ g) (h3 : b ≠ dx) (h4 : b ≠ g)
    (hitem : p < text.length → ∀ h' t' tk, (∀ b o, b ≠ dx → b ≠ g → s.heap.get? b = some o → h'.get? b = some o) → LexD h' dx g y Pb (p + 1) (ln + if oneAt text p = nlS then 1 else 0) → Q (.done (.ret (.str (oneAt text p) t'))) { s with heap := h', toks := tk })
    (hend : p = text.length → ∀ h' e tk, (∀ b o, b ≠ dx → b ≠ g → b ≠ I → s.heap.get? b = some o → h'.get? b = some o) → LexD h' dx g y Pb p ln → (∃ o, h'.get? e = some o ∧ o.cls = .type "StopIteration") → E (.ref e) { s with heap := h', toks := tk }) :
    wpAny (model pw w) A.in1 (Builtin.«callable_iterator.__next__» ⟨[.ref I], []⟩) Q E s := by
  obtain ⟨⟨t0, hI⟩, hb⟩ := C
  show wpAny _ _ (field (.ref I) 2 >>= _) _ _ _
  refine wpAny_bind (wpAny_field hI rfl (x := .bool false) rfl ?_)
  rw [if_neg (by decide)]
  show wpAny _ _ (field (.ref I) 0 >>= _) _ _ _
  refine wpAny_bind (wpAny_field hI rfl (x := .ref b) rfl ?_)
  refine wpAny_bind (wpAny_attempt ?_)
  unfold callOutOfASlot
  refine wpAny_bind (borrows T hb ?_)
  rw [if_pos rfl]
  refine wpAny_callBorrowed ?_
  refine ks_codeAny_call_bound hb ?_
  refine read_code T hr.in1 hK L D fd fg hp htx fun h₁ t₁ tk₁ k₁ D₁ => ?_
  have T₁ : TopH w h₁ := ⟨fun i o e hn => k₁ _ _ (fun q => fd.top i o e hn q) (fun q => fg.top i o e hn q) (T.at_ i o e hn), let ⟨kvs, a, c⟩ := T.dict; let ⟨o, es, ep, ho, r⟩ := c; ⟨kvs, a, o, es, ep, k₁ _ _ fd.dict fg.dict ho, r⟩⟩
  have hI₁ := k₁ _ _ h1 h2 hI
  have hb₁ := k₁ _ _ h3 h4 hb
  show wpAny _ _ (field (.ref I) 2 >>= _) _ _ _
  refine wpAny_bind (wpAny_field hI₁ rfl (x := .bool false) rfl ?_)
  rw [if_neg (by decide)]
  show wpAny _ _ (field (.ref I) 1 >>= _) _ _ _
  refine wpAny_bind (wpAny_field hI₁ rfl (x := .str ⟨#[]⟩ t0) rfl ?_)
  refine wpAny_bind (wpAny_holding (wpAny_eqBool_str ?_))
  have hlen : text.length = text.cps.size := rfl
  by_cases hlt : p < text.length
  · have hx : text.cps[p]? = some (text.cps[p]'hlt) := Array.getElem?_eq_getElem hlt
    have h1' : oneAt text p = ⟨#[text.cps[p]'hlt]⟩ := by unfold oneAt; rw [hx]
    have hne : ¬ ((⟨#[]⟩ : Str) = oneAt text p) := by rw [h1']; simp
    rw [decide_eq_false hne]
    have hone : (oneAt text p).length = 1 := by rw [h1']; rfl
    rw [hone] at D₁
    show wpAny _ _ (ret (.str (oneAt text p) t₁)) _ _ _
    exact wpAny_pure (hitem hlt h₁ t₁ tk₁ k₁ D₁)
  · have hpe : p = text.length := by lia
    have hx : text.cps[p]? = none := Array.getElem?_eq_none (by lia)
    have h1' : oneAt text p = ⟨#[]⟩ := by unfold oneAt; rw [hx]
    rw [decide_eq_true h1'.symm]
    have hD : LexD h₁ dx g y Pb p ln := by
      have := D₁
      rw [h1'] at this
      have hn : ¬ ((⟨#[]⟩ : Str) = nlS) := by
        intro e
        have : (⟨#[]⟩ : Str).cps.size = nlS.cps.size := by rw [e]
        have h2 : nlS.cps.size = 1 := by kernel_rfl
        rw [h2] at this; cases this
      rw [if_neg hn, Int.add_zero] at this
      exact this
    show wpAny _ _ (rule "callable_iterator.__next__.sentinel" >>= _) _ _ _
    refine wpAny_bind (wpAny_rule ?_)
    refine wpAny_bind ?_
    show wpAny _ _ (field (.ref I) 0 >>= _) _ _ _
    refine wpAny_bind (wpAny_field hI₁ rfl (x := .ref b) rfl ?_)
    refine wpAny_bind ?_
    unfold slotLetsGo
    refine wpAny_bind (borrows T₁ hb₁ ?_)
    rw [if_pos rfl]
    refine wpAny_pure ?_
    refine wpAny_bind (wpAny_setField_rec hI₁ (by simp) fun h₂ z₂ e₂ => ?_)
    refine wpAny_bind (wpAny_setField_rec z₂ (by simp) fun h₃ z₃ e₃ => ?_)
    refine wpAny_setField_rec z₃ (by simp) fun h₄ z₄ e₄ => ?_
    dsimp only at e₂ e₃ e₄ ⊢
    have k₄ : ∀ b o, b ≠ I → h₁.get? b = some o → h₄.get? b = some o := fun b o hb e => (e₄.2 b hb).trans ((e₃.2 b hb).trans ((e₂.2 b hb).trans e))
    show wpAny _ _ (newExc (.type "StopIteration") [] >>= _) _ _ _
    refine wpAny_bind ?_
    simp only [newExc, newTuple]
    refine wpAny_bind (wpAny_newObj_type ?_ (by size_fits))
    refine wpAny_bind (m := firstArgMember _ _) (wpAny_of_eq (a := Value.none) (by first | rfl | (simp only [firstArgMember]; rfl)) ?_)
    refine wpAny_newObj_type ?_ (by size_fits)
    simp only [raiseNew]
    refine wpAny_bind (wpAny_handled ?_)
    have hh := hr.handled
    first | rw [show A.in1.handled = none from hh] | rw [hh]
    refine wpAny_bind (wpAny_pure (wpAny_throw ?_))
    refine hend hpe _ _ _ (fun b o q1 q2 q3 e => ?_) (hD.but fun b o hb e => ?_) ⟨_, Heap.get?_push_size _ rfl, rfl⟩
    · exact Heap.get?_push_of_some _ (Heap.get?_push_of_some _ (k₄ b o q3 (k₁ b o q1 q2 e)))
    · refine Heap.get?_push_of_some _ (Heap.get?_push_of_some _ (k₄ b o ?_ e))
      rcases hb with rfl | rfl
      · exact h1.symm
      · exact h2.symm

theorem nextItem {K : Addr → Obj → Prop} {x dx y g Pb I b : Addr} {text : Str} {p : Nat} {ln : Int} {Q : Option Value → Shared → Prop} (T : TopH w s.heap) (hr : Room A (n + 3)) (hK : ∀ b o, K b o → s.heap.get? b = some o) (L : LexK K x dx y g text) (D : LexD s.heap dx g y Pb p ln)
    (fd : Free w dx) (fg : Free w g) (hp : p < text.length) (htx : text.length ≤ 10000) (C : CIter s.heap I b x) (h1 : I ≠ dx) (h2 : I ≠ g) (h3 : b ≠ dx) (h4 : b ≠ g)
    (h : ∀ h' t' tk, (∀ b o, b ≠ dx → b ≠ g → s.heap.get? b = some o → h'.get? b = some o) → LexD h' dx g y Pb (p + 1) (ln + if oneAt text p = nlS then 1 else 0) → Q (some (.str (oneAt text p) t')) { s with heap := h', toks := tk }) :
    wpAny (model pw w) A (pyNext (.ref I)) Q E s := by
  have hT : s.TypeIs (.ref I) "callable_iterator" := let ⟨t, e⟩ := C.it; ⟨_, e, rfl⟩
  unfold pyNext
  refine wpAny_bind (wpAny_attempt (wpAny_callSpecial?_slot (name := Str.ofString "__next__") hT slot_ci_next (wpAny_call_entry slot_ci_next hT entry_ci_next ?_ (args_ci_next _))))
  refine nextBody T hr hK L D fd fg (Nat.le_of_lt hp) htx C h1 h2 h3 h4 (fun _ h' t' tk k D' => ?_) (fun e => absurd e (Nat.ne_of_lt hp))
  exact ⟨_, rfl, wpAny_pure (h h' t' tk k D')⟩

theorem nextEnd {K : Addr → Obj → Prop} {x dx y g Pb I b : Addr} {text : Str} {p : Nat} {ln : Int} {Q : Option Value → Shared → Prop} (T : TopH w s.heap) (hr : Room A (n + 3)) (hK : ∀ b o, K b o → s.heap.get? b = some o) (L : LexK K x dx y g text) (D : LexD s.heap dx g y Pb p ln)
    (fd : Free w dx) (fg : Free w g) (hp : p = text.length) (htx : text.length ≤ 10000) (C : CIter s.heap I b x) (h1 : I ≠ dx) (h2 : I ≠ g) (h3 : b ≠ dx) (h4 : b ≠ g)
    (h : ∀ h' tk, (∀ b o, b ≠ dx → b ≠ g → b ≠ I → s.heap.get? b = some o → h'.get? b = some o) → LexD h' dx g y Pb p ln → Q none { s with heap := h', toks := tk }) :
    wpAny (model pw w) A (pyNext (.ref I)) Q E s := by
  have hT : s.TypeIs (.ref I) "callable_iterator" := let ⟨t, e⟩ := C.it; ⟨_, e, rfl⟩
  unfold pyNext
  refine wpAny_bind (wpAny_attempt (wpAny_callSpecial?_slot (name := Str.ofString "__next__") hT slot_ci_next (wpAny_call_entry slot_ci_next hT entry_ci_next ?_ (args_ci_next _))))
  refine nextBody T hr hK L D fd fg (Nat.le_of_eq hp) htx C h1 h2 h3 h4 (fun e => absurd hp (Nat.ne_of_lt e)) (fun _ h' e tk k D' he => ?_)
  obtain ⟨o, ho, hc⟩ := he
  refine wpAny_bind (wpAny_isInstance (T := "StopIteration") (b := true) ⟨o, ho, hc⟩ isSubtype_stop ?_)
  exact wpAny_pure (h h' tk k D')

theorem iterCI {I b x : Addr} {Q : Value → Shared → Prop} (C : CIter s.heap I b x) (h : Q (.ref I) s) : wpAny (model pw w) A (pyIter (.ref I)) Q E s := by
  have hT : s.TypeIs (.ref I) "callable_iterator" := let ⟨t, e⟩ := C.it; ⟨_, e, rfl⟩
  refine wpAny_pyIter_slot hT slot_ci_iter (wpAny_call_entry slot_ci_iter hT entry_ci_iter ?_ (args_ci_iter _))
  show wpAny _ _ (ret (.ref I)) _ _ s
  exact wpAny_pure ⟨_, rfl, "callable_iterator", _, hT, slot_ci_next.lookup, h⟩
end
end Mine
namespace Mine
open PySem PySem.W PySem.Challenge PySem.Calls PyProof.Rows

/-- all that get_token's loops hold on to -/
structure LexW (w : World) (K : Addr → Obj → Prop) (x dx y g I b : Addr) (text : Str) (L : Addr) : Prop where
  top : ∀ h : Heap, (∀ b o, K b o → h.get? b = some o) → TopH w h
  lex : LexK K x dx y g text
  it : ∃ o t, K I o ∧ o = { cls := .type "callable_iterator", data := .fields #[.ref b, .str ⟨#[]⟩ t, .bool false] }
  bd : K b { cls := .type "method", data := .fields #[.ref 35, .ref x] }
  fd : Free w dx
  fg : Free w g
  I1 : I ≠ dx
  I2 : I ≠ g
  b1 : b ≠ dx
  b2 : b ≠ g
  bI : b ≠ I
  Ld : L ≠ dx
  Lg : L ≠ g
  len : text.length ≤ 10000

section
variable {w : World} {A : Around} {E : Value → Shared → Prop} {s : Shared} {n : Nat}

theorem LexW.ci {K : Addr → Obj → Prop} {x dx y g I b L : Addr} {text : Str} (W : LexW w K x dx y g I b text L) {h : Heap} (k : ∀ b o, K b o → h.get? b = some o) : CIter h I b x := by
  obtain ⟨o, t, ko, rfl⟩ := W.it
  exact ⟨⟨t, k _ _ ko⟩, k _ _ W.bd⟩

theorem ciLoop {env : Env} {R : Result → Shared → Prop} {c : Str} {px : Pos} {body : List Stmt} {K : Addr → Obj → Prop} {x dx y g Pb I b : Addr} {text : Str} {m₀ : Str → Option Value} {p₀ : Nat} {ln₀ : Int} (hr : Room A (n + 3))
    (W : LexW w K x dx y g I b text env.locals) (hx : env.kindOf c = some .local) (hp : (env.scope.kind == .class || (env.scope.kind == .module && env.locals != env.globals)) = false)
    (J : Nat → Int → (Str → Option Value) → Prop) (F₀ : Fx K env.locals s.heap m₀) (D₀ : LexD s.heap dx g y Pb p₀ ln₀) (hp₀ : p₀ ≤ text.length) (h0 : J p₀ ln₀ m₀)
    (step : ∀ p ln t tk m h₁, p < text.length → s.toks ≤ tk → J p ln m → Fx K env.locals h₁ (fun q => if q = c then some (.str (oneAt text p) t) else m q) → LexD h₁ dx g y Pb (p + 1) (ln + if oneAt text p = nlS then 1 else 0) →
      wpAny (model pw w) A (execs body env) (fun f s₂ => match f with
        | .next | .cont => ∃ h₂ tk₂ m₂ p₂ ln₂, s₂ = { s with heap := h₂, toks := tk₂ } ∧ s.toks ≤ tk₂ ∧ p < p₂ ∧ p₂ ≤ text.length ∧ Fx K env.locals h₂ m₂ ∧ LexD h₂ dx g y Pb p₂ ln₂ ∧ J p₂ ln₂ m₂
        | .brk => R (.ok .next) s₂
        | .ret v => R (.ok (.ret v)) s₂) (fun _ _ => False) { s with heap := h₁, toks := tk })
    (fin : ∀ h tk ln m, Fx (fun a o => K a o ∧ a ≠ I) env.locals h m → LexD h dx g y Pb text.length ln → J text.length ln m → R (.ok .next) { s with heap := h, toks := tk }) :
    codeAny (model pw w) A (.forLoop (.Name c px) (.ref I) body [] env) R s := by
  refine codeAny_forLoop (fun k s' => ∃ h tk p ln m, s' = { s with heap := h, toks := tk } ∧ s.toks ≤ tk ∧ p ≤ text.length ∧ Fx K env.locals h m ∧ LexD h dx g y Pb p ln ∧ J p ln m ∧ k = text.length + 1 - p) ?_ (text.length + 1 - p₀) ⟨s.heap, s.toks, p₀, ln₀, m₀, rfl, Nat.le_refl _, hp₀, F₀, D₀, h0, rfl⟩
  intro k s' JJ
  refine hideG fun GG hGG => ?_
  obtain ⟨h, tk, p, ln, m, rfl, htk, hpl, F, D, hJ, rfl⟩ := JJ
  subst hGG
  have kk := F.keep
  have T := W.top h kk
  by_cases hlt : p < text.length
  · refine wpAny_with_toks (n := tk) (Nat.le_refl _) (nextItem T hr kk W.lex D W.fd W.fg hlt W.len (W.ci kk) W.I1 W.I2 W.b1 W.b2 fun h₁ t₁ tk₁ k₁ D₁ hle => ?_)
    have hle : tk ≤ tk₁ := hle
    dsimp only at k₁
    have F₁ : Fx K env.locals h₁ m := F.but (wr := [dx, g]) (by simp [W.Ld, W.Lg]) (by intro b hb o e; simp at hb; rcases hb with rfl | rfl; exact W.lex.ndx o e; exact W.lex.ng o e) fun b o hb e => k₁ b o (by intro q; exact hb (by simp [q])) (by intro q; exact hb (by simp [q])) e
    refine wpAny_assign_Name (stx F₁ (fun h₂ F₂ s₂ => ?_) hx hp)
    dsimp only at s₂ ⊢
    have D₂ := D₁.but (h' := h₂) fun b o hb e => (s₂.2 b (by rcases hb with rfl | rfl; exact W.Ld.symm; exact W.Lg.symm)).trans e
    refine wpAny_mono (step p ln t₁ (tk₁ + 1) m h₂ hlt (by omega) hJ F₂ D₂) (fun f s₃ hf => ?_) fun _ _ e => e.elim
    have key : (∃ h₂ tk₂ m₂ p₂ ln₂, s₃ = { s with heap := h₂, toks := tk₂ } ∧ s.toks ≤ tk₂ ∧ p < p₂ ∧ p₂ ≤ text.length ∧ Fx K env.locals h₂ m₂ ∧ LexD h₂ dx g y Pb p₂ ln₂ ∧ J p₂ ln₂ m₂) →
        ∃ k', k' < text.length + 1 - p ∧ ∃ h tk p ln m, s₃ = { s with heap := h, toks := tk } ∧ s.toks ≤ tk ∧ p ≤ text.length ∧ Fx K env.locals h m ∧ LexD h dx g y Pb p ln ∧ J p ln m ∧ k' = text.length + 1 - p := by
      rintro ⟨h₃, tk₃, m₃, p₃, ln₃, rfl, a, b, c, d, e, f⟩
      exact ⟨text.length + 1 - p₃, by omega, h₃, tk₃, p₃, ln₃, m₃, rfl, a, c, d, e, f, rfl⟩
    cases f with
    | next => exact key hf
    | cont => exact key hf
    | brk => exact hf
    | ret v => exact hf
  · have hpe : p = text.length := by omega
    subst hpe
    refine nextEnd T hr kk W.lex D W.fd W.fg rfl W.len (W.ci kk) W.I1 W.I2 W.b1 W.b2 fun h₁ tk₁ k₁ D₁ => ?_
    have LI : env.locals ≠ I := by
      obtain ⟨o, t, ko, _⟩ := W.it
      intro e; exact F.off o (e ▸ ko)
    refine wpAny_execs_nil (fin h₁ tk₁ ln m ?_ D₁ hJ)
    refine (F.mono (K' := fun a o => K a o ∧ a ≠ I) fun b o e => e.1).but (wr := [dx, g, I]) (by simp [W.Ld, W.Lg, LI]) ?_ fun b o hb e => k₁ b o (by intro q; exact hb (by simp [q])) (by intro q; exact hb (by simp [q])) (by intro q; exact hb (by simp [q])) e
    intro b hb o e
    simp at hb
    rcases hb with rfl | rfl | rfl
    · exact W.lex.ndx o e.1
    · exact W.lex.ng o e.1
    · exact e.2 rfl
end
end Mine
namespace Mine
open PySem PySem.W PySem.Challenge PySem.Calls PyProof.Rows

section
variable {w : World} {A : Around} {E : Value → Shared → Prop} {s : Shared} {n : Nat} {Q : Value → Shared → Prop}

noncomputable abbrev envGet (L : Addr) : Env := envOf (Str.ofString "_netrclex.get_token") (fScope (stM 2)) L 42 (.ref 41)

theorem LexK.mono {K K' : Addr → Obj → Prop} {x dx y g : Addr} {text : Str} (l : LexK K x dx y g text) (k : ∀ a o, K a o → K' a o) (n1 : ∀ o, ¬ K' dx o) (n2 : ∀ o, ¬ K' g o) : LexK K' x dx y g text := by
  refine ⟨n1, n2, l.dg, l.inst.imp fun o h => ⟨k _ _ h.1, h.2⟩, ?_⟩
  obtain ⟨fo, oy, dy, ody, mB, a, b, c, d, e, f⟩ := l.strm
  refine ⟨fo, oy, dy, ody, mB, k _ _ a, b, k _ _ c, d, e, ⟨?_⟩⟩
  obtain ⟨cT, cG, cl, ct, cd, pm, oT, oG, ofn, t, k1, d1, k2, d2, k3, d3, l1, l2, c, oc, vs, t', e1, k4, r⟩ := f.fn
  exact ⟨cT, cG, cl, ct, cd, pm, oT, oG, ofn, t, k _ _ k1, d1, k _ _ k2, d2, k _ _ k3, d3, l1, l2, c, oc, vs, t', e1, k _ _ k4, r⟩

theorem get_pre {K : Addr → Obj → Prop} {x dx y g Pb : Addr} {text : Str} {p : Nat} {ln : Int} (T : TopH w s.heap) (hr : Room A (n + 1)) (hK : ∀ b o, K b o → s.heap.get? b = some o) (LK : LexK K x dx y g text) (D : LexD s.heap dx g y Pb p ln)
    (fd : Free w dx) (fg : Free w g) (htx : text.length ≤ 10000) (hP : s.heap.PlainList Pb #[]) (hPd : Pb ≠ dx) (hPg : Pb ≠ g)
    (hfor : ∀ h tk m K' I b t, s.toks ≤ tk → (∀ a o, s.heap.get? a = some o → a ≠ dx → a ≠ g → K' a o) → LexW w K' x dx y g I b text s.heap.objs.size → Fx K' s.heap.objs.size h m → LexD h dx g y Pb p ln →
      (∀ a o, K' a o → a ≠ I → a ≠ b → s.heap.get? a = some o) → m (Str.ofString "token") = some (.str ⟨#[]⟩ t) → m (Str.ofString "fiter") = some (.ref I) → m (Str.ofString "self") = some (.ref x) → Room (A.deeper (envGet s.heap.objs.size)) n → I ≠ s.heap.objs.size → s.heap.get? I = none →
      wpAny (model pw w) (A.deeper (envGet s.heap.objs.size)) (execs ((fBody (stM 2)).drop 3) (envGet s.heap.objs.size)) (fun f s' => Q (match f with | .ret v => v | _ => .none) s') (fun _ _ => False) { s with heap := h, toks := tk }) :
    wpAny (model pw w) A (call (.ref 42) [.ref x]) Q E s := by
  refine wpAny_call (codeAny_with_toks (Nat.le_refl _) (enterM [Str.ofString "self"] T hr (fnGet _) (by kernel_rfl) (fun pm => by kernel_rfl) (by kernel_rfl) (by kernel_rfl) (by kernel_rfl) (fun h₁ tk htk F T₁ hr₁ => ?_)))
  have hK₁ : ∀ b o, K b o → h₁.get? b = some o := fun b o e => F.keep _ _ (hK _ _ e)
  have D₁ : LexD h₁ dx g y Pb p ln := D.but fun b o _ e => F.keep _ _ e
  obtain ⟨mA, ns, M⟩ := D₁.attrs
  have I₁ := LK.instOf hK₁ ns
  have P₁ : h₁.PlainList Pb #[] := hP.at fun o e => F.keep _ o e
  obtain ⟨tl, el⟩ := M.line
  refine wpAny_execs_cons ?_
  refine wpAny_If ?_
  refine wpAny_isTrue_value ?_ (by kernel_rfl)
  refine pbX T₁ ⟨I₁, M.push⟩ F.ns rfl (by kernel_rfl) (by kernel_rfl) ?_
  refine wpAny_truthy_list P₁.isList (by decide) ?_
  show wpAny _ _ (execs [] _) _ _ _
  refine wpAny_execs_nil ?_
  refine wpAny_execs_cons ?_
  refine wpAny_Assign_Name ?_ ?hs
  case hs => kernel_rfl
  refine Constant_str ?_
  dsimp only
  refine stx F fun h₂ F₂ s₂ => ?_
  dsimp only at s₂ F₂ ⊢
  have T₂ : TopH w h₂ := F₂.top T fun _ _ e => e
  have hdL : dx ≠ s.heap.objs.size := by obtain ⟨_, ⟨o, _, _, e, _⟩, _⟩ := D.attrs; exact Nat.ne_of_lt (Heap.lt_size e)
  have hgL : g ≠ s.heap.objs.size := by obtain ⟨_, ⟨ng, eg⟩, _⟩ := D.gone; exact Nat.ne_of_lt (Heap.lt_size eg)
  have ns₂ : h₂.Ns1 dx mA := ns.at fun o e => (s₂.2 _ hdL).trans e
  have I₂ := LK.instOf (fun b o e => F₂.keep _ _ (hK _ _ e)) ns₂
  obtain ⟨of, pm, hof, hoc, _⟩ := (fnRead w.params).get T₂
  have D₂ : LexD h₂ dx g y Pb p ln := D.but fun b o _ e => F₂.keep _ _ e
  refine wpAny_execs_cons ?_
  refine wpAny_Assign_Name ?_ ?hs
  case hs => kernel_rfl
  refine bcall2 (id := "iter") T₂ (by kernel_rfl) (by kernel_rfl) (by kernel_rfl) ?_ (by kernel_rfl) (by kernel_rfl) (by kernel_rfl) rfl rfl
  refine boundLoad T₂ I₂ (M.none (by decide)) ⟨_, _, el⟩ (cl_rc _) hof hoc no_rc (by decide) F₂.ns rfl (by kernel_rfl) (by kernel_rfl) (by decide) (by with_unfolding_all rfl) ?_
  refine Constant_str ?_
  dsimp only
  refine iterSent (f := 35) (x := x) (Heap.get?_push_size _ rfl) ?_
  dsimp only
  refine stx ((F₂.push _).push _) fun h₃ F₃ s₃ => ?_
  dsimp only at s₃ F₃ ⊢
  obtain ⟨b, hb⟩ : ∃ b, h₂.objs.size = b := ⟨_, rfl⟩
  have hI1 : (h₂.push { cls := .type "method", data := .fields #[.ref 35, .ref x] }).objs.size = b + 1 := by rw [Heap.size_push, hb]
  have gI : ((h₂.push { cls := .type "method", data := .fields #[.ref 35, .ref x] }).push { cls := .type "callable_iterator", data := .fields #[.ref h₂.objs.size, .str (Str.ofString "") (tk + 1 + 1 + 1 + 1 + 1 + 1), .bool false] }).get? (b + 1) = some { cls := .type "callable_iterator", data := .fields #[.ref b, .str ⟨#[]⟩ (tk + 1 + 1 + 1 + 1 + 1 + 1), .bool false] } := by
    rw [← hI1]
    refine (Heap.get?_push_size _ rfl).trans ?_
    rw [hb, show Str.ofString "" = ⟨#[]⟩ by kernel_rfl]
  have gb : ((h₂.push { cls := .type "method", data := .fields #[.ref 35, .ref x] }).push { cls := .type "callable_iterator", data := .fields #[.ref h₂.objs.size, .str (Str.ofString "") (tk + 1 + 1 + 1 + 1 + 1 + 1), .bool false] }).get? b = some { cls := .type "method", data := .fields #[.ref 35, .ref x] } := by
    rw [← hb]
    exact Heap.get?_push_of_some _ (Heap.get?_push_size _ rfl)
  have hbL : b ≠ s.heap.objs.size := hb ▸ Nat.ne_of_gt F₂.ltL
  have hIL : b + 1 ≠ s.heap.objs.size := Nat.ne_of_gt (Nat.lt_succ_of_lt (hb ▸ F₂.ltL))
  have gI₃ := (s₃.2 _ hIL).trans gI
  have gb₃ := (s₃.2 _ hbL).trans gb
  have bnone : s.heap.get? b = none := by
    cases e : s.heap.get? b with
    | none => rfl
    | some o => exact absurd (Heap.lt_size (F₂.keep _ _ e)) (by rw [hb]; exact Nat.lt_irrefl _)
  have Inone : s.heap.get? (b + 1) = none := by
    cases e : s.heap.get? (b + 1) with
    | none => rfl
    | some o => exact absurd (Heap.lt_size (F₂.keep _ _ e)) (by rw [hb]; exact Nat.not_lt.mpr (Nat.le_succ _))
  have hdin : s.heap.get? dx ≠ none := by obtain ⟨_, ⟨o, _, _, e, _⟩, _⟩ := D.attrs; rw [e]; simp
  have hgin : s.heap.get? g ≠ none := by obtain ⟨_, ⟨ng, eg⟩, _⟩ := D.gone; rw [eg]; simp
  have q1 : b ≠ dx := fun e => hdin (e ▸ bnone)
  have q2 : b ≠ g := fun e => hgin (e ▸ bnone)
  have q3 : b + 1 ≠ dx := fun e => hdin (e ▸ Inone)
  have q4 : b + 1 ≠ g := fun e => hgin (e ▸ Inone)
  obtain ⟨t, ht⟩ : ∃ t, tk + 1 + 1 + 1 + 1 + 1 + 1 = t := ⟨_, rfl⟩
  rw [ht] at gI₃
  obtain ⟨K', hK'⟩ : ∃ K' : Addr → Obj → Prop, ∀ a o, K' a o ↔ ((s.heap.get? a = some o ∧ a ≠ dx ∧ a ≠ g) ∨ (a = b ∧ o = { cls := .type "method", data := .fields #[.ref 35, .ref x] }) ∨ (a = b + 1 ∧ o = { cls := .type "callable_iterator", data := .fields #[.ref b, .str ⟨#[]⟩ t, .bool false] })) := ⟨_, fun _ _ => Iff.rfl⟩
  have kl : ∀ a o, s.heap.get? a = some o → a ≠ dx → a ≠ g → K' a o := fun a o e h1 h2 => (hK' a o).mpr (.inl ⟨e, h1, h2⟩)
  have F₄ : Fx K' s.heap.objs.size h₃ _ :=
    ⟨F₃.ns, fun a o e => by
      rcases (hK' a o).mp e with e | e | e
      · exact F₃.keep _ _ e.1
      · rw [e.1, e.2]; exact gb₃
      · rw [e.1, e.2]; exact gI₃, fun o e => by
      rcases (hK' _ o).mp e with e | e | e
      · exact F₃.off o e.1
      · exact hbL e.1.symm
      · exact hIL e.1.symm⟩
  have n1 : ∀ o, ¬ K' dx o := by
    intro o e
    rcases (hK' _ o).mp e with e | e | e
    · exact e.2.1 rfl
    · exact q1 e.1.symm
    · exact q3 e.1.symm
  have n2 : ∀ o, ¬ K' g o := by
    intro o e
    rcases (hK' _ o).mp e with e | e | e
    · exact e.2.2 rfl
    · exact q2 e.1.symm
    · exact q4 e.1.symm
  have W : LexW w K' x dx y g (b + 1) b text s.heap.objs.size :=
    { top := fun h k => ⟨fun i o e hn => k _ _ (kl _ _ (T.at_ i o e hn) (fun q => fd.top i o e hn q) (fun q => fg.top i o e hn q)), let ⟨kvs, a, c⟩ := T.dict; let ⟨o, es, ep, ho, r⟩ := c; ⟨kvs, a, o, es, ep, k _ _ (kl _ _ ho fd.dict fg.dict), r⟩⟩,
      lex := LK.mono (fun a o e => kl _ _ (hK _ _ e) (fun q => LK.ndx o (q ▸ e)) (fun q => LK.ng o (q ▸ e))) n1 n2,
      it := ⟨_, _, (hK' _ _).mpr (.inr (.inr ⟨rfl, rfl⟩)), rfl⟩, bd := (hK' _ _).mpr (.inr (.inl ⟨rfl, rfl⟩)), fd := fd, fg := fg, I1 := q3, I2 := q4, b1 := q1, b2 := q2, bI := (Nat.succ_ne_self b).symm, Ld := hdL.symm, Lg := hgL.symm, len := htx }
  refine wpAny_mono (hfor h₃ (tk + 1 + 1 + 1 + 1 + 1 + 1 + 1 + 1) _ K' (b + 1) b (tk + 1 + 1 + 1) ?_ kl W F₄ (D₂.but fun a o ha e => ?_) (fun a o e h1 h2 => ?_) ?_ ?_ ?_ hr₁ hIL Inone) (fun _ _ q _ => q) (fun _ _ q => q)
  · lia
  · refine (s₃.2 a ?_).trans (Heap.get?_push_of_some _ (Heap.get?_push_of_some _ e))
    rcases ha with rfl | rfl
    · exact hdL
    · exact hgL
  · rcases (hK' _ _).mp e with e | e | e
    · exact e.1
    · exact absurd e.1 h2
    · exact absurd e.1 h1
  · rfl
  · show some (Value.ref _) = some _
    rw [hI1]
  · rfl
end
end Mine
namespace Mine
open PySem PySem.W PySem.Challenge PySem.Calls PyProof.Rows

noncomputable def inW (c : Nat) : Bool := !(Builtin.Str.occurrences wsS ⟨#[c]⟩ 0 4 1).isEmpty
noncomputable def chS : Str := Str.ofString "ch"
noncomputable def tokS : Str := Str.ofString "token"

/-- what get_token's names hold -/
structure MJ (m : Str → Option Value) (x I : Addr) (tok : Str) : Prop where
  tok : ∃ t, m tokS = some (.str tok t)
  fit : m (Str.ofString "fiter") = some (.ref I)
  self : m (Str.ofString "self") = some (.ref x)
theorem MJ.ch {m : Str → Option Value} {x I : Addr} {tok : Str} (j : MJ m x I tok) (v : Option Value) : MJ (fun q => if q = chS then v else m q) x I tok :=
  ⟨let ⟨t, e⟩ := j.tok; ⟨t, (if_neg (by decide)).trans e⟩, (if_neg (by decide)).trans j.fit, (if_neg (by decide)).trans j.self⟩
theorem MJ.add {m : Str → Option Value} {x I : Addr} {tok tok' : Str} (j : MJ m x I tok) (t : Tok) : MJ (fun q => if q = tokS then some (.str tok' t) else m q) x I tok' :=
  ⟨⟨t, if_pos rfl⟩, (if_neg (by decide)).trans j.fit, (if_neg (by decide)).trans j.self⟩

section
variable {w : World} {A : Around} {E : Value → Shared → Prop} {s : Shared} {n : Nat}
variable {K : Addr → Obj → Prop} {x dx y g Pb I b L : Addr} {text tok : Str} {m : Str → Option Value} {p : Nat} {ln : Int} {c : Nat} {t : Tok}

theorem LexW.inst (W : LexW w K x dx y g I b text L) {h : Heap} (F : Fx K L h m) {mA : Str → Option Value} (ns : h.Ns1 dx mA) : h.Inst x 52 mA := W.lex.instOf F.keep ns

theorem whiteT {px pa pb pc : Pos} {whole : Sem Value} {R : Bool → Shared → Prop} (W : LexW w K x dx y g I b text L) (D : LexD s.heap dx g y Pb p ln) (F : Fx K L s.heap m) (j : MJ m x I tok) (hc : m chS = some (.str ⟨#[c]⟩ t))
    (h : ∀ tk, s.toks ≤ tk → R (inW c) { s with toks := tk }) :
    wpAny (model pw w) A (isTrue (.Compare (.Name (Str.ofString "ch") px) [.In] [.Attribute (.Name (Str.ofString "self") pa) (Str.ofString "whitespace") pb] pc) (envGet L) whole) R E s := by
  obtain ⟨mA, ns, M⟩ := D.attrs
  obtain ⟨tw, ew⟩ := M.white
  refine wpAny_isTrue_Compare1 ?_
  refine ldE F hc ?_
  refine attrX (W.top _ F.keep) (W.inst F ns) ew (cl_wh _) no_wh rfl F.ns j.self (by kernel_rfl) (by kernel_rfl) (by decide) (by with_unfolding_all rfl) ?_
  refine P.in_str ?_
  refine wpAny_truthy_bool ?_
  have e : (!(Builtin.Str.occurrences wsS ⟨#[c]⟩ 0 wsS.length 1).isEmpty) = inW c := by kernel_rfl
  rw [e]
  exact h _ (Nat.le_succ _)

theorem charT {px pb pc : Pos} {whole : Sem Value} {R : Bool → Shared → Prop} {q : Str} {z : Nat} (F : Fx K L s.heap m) (hc : m chS = some (.str ⟨#[c]⟩ t))
    (h : ∀ tk, s.toks ≤ tk → R (decide (⟨#[c]⟩ = q)) { s with toks := tk }) :
    wpAny (model pw w) A (isTrue (.Compare (.Name (Str.ofString "ch") px) [.Eq] [.Constant (.str q) z pb] pc) (envGet L) whole) R E s := by
  refine wpAny_isTrue_Compare1 ?_
  refine ldE F hc ?_
  refine Constant_str ?_
  refine P.eq_str ?_
  refine wpAny_truthy_bool ?_
  rw [strBeq]
  exact h _ (Nat.le_succ _)

theorem readT {px pa pb pc pd : Pos} {R : Flow → Shared → Prop} (hr : Room A (n + 3)) (W : LexW w K x dx y g I b text L) (D : LexD s.heap dx g y Pb p ln) (F : Fx K L s.heap m) (j : MJ m x I tok) (hp : p < text.length) (hl : (pb.endLine == pc.line) = true)
    (h : ∀ h' t' tk m', s.toks ≤ tk → Fx K L h' m' → LexD h' dx g y Pb (p + 1) (ln + if oneAt text p = nlS then 1 else 0) → MJ m' x I tok → m' chS = some (.str (oneAt text p) t') → R .next { s with heap := h', toks := tk }) :
    wpAny (model pw w) A (exec (.Assign [.Name (Str.ofString "ch") px] (.Call (.Attribute (.Name (Str.ofString "self") pa) (Str.ofString "_read_char") pb) [] [] pc) pd) (envGet L)) R E s := by
  obtain ⟨mA, ns, M⟩ := D.attrs
  have T := W.top _ F.keep
  refine wpAny_Assign_Name ?_ ?hs
  case hs => kernel_rfl
  refine methC (trees := []) T (W.inst F ns) (M.none (by decide)) (fnRead _) (cl_rc _) no_rc F.ns j.self (by kernel_rfl) (by kernel_rfl) (by decide) (by kernel_rfl) hl (by kernel_rfl) (by kernel_rfl) ?_
  refine methC0 T (fnRead _) ?_
  refine wpAny_with_toks (n := s.toks) (Nat.le_refl _) (read_call T hr F.keep W.lex D W.fd W.fg (Nat.le_of_lt hp) W.len fun h₁ t₁ tk₁ k₁ D₁ hle => ?_)
  have hle : s.toks ≤ tk₁ := hle
  have F₁ : Fx K L h₁ m := F.but (wr := [dx, g]) (by simp [W.Ld, W.Lg]) (by intro b hb o e; simp at hb; rcases hb with rfl | rfl; exact W.lex.ndx o e; exact W.lex.ng o e) fun b o hb e => k₁ b o (by intro q; exact hb (by simp [q])) (by intro q; exact hb (by simp [q])) e
  refine stx F₁ fun h₂ F₂ s₂ => ?_
  have D₂ := D₁.but (h' := h₂) fun b o hb e => (s₂.2 b (by rcases hb with rfl | rfl; exact W.Ld.symm; exact W.Lg.symm)).trans e
  have hx : text.cps[p]? = some (text.cps[p]'hp) := Array.getElem?_eq_getElem hp
  have hone : (oneAt text p).length = 1 := by unfold oneAt; rw [hx]; rfl
  rw [hone] at D₂
  exact h h₂ t₁ _ _ (Nat.le_succ_of_le hle) F₂ D₂ (j.ch _) (if_pos rfl)

theorem addT {px py pd : Pos} {R : Flow → Shared → Prop} (F : Fx K L s.heap m) (j : MJ m x I tok) (hc : m chS = some (.str ⟨#[c]⟩ t)) (ht : tok.length ≤ 20000)
    (h : ∀ h' tk m', s.toks ≤ tk → Fx K L h' m' → Heap.SameBut L s.heap h' → MJ m' x I (tok ++ ⟨#[c]⟩) → R .next { s with heap := h', toks := tk }) :
    wpAny (model pw w) A (exec (.AugAssign (.Name (Str.ofString "token") px) .Add (.Name (Str.ofString "ch") py) pd) (envGet L)) R E s := by
  obtain ⟨t0, e0⟩ := j.tok
  refine wpAny_AugAssign_Name ?_
  refine ldnE F e0 ?_
  refine ldE F hc ?_
  refine wpAny_with_toks (n := s.toks) (Nat.le_refl _) (SB.iadd (fun t₁ tk₁ hle => ?_) (by rw [sizeLine_eq]; show _ + 1 ≤ _; lia))
  have hle : s.toks ≤ tk₁ := hle
  refine stx F fun h₁ F₁ s₁ => ?_
  exact h h₁ _ _ (Nat.le_succ_of_le hle) F₁ s₁ (j.add _)
end
end Mine
namespace Mine
open PySem PySem.W PySem.Challenge PySem.Calls PyProof.Rows

theorem oneAt_of {l : List Nat} {p c : Nat} (h : l[p]? = some c) : oneAt ⟨l.toArray⟩ p = ⟨#[c]⟩ := by
  unfold oneAt
  have : (l.toArray)[p]? = some c := by simpa using h
  show (match (l.toArray)[p]? with | some c => (⟨#[c]⟩ : Str) | none => ⟨#[]⟩) = _
  rw [this]
theorem nl_is : nlS = ⟨#[10]⟩ := by kernel_rfl
theorem sing_eq {c d : Nat} : ((⟨#[c]⟩ : Str) = ⟨#[d]⟩) ↔ c = d := by simp
theorem q34 : Str.ofString "\"" = ⟨#[34]⟩ := by kernel_rfl
theorem q92 : Str.ofString "\\" = ⟨#[92]⟩ := by kernel_rfl
theorem noNl {c : Nat} {ln : Int} (h : c ≠ 10) : (ln + if (⟨#[c]⟩ : Str) = nlS then 1 else 0) = ln := by
  rw [nl_is, if_neg (by simpa using h), Int.add_zero]
theorem inW32 : inW 32 = true := by kernel_rfl
theorem inW10 : inW 10 = true := by kernel_rfl
theorem inW34 : inW 34 = false := by kernel_rfl
theorem inW92 : inW 92 = false := by kernel_rfl
theorem strSnoc {l : List Nat} {k c : Nat} (h : l[k]? = some c) : (⟨(l.take k).toArray⟩ : Str) ++ ⟨#[c]⟩ = ⟨(l.take (k + 1)).toArray⟩ := by
  rw [take_one h]
  show (⟨(l.take k).toArray ++ #[c]⟩ : Str) = _
  simp

section
variable {w : World} {A : Around} {E : Value → Shared → Prop} {s : Shared} {n : Nat}
variable {K : Addr → Obj → Prop} {x dx y g Pb : Addr} {text : Str} {ln : Int} {Q : Value → Shared → Prop}

theorem get_quoted {sg : List Nat} (T : TopH w s.heap) (hr : Room A (n + 4)) (hK : ∀ b o, K b o → s.heap.get? b = some o) (LK : LexK K x dx y g text) (D : LexD s.heap dx g y Pb 0 ln)
    (fd : Free w dx) (fg : Free w g) (hP : s.heap.PlainList Pb #[]) (hPd : Pb ≠ dx) (hPg : Pb ≠ g)
    (htx : text = ⟨(32 :: 34 :: (sg ++ [34, 10])).toArray⟩) (hlen : sg.length ≤ 4000) (hsg : ∀ c ∈ sg, c ≠ 34 ∧ c ≠ 92 ∧ c ≠ 10)
    (h : ∀ h' t tk, s.toks ≤ tk → (∀ b o, b ≠ dx → b ≠ g → s.heap.get? b = some o → h'.get? b = some o) → LexD h' dx g y Pb (sg.length + 3) ln → Q (.str ⟨sg.toArray⟩ t) { s with heap := h', toks := tk }) :
    wpAny (model pw w) A (call (.ref 42) [.ref x]) Q E s := by
  have hl : text.length = sg.length + 4 := by rw [htx]; show (List.toArray _).size = _; simp
  refine get_pre T hr hK LK D fd fg (by lia) hP hPd hPg fun h₁ tk m K' I b t htk hkl W F D₁ hk2 mt mf ms hr₁ hIL hIn => ?_
  try dsimp only
  refine wpAny_execs_cons ?_
  refine wpAny_For ?_ (by intro _; kernel_rfl)
  refine ldE F mf ?_
  refine iterCI (W.ci F.keep) ?_
  refine ciLoop hr₁ W (by kernel_rfl) (by kernel_rfl) (fun p ln' m => p ≤ 1 ∧ ln' = ln ∧ MJ m x I ⟨#[]⟩) F D₁ (Nat.zero_le _) ⟨Nat.zero_le _, rfl, ⟨_, mt⟩, mf, ms⟩ ?_ ?_
  · rintro p ln' t₂ tk₂ m₂ h₂ hp htk₂ ⟨hp1, rfl, J₂⟩ F₂ D₂
    dsimp only at htk₂ ⊢
    have J₃ := J₂.ch (some (.str (oneAt text p) t₂))
    rcases Nat.lt_or_ge p 1 with hp0 | hp0
    · have hp0 : p = 0 := by lia
      subst hp0
      have e0 : oneAt text 0 = ⟨#[32]⟩ := by rw [htx]; exact oneAt_of rfl
      rw [e0, noNl (by decide)] at D₂
      rw [e0] at F₂ J₃
      refine wpAny_execs_cons ?_
      refine wpAny_If ?_
      refine whiteT W D₂ F₂ J₃ (if_pos rfl) fun tk₃ htk₃ => ?_
      try dsimp only
      have htk₃ : tk₂ ≤ tk₃ := htk₃
      rw [inW32, if_pos rfl]
      refine wpAny_execs_cons ?_
      refine wpAny_Continue ?_
      exact ⟨h₂, _, _, 1, ln', rfl, by show tk ≤ tk₃; lia, by lia, by lia, F₂, D₂, by lia, rfl, J₃⟩
    · have hp1 : p = 1 := by lia
      subst hp1
      have e1 : oneAt text 1 = ⟨#[34]⟩ := by rw [htx]; exact oneAt_of rfl
      rw [e1, noNl (by decide)] at D₂
      rw [e1] at F₂ J₃
      refine wpAny_execs_cons ?_
      refine wpAny_If ?_
      refine whiteT W D₂ F₂ J₃ (if_pos rfl) fun tk₃ htk₃ => ?_
      try dsimp only
      rw [inW34, if_neg (by simp)]
      refine wpAny_execs_nil ?_
      dsimp only
      refine wpAny_execs_cons ?_
      refine wpAny_If ?_
      refine charT F₂ (if_pos rfl) fun tk₄ htk₄ => ?_
      try dsimp only
      rw [q34, decide_eq_true rfl, if_pos rfl]
      refine wpAny_execs_cons ?_
      refine wpAny_For ?_ (by intro _; kernel_rfl)
      refine ldE F₂ J₃.fit ?_
      refine iterCI (W.ci F₂.keep) ?_
      refine ciLoop hr₁ W (by kernel_rfl) (by kernel_rfl) (fun p ln'' m => ∃ k, p = k + 2 ∧ k ≤ sg.length ∧ ln'' = ln' ∧ MJ m x I ⟨(sg.take k).toArray⟩) F₂ D₂ (by lia) ⟨0, rfl, Nat.zero_le _, rfl, J₃⟩ ?_ ?_
      · rintro p ln'' t₅ tk₅ m₅ h₅ hp htk₅ ⟨k, rfl, hk, rfl, J₅⟩ F₅ D₅
        dsimp only at htk₅ htk₄ htk₃ ⊢
        have J₆ := J₅.ch (some (.str (oneAt text (k + 2)) t₅))
        rcases Nat.lt_or_ge k sg.length with hk1 | hk1
        · obtain ⟨c, hc⟩ : ∃ c, sg[k]? = some c := ⟨_, List.getElem?_eq_getElem hk1⟩
          have hcm := hsg c (List.mem_of_getElem? hc)
          have e2 : oneAt text (k + 2) = ⟨#[c]⟩ := by
            rw [htx]
            refine oneAt_of ?_
            show (sg ++ [34, 10])[k]? = some c
            rw [List.getElem?_append_left hk1]; exact hc
          rw [e2, noNl hcm.2.2] at D₅
          rw [e2] at F₅ J₆
          refine wpAny_execs_cons ?_
          refine wpAny_If ?_
          refine charT F₅ (if_pos rfl) fun tk₆ htk₆ => ?_
          try dsimp only
          rw [decide_eq_false (by rw [sing_eq]; exact hcm.1), if_neg (by simp)]
          refine wpAny_execs_cons ?_
          refine wpAny_If ?_
          refine charT F₅ (if_pos rfl) fun tk₇ htk₇ => ?_
          try dsimp only
          rw [q92, decide_eq_false (by rw [sing_eq]; exact hcm.2.1), if_neg (by simp)]
          refine wpAny_execs_nil ?_
          refine wpAny_execs_nil ?_
          dsimp only
          refine wpAny_execs_cons ?_
          refine addT F₅ J₆ (if_pos rfl) (by show (List.toArray _).size ≤ _; simp; lia) fun h₈ tk₈ m₈ htk₈ F₈ s₈ J₈ => ?_
          try dsimp only
          refine wpAny_execs_nil ?_
          rw [strSnoc hc] at J₈
          dsimp only at htk₆ htk₇ htk₈ s₈
          exact ⟨h₈, tk₈, m₈, k + 3, _, rfl, by show tk₄ ≤ tk₈; lia, by lia, by lia, F₈, D₅.but fun b o hb e => (s₈.2 b (by rcases hb with rfl | rfl; exact W.Ld.symm; exact W.Lg.symm)).trans e, k + 1, rfl, hk1, rfl, J₈⟩
        · have hk2 : k = sg.length := by lia
          subst hk2
          have e2 : oneAt text (sg.length + 2) = ⟨#[34]⟩ := by
            rw [htx]
            refine oneAt_of ?_
            show (sg ++ [34, 10])[sg.length]? = some 34
            simp
          rw [e2, noNl (by decide)] at D₅
          rw [e2] at F₅ J₆
          refine wpAny_execs_cons ?_
          refine wpAny_If ?_
          refine charT F₅ (if_pos rfl) fun tk₆ htk₆ => ?_
          try dsimp only
          rw [decide_eq_true rfl, if_pos rfl]
          refine wpAny_execs_cons ?_
          refine wpAny_Return_some ?_
          obtain ⟨t₇, e₇⟩ := J₆.tok
          rw [List.take_length] at e₇
          refine ldE F₅ e₇ ?_
          dsimp only at htk₆
          exact h h₅ t₇ _ (by show s.toks ≤ tk₆; lia) (fun b o h1 h2 e => F₅.keep _ _ (hkl _ _ e h1 h2)) D₅
      · rintro h₅ tk₅ ln'' m₅ F₅ D₅ ⟨k, hk, hk2, _⟩
        lia
  · rintro h₂ tk₂ ln' m₂ F₂ D₂ ⟨hp1, _⟩
    lia
end
end Mine
namespace Mine
open PySem PySem.W PySem.Challenge PySem.Calls PyProof.Rows

noncomputable def esc (l : List Nat) : List Nat := l.flatMap fun c => [92, c]
theorem esc_len (l : List Nat) : (esc l).length = 2 * l.length := by
  induction l with
  | nil => rfl
  | cons c l ih => show ([92, c] ++ esc l).length = _; rw [List.length_append, ih]; simp; lia
theorem esc_even : ∀ (l : List Nat) (k c : Nat), l[k]? = some c → (esc l)[2 * k]? = some 92 ∧ (esc l)[2 * k + 1]? = some c
  | [], k, c, h => by simp at h
  | d :: l, 0, c, h => by simp at h; subst h; exact ⟨rfl, rfl⟩
  | d :: l, k + 1, c, h => by
    have := esc_even l k c (by simpa using h)
    have e : esc (d :: l) = 92 :: d :: esc l := rfl
    rw [e, show 2 * (k + 1) = (2 * k) + 2 by lia]
    exact this

section
variable {w : World} {A : Around} {E : Value → Shared → Prop} {s : Shared} {n : Nat}
variable {K : Addr → Obj → Prop} {x dx y g Pb : Addr} {text : Str} {ln : Int} {Q : Value → Shared → Prop}

theorem get_escaped {sg : List Nat} (T : TopH w s.heap) (hr : Room A (n + 4)) (hK : ∀ b o, K b o → s.heap.get? b = some o) (LK : LexK K x dx y g text) (D : LexD s.heap dx g y Pb 0 ln)
    (fd : Free w dx) (fg : Free w g) (hP : s.heap.PlainList Pb #[]) (hPd : Pb ≠ dx) (hPg : Pb ≠ g)
    (htx : text = ⟨(32 :: (esc sg ++ [10])).toArray⟩) (hlen : sg.length ≤ 4000) (hne : 0 < sg.length) (hsg : ∀ c ∈ sg, c ≠ 10)
    (h : ∀ h' t tk, s.toks ≤ tk → (∀ b o, b ≠ dx → b ≠ g → s.heap.get? b = some o → h'.get? b = some o) → LexD h' dx g y Pb (2 * sg.length + 2) (ln + 1) → Q (.str ⟨sg.toArray⟩ t) { s with heap := h', toks := tk }) :
    wpAny (model pw w) A (call (.ref 42) [.ref x]) Q E s := by
  have hl : text.length = 2 * sg.length + 2 := by rw [htx]; show (List.toArray _).size = _; simp [esc_len]
  have at92 : ∀ k, k < sg.length → oneAt text (2 * k + 1) = ⟨#[92]⟩ := fun k hk => by
    rw [htx]
    refine oneAt_of ?_
    show (esc sg ++ [10])[2 * k]? = _
    rw [List.getElem?_append_left (by rw [esc_len]; lia)]
    exact (esc_even sg k _ (List.getElem?_eq_getElem hk)).1
  have atC : ∀ k c, sg[k]? = some c → oneAt text (2 * k + 2) = ⟨#[c]⟩ := fun k c hk => by
    rw [htx]
    refine oneAt_of ?_
    show (esc sg ++ [10])[2 * k + 1]? = _
    have hk' : k < sg.length := by
      rcases Nat.lt_or_ge k sg.length with q | q
      · exact q
      · rw [List.getElem?_eq_none q] at hk; cases hk
    rw [List.getElem?_append_left (by rw [esc_len]; lia)]
    exact (esc_even sg k _ hk).2
  have atE : oneAt text (2 * sg.length + 1) = ⟨#[10]⟩ := by
    rw [htx]
    refine oneAt_of ?_
    show (esc sg ++ [10])[2 * sg.length]? = _
    rw [List.getElem?_append_right (by rw [esc_len]; lia), esc_len, Nat.sub_self]
    rfl
  refine get_pre T hr hK LK D fd fg (by lia) hP hPd hPg fun h₁ tk m K' I b t htk hkl W F D₁ hk2 mt mf ms hr₁ hIL hIn => ?_
  refine wpAny_execs_cons ?_
  refine wpAny_For ?_ (by intro _; kernel_rfl)
  refine ldE F mf ?_
  refine iterCI (W.ci F.keep) ?_
  refine ciLoop hr₁ W (by kernel_rfl) (by kernel_rfl) (fun p ln' m => p ≤ 1 ∧ ln' = ln ∧ MJ m x I ⟨#[]⟩) F D₁ (Nat.zero_le _) ⟨Nat.zero_le _, rfl, ⟨_, mt⟩, mf, ms⟩ ?_ ?_
  · rintro p ln' t₂ tk₂ m₂ h₂ hp htk₂ ⟨hp1, rfl, J₂⟩ F₂ D₂
    dsimp only at htk₂ ⊢
    have J₃ := J₂.ch (some (.str (oneAt text p) t₂))
    rcases Nat.lt_or_ge p 1 with hp0 | hp0
    · have hp0 : p = 0 := by lia
      subst hp0
      have e0 : oneAt text 0 = ⟨#[32]⟩ := by rw [htx]; exact oneAt_of rfl
      rw [e0, noNl (by decide)] at D₂
      rw [e0] at F₂ J₃
      refine wpAny_execs_cons ?_
      refine wpAny_If ?_
      refine whiteT W D₂ F₂ J₃ (if_pos rfl) fun tk₃ htk₃ => ?_
      have htk₃ : tk₂ ≤ tk₃ := htk₃
      rw [inW32, if_pos rfl]
      refine wpAny_execs_cons ?_
      refine wpAny_Continue ?_
      exact ⟨h₂, _, _, 1, ln', rfl, by show tk ≤ tk₃; lia, by lia, by lia, F₂, D₂, by lia, rfl, J₃⟩
    · have hp1 : p = 1 := by lia
      subst hp1
      have e1 : oneAt text 1 = ⟨#[92]⟩ := at92 0 hne
      rw [e1, noNl (by decide)] at D₂
      rw [e1] at F₂ J₃
      refine wpAny_execs_cons ?_
      refine wpAny_If ?_
      refine whiteT W D₂ F₂ J₃ (if_pos rfl) fun tk₃ htk₃ => ?_
      rw [inW92, if_neg (by simp)]
      refine wpAny_execs_nil ?_
      dsimp only
      refine wpAny_execs_cons ?_
      refine wpAny_If ?_
      refine charT F₂ (if_pos rfl) fun tk₄ htk₄ => ?_
      rw [q34, decide_eq_false (by rw [sing_eq]; decide), if_neg (by simp)]
      refine wpAny_execs_cons ?_
      refine wpAny_If ?_
      refine charT F₂ (if_pos rfl) fun tk₅ htk₅ => ?_
      rw [q92, decide_eq_true rfl, if_pos rfl]
      refine wpAny_execs_cons ?_
      obtain ⟨c, hc⟩ : ∃ c, sg[0]? = some c := ⟨_, List.getElem?_eq_getElem hne⟩
      have hcm := hsg c (List.mem_of_getElem? hc)
      refine readT (n := n) hr₁ W D₂ F₂ J₃ (by lia) (by kernel_rfl) fun h₆ t₆ tk₆ m₆ htk₆ F₆ D₆ J₆ ch₆ => ?_
      rw [atC 0 c hc, noNl hcm] at D₆
      rw [atC 0 c hc] at ch₆
      refine wpAny_execs_nil ?_
      dsimp only at htk₃ htk₄ htk₅ htk₆ ⊢
      refine wpAny_execs_cons ?_
      refine addT F₆ J₆ ch₆ (by show 0 ≤ _; lia) fun h₈ tk₈ m₈ htk₈ F₈ s₈ J₈ => ?_
      rw [show ((⟨#[]⟩ : Str) ++ ⟨#[c]⟩) = ⟨(sg.take 1).toArray⟩ from strSnoc (l := sg) (k := 0) hc] at J₈
      have D₈ := D₆.but (h' := h₈) fun b o hb e => (s₈.2 b (by rcases hb with rfl | rfl; exact W.Ld.symm; exact W.Lg.symm)).trans e
      dsimp only at htk₈ ⊢
      refine wpAny_execs_cons ?_
      refine wpAny_For ?_ (by intro _; kernel_rfl)
      refine ldE F₈ J₈.fit ?_
      refine iterCI (W.ci F₈.keep) ?_
      refine ciLoop hr₁ W (by kernel_rfl) (by kernel_rfl) (fun p ln'' m => ∃ k, p = 2 * k + 1 ∧ k ≤ sg.length ∧ ln'' = ln' ∧ MJ m x I ⟨(sg.take k).toArray⟩) F₈ D₈ (by lia) ⟨1, rfl, hne, rfl, J₈⟩ ?_ ?_
      · rintro p ln'' t₅ tk₉ m₅ h₅ hp htk₉ ⟨k, rfl, hk, rfl, J₅⟩ F₅ D₅
        dsimp only at htk₉ ⊢
        have J₆ := J₅.ch (some (.str (oneAt text (2 * k + 1)) t₅))
        rcases Nat.lt_or_ge k sg.length with hk1 | hk1
        · obtain ⟨c, hc⟩ : ∃ c, sg[k]? = some c := ⟨_, List.getElem?_eq_getElem hk1⟩
          have hcm := hsg c (List.mem_of_getElem? hc)
          rw [at92 k hk1, noNl (by decide)] at D₅
          rw [at92 k hk1] at F₅ J₆
          refine wpAny_execs_cons ?_
          refine wpAny_If ?_
          refine whiteT W D₅ F₅ J₆ (if_pos rfl) fun tk₁₀ htk₁₀ => ?_
          rw [inW92, if_neg (by simp)]
          refine wpAny_execs_cons ?_
          refine wpAny_If ?_
          refine charT F₅ (if_pos rfl) fun tk₁₁ htk₁₁ => ?_
          rw [decide_eq_true rfl, if_pos rfl]
          refine wpAny_execs_cons ?_
          refine readT (n := n) hr₁ W D₅ F₅ J₆ (by lia) (by kernel_rfl) fun h₇ t₇ tk₇ m₇ htk₇ F₇ D₇ J₇ ch₇ => ?_
          rw [atC k c hc, noNl hcm] at D₇
          rw [atC k c hc] at ch₇
          refine wpAny_execs_nil ?_
          refine wpAny_execs_nil ?_
          dsimp only at htk₁₀ htk₁₁ htk₇ ⊢
          refine wpAny_execs_cons ?_
          refine addT F₇ J₇ ch₇ (by show (List.toArray _).size ≤ _; simp; lia) fun h₁₂ tk₁₂ m₁₂ htk₁₂ F₁₂ s₁₂ J₁₂ => ?_
          refine wpAny_execs_nil ?_
          rw [strSnoc hc] at J₁₂
          dsimp only at htk₁₂ s₁₂
          exact ⟨h₁₂, tk₁₂, m₁₂, 2 * k + 3, _, rfl, by show tk₈ ≤ tk₁₂; lia, by lia, by lia, F₁₂, D₇.but fun b o hb e => (s₁₂.2 b (by rcases hb with rfl | rfl; exact W.Ld.symm; exact W.Lg.symm)).trans e, k + 1, by lia, hk1, rfl, J₁₂⟩
        · have hk2 : k = sg.length := by lia
          subst hk2
          rw [atE, nl_is, if_pos rfl] at D₅
          rw [atE] at F₅ J₆
          refine wpAny_execs_cons ?_
          refine wpAny_If ?_
          refine whiteT W D₅ F₅ J₆ (if_pos rfl) fun tk₁₀ htk₁₀ => ?_
          rw [inW10, if_pos rfl]
          refine wpAny_execs_cons ?_
          refine wpAny_Return_some ?_
          obtain ⟨t₇, e₇⟩ := J₆.tok
          rw [List.take_length] at e₇
          refine ldE F₅ e₇ ?_
          dsimp only at htk₁₀
          exact h h₅ t₇ _ (by show s.toks ≤ tk₁₀; lia) (fun b o h1 h2 e => F₅.keep _ _ (hkl _ _ e h1 h2)) D₅
      · rintro h₅ tk₉ ln'' m₅ F₅ D₅ ⟨k, hk, hk2, _⟩
        lia
  · rintro h₂ tk₂ ln' m₂ F₂ D₂ ⟨hp1, _⟩
    lia

/-- nothing is left but white signs -/
theorem get_end {p₀ : Nat} (T : TopH w s.heap) (hr : Room A (n + 4)) (hK : ∀ b o, K b o → s.heap.get? b = some o) (LK : LexK K x dx y g text) (D : LexD s.heap dx g y Pb p₀ ln)
    (fd : Free w dx) (fg : Free w g) (hP : s.heap.PlainList Pb #[]) (hPd : Pb ≠ dx) (hPg : Pb ≠ g) (htx : text.length ≤ 10000) (hp : p₀ ≤ text.length)
    (hrest : ∀ p, p₀ ≤ p → p < text.length → oneAt text p = ⟨#[10]⟩)
    (h : ∀ h' t tk, (∀ b o, b ≠ dx → b ≠ g → s.heap.get? b = some o → h'.get? b = some o) → LexD h' dx g y Pb text.length (ln + ((text.length - p₀ : Nat) : Int)) → Q (.str ⟨#[]⟩ t) { s with heap := h', toks := tk }) :
    wpAny (model pw w) A (call (.ref 42) [.ref x]) Q E s := by
  refine get_pre T hr hK LK D fd fg htx hP hPd hPg fun h₁ tk m K' I b t htk hkl W F D₁ hk2 mt mf ms hr₁ hIL hIn => ?_
  refine wpAny_execs_cons ?_
  refine wpAny_For ?_ (by intro _; kernel_rfl)
  refine ldE F mf ?_
  refine iterCI (W.ci F.keep) ?_
  refine ciLoop hr₁ W (by kernel_rfl) (by kernel_rfl) (fun p ln' m => p₀ ≤ p ∧ ln' = ln + ((p - p₀ : Nat) : Int) ∧ MJ m x I ⟨#[]⟩) F D₁ hp ⟨Nat.le_refl _, by simp, ⟨_, mt⟩, mf, ms⟩ ?_ ?_
  · rintro p ln' t₂ tk₂ m₂ h₂ hp htk₂ ⟨hp1, rfl, J₂⟩ F₂ D₂
    dsimp only at htk₂ ⊢
    have J₃ := J₂.ch (some (.str (oneAt text p) t₂))
    rw [hrest p hp1 hp, nl_is, if_pos rfl] at D₂
    rw [hrest p hp1 hp] at F₂ J₃
    refine wpAny_execs_cons ?_
    refine wpAny_If ?_
    refine whiteT W D₂ F₂ J₃ (if_pos rfl) fun tk₃ htk₃ => ?_
    have htk₃ : tk₂ ≤ tk₃ := htk₃
    rw [inW10, if_pos rfl]
    refine wpAny_execs_cons ?_
    refine wpAny_Continue ?_
    exact ⟨h₂, _, _, p + 1, _, rfl, by show tk ≤ tk₃; lia, by lia, by lia, F₂, D₂, by lia, by lia, J₃⟩
  · rintro h₂ tk₂ ln' m₂ F₂ D₂ ⟨hp1, rfl, J₂⟩
    obtain ⟨t₇, e₇⟩ := J₂.tok
    dsimp only
    refine wpAny_execs_cons ?_
    refine wpAny_Return_some ?_
    refine ldE F₂ e₇ ?_
    exact h h₂ t₇ _ (fun b o h1 h2 e => F₂.keep _ _ ⟨hkl _ _ e h1 h2, fun q => by rw [q, hIn] at e; cases e⟩) D₂
end
end Mine
namespace Mine
open PySem PySem.W PySem.Challenge PySem.Calls PyProof.Rows

theorem fnInit (P : Params) : FnM P 28 (Str.ofString "__init__") (Str.ofString "_netrclex.__init__") (stM 0) (.ref 27) :=
  ⟨⟨o28 P, pmOf (o28 P), by kernel_rfl, by kernel_rfl, by kernel_rfl⟩, ⟨27, o27 P, dFields (o27 P), tokAt (o27 P), rfl, by kernel_rfl, by kernel_rfl, by kernel_rfl, by decide⟩, by decide⟩

section
variable {w : World} {A : Around} {E : Value → Shared → Prop} {s : Shared} {n : Nat}

theorem storeA {x dx : Addr} {ox : Obj} {name : Str} {v : Value} {mA : Str → Option Value} {nms : List Str} {Q : Unit → Shared → Prop} (T : TopH w s.heap) (gx : s.heap.get? x = some ox) (iv : IsInst ox x dx) (ns : s.heap.Ns1 dx mA)
    (hna : cl w.params name = none) (hB : typeLookup (.type "object") name = pure none) (few : Within mA nms) (hsz : nms.length ≤ 100)
    (h : ∀ h' tk, (∀ b o, b ≠ dx → s.heap.get? b = some o → h'.get? b = some o) → h'.Ns1 dx (fun q => if q = name then some v else mA q) → Q () { s with heap := h', toks := tk }) :
    wpAny (model pw w) A (setAttr (.ref x) name v) Q E s := by
  obtain ⟨nm', q, k2, k3, hC⟩ := T.cls
  obtain ⟨cx, ncx, dxx, nex⟩ := iv
  have hxC : x ≠ 52 := by
    rintro rfl
    rw [gx] at hC
    cases hC
    cases cx
  have I : s.heap.Inst x 52 mA := ⟨ox, gx, cx, ncx, .inr ⟨dx, dxx, nex, ns⟩⟩
  obtain ⟨hp, gg, d, t, os⟩ := s
  refine store_attr PySem.F.store_object hC T.clsNs (cl_sa _) hna hB hxC I (fun h₄ tk₄ I₄ k₄ same₄ => ?_) (hw := few) (hsz := by rw [sizeLine_eq]; lia)
  obtain ⟨o₁, g₁, a1, a2, a3, a4⟩ := same₄ ox gx
  have e₁ : o₁ = ox := obj_same a1 a2 a3 ((a4 dx dxx).trans dxx.symm)
  subst e₁
  refine h h₄ tk₄ (fun b o hb e => ?_) ?_
  · have e : hp.get? b = some o := e
    have gx : hp.get? x = some o₁ := gx
    by_cases hbx : b = x
    · subst hbx; rw [gx] at e; cases e; exact g₁
    · exact k₄ b o hbx (fun o₀ d₀ e0 ed => by rw [gx] at e0; cases e0; rw [dxx] at ed; cases ed; exact hb) e
  · obtain ⟨o', e', _, _, dd⟩ := I₄
    rw [g₁] at e'; cases e'
    rcases dd with ⟨dn, _⟩ | ⟨d', ed, _, nsd⟩
    · rw [dxx] at dn; cases dn
    · rw [dxx] at ed; cases ed; exact nsd

theorem within_set {mA : Str → Option Value} {nms : List Str} {name : Str} {v : Value} (f : Within mA nms) : Within (fun q => if q = name then some v else mA q) (name :: nms) := by
  intro y hy
  by_cases h : y = name
  · exact h ▸ List.mem_cons_self ..
  · exact List.mem_cons_of_mem _ (f y (by simpa [h] using hy))

theorem cl_pb' (P : Params) : cl P (Str.ofString "pushback") = none := cl_pb P

theorem init_call {x dx : Addr} {ox : Obj} {v : Value} {Q : Value → Shared → Prop} (T : TopH w s.heap) (hr : Room A (n + 1)) (gx : s.heap.get? x = some ox) (iv : IsInst ox x dx) (ns : s.heap.Ns1 dx fun _ => none) (fd : Free w dx)
    (h : ∀ h' tk Pb mA, (∀ b o, b ≠ dx → s.heap.get? b = some o → h'.get? b = some o) → h'.Ns1 dx mA → h'.PlainList Pb #[] → s.heap.get? Pb = none → Pb ≠ dx →
      (∃ t, mA (Str.ofString "lineno") = some (.int 1 t)) → mA (Str.ofString "instream") = some v → (∃ t, mA (Str.ofString "whitespace") = some (.str wsS t)) → mA (Str.ofString "pushback") = some (.ref Pb) → Within mA lexNames → Q .none { s with heap := h', toks := tk }) :
    wpAny (model pw w) A (call (.ref 28) [.ref x, v]) Q E s := by
  refine wpAny_call (enterM [Str.ofString "self", Str.ofString "fp"] T hr (fnInit _) (by kernel_rfl) (fun pm => by kernel_rfl) (by kernel_rfl) (by kernel_rfl) (by kernel_rfl) (fun h₁ tk htk F T₁ hr₁ => ?_))
  have W0 : Within (fun _ : Str => (none : Option Value)) [] := fun y hy => absurd rfl hy
  have hdx : s.heap.get? dx ≠ none := by obtain ⟨o, _, _, e, _⟩ := ns; rw [e]; simp
  have hdL : dx ≠ s.heap.objs.size := by obtain ⟨o, _, _, e, _⟩ := ns; exact Nat.ne_of_lt (Heap.lt_size e)
  have F₁ : Fx (fun b o => s.heap.get? b = some o ∧ b ≠ dx) s.heap.objs.size h₁ _ := F.mono fun b o e => e.1
  have hxx : x ≠ dx := fun e => iv.2.2.2 e.symm
  have ns₁ : h₁.Ns1 dx _ := ns.at fun o e => F.keep _ _ e
  have step : ∀ {h h' : Heap} {m : Str → Option Value}, Fx (fun b o => s.heap.get? b = some o ∧ b ≠ dx) s.heap.objs.size h m → (∀ b o, b ≠ dx → h.get? b = some o → h'.get? b = some o) → Fx (fun b o => s.heap.get? b = some o ∧ b ≠ dx) s.heap.objs.size h' m :=
    fun F k => F.but (wr := [dx]) (by simpa using hdL.symm) (by intro b hb o e; simp at hb; exact e.2 hb) fun b o hb e => k b o (by simpa using hb) e
  have top : ∀ {h : Heap} {m : Str → Option Value}, Fx (fun b o => s.heap.get? b = some o ∧ b ≠ dx) s.heap.objs.size h m → TopH w h := fun F => T.but fd fun b o hb e => F.keep _ _ ⟨e, hb⟩
  refine wpAny_execs_cons ?_
  refine plainObj_wpAny_Assign_Attribute ?_ ?hs
  case hs => kernel_rfl
  refine wpAny_Constant_int ?_
  refine ldE F₁ rfl ?_
  refine storeA (top F₁) (F₁.keep _ _ ⟨gx, hxx⟩) iv ns₁ (cl_ln _) no_ln W0 (by decide) fun h₂ tk₂ k₂ ns₂ => ?_
  have F₂ := step F₁ k₂
  dsimp only at F₂ ⊢
  refine wpAny_execs_cons ?_
  refine plainObj_wpAny_Assign_Attribute ?_ ?hs
  case hs => kernel_rfl
  refine ldE F₂ rfl ?_
  refine ldE F₂ rfl ?_
  refine storeA (top F₂) (F₂.keep _ _ ⟨gx, hxx⟩) iv ns₂ (cl_is _) no_is (within_set W0) (by decide) fun h₃ tk₃ k₃ ns₃ => ?_
  have F₃ := step F₂ k₃
  dsimp only at F₃ ⊢
  refine wpAny_execs_cons ?_
  refine plainObj_wpAny_Assign_Attribute ?_ ?hs
  case hs => kernel_rfl
  refine Constant_str ?_
  refine ldE F₃ rfl ?_
  refine storeA (top F₃) (F₃.keep _ _ ⟨gx, hxx⟩) iv ns₃ (cl_wh _) no_wh (within_set (within_set W0)) (by decide) fun h₄ tk₄ k₄ ns₄ => ?_
  have F₄ := step F₃ k₄
  dsimp only at F₄ ⊢
  refine wpAny_execs_cons ?_
  refine plainObj_wpAny_Assign_Attribute ?_ ?hs
  case hs => kernel_rfl
  refine List_ ?_
  refine spliced_nil ?_
  refine newListP F₄ (fun h₅ F₅ k₅ P₅ => ?_) (by decide)
  dsimp only
  have hPn : s.heap.get? h₄.objs.size = none := by
    cases e : s.heap.get? h₄.objs.size with
    | none => rfl
    | some o =>
      by_cases hq : h₄.objs.size = dx
      · obtain ⟨o', _, _, e', _⟩ := ns₄
        have := Heap.lt_size e'
        rw [← hq] at this; exact absurd this (Nat.lt_irrefl _)
      · exact absurd (Heap.lt_size (F₄.keep _ _ ⟨e, hq⟩)) (Nat.lt_irrefl _)
  have hPd : h₄.objs.size ≠ dx := fun q => hdx (q ▸ hPn)
  refine ldE F₅ rfl ?_
  refine storeA (top F₅) (F₅.keep _ _ ⟨gx, hxx⟩) iv (ns₄.at fun o e => k₅ _ _ e) (cl_pb _) no_pb (within_set (within_set (within_set W0))) (by decide) fun h₆ tk₆ k₆ ns₆ => ?_
  have F₆ := step F₅ k₆
  dsimp only at F₆ ⊢
  refine wpAny_execs_nil ?_
  refine h h₆ _ h₄.objs.size _ (fun b o hb e => F₆.keep _ _ ⟨e, hb⟩) ns₆ ?_ hPn hPd ⟨_, rfl⟩ rfl ⟨_, rfl⟩ rfl (fun y hy => ?_)
  · exact P₅.at fun o e => k₆ _ _ hPd e
  · have := within_set (within_set (within_set (within_set W0))) y hy
    simp only [List.mem_cons, List.not_mem_nil, or_false] at this
    unfold lexNames
    simp only [List.mem_cons, List.not_mem_nil, or_false]
    rcases this with e | e | e | e <;> simp [e]
end
end Mine
namespace Mine
open PySem PySem.W PySem.Challenge PySem.Calls PyProof.Rows

theorem cl_in (P : Params) : cl P "__init__" = some (.ref 28) := by kernel_rfl
theorem cl52 {w : World} {h : Heap} (T : TopH w h) : ∃ nm q k2 k3, h.get? 52 = some (excClassObj nm q 52 51 [.type "object"] [.type "object"] true [] [] false none none none none k2 k3 (some (.bool true)) "object.__new__") := T.cls

section
variable {w : World} {A : Around} {E : Value → Shared → Prop} {s : Shared} {n : Nat}

theorem Room.underT {A : Around} {n : Nat} {C : Addr} {r : List Value} (h : Room A (n + 1)) : Room (A.under (.builtin "type.__call__" ⟨.ref C :: r, []⟩)) n := by
  have a := h.depth
  have b := h.units
  refine ⟨h.handled, ?_, ?_⟩
  · have e : (Code.builtin "type.__call__" ⟨.ref C :: r, []⟩).weight = 1 := by kernel_rfl
    show A.depth + (Code.builtin "type.__call__" ⟨.ref C :: r, []⟩).weight + n < _
    lia
  · have e : (Code.builtin "type.__call__" ⟨.ref C :: r, []⟩).cUnits = 1 := by kernel_rfl
    show A.units + (Code.builtin "type.__call__" ⟨.ref C :: r, []⟩).cUnits + 20 * n < _
    lia

theorem new_call {v : Value} {Q : Value → Shared → Prop} (T : TopH w s.heap) (hr : Room A (n + 2))
    (h : ∀ h' tk x dx ox Pb mA, (∀ b o, s.heap.get? b = some o → h'.get? b = some o) → h'.get? x = some ox → IsInst ox x dx → s.heap.get? x = none → s.heap.get? dx = none → s.heap.get? Pb = none → Pb ≠ dx →
      h'.Ns1 dx mA → h'.PlainList Pb #[] → (∃ t, mA (Str.ofString "lineno") = some (.int 1 t)) → mA (Str.ofString "instream") = some v → (∃ t, mA (Str.ofString "whitespace") = some (.str wsS t)) → mA (Str.ofString "pushback") = some (.ref Pb) → Within mA lexNames → Q (.ref x) { s with heap := h', toks := tk }) :
    wpAny (model pw w) A (call (.ref 52) [v]) Q E s := by
  obtain ⟨nm', q, k2, k3, hC⟩ := T.cls
  obtain ⟨oI, pm, hfI, hfc, _⟩ := (fnInit w.params).get T
  obtain ⟨hp, gg, d, t, os⟩ := s
  refine wpAny_call_obj_init F.objNew hC T.clsNs (cl_in _) hfI hfc fun h₁ x dx M => ?_
  obtain ⟨ox, gx, cx, nx, dd⟩ := M.inst
  have ed := M.dict ox gx
  have iv : IsInst ox x dx ∧ h₁.Ns1 dx fun _ => none := by
    rcases dd with ⟨dn, _⟩ | ⟨d', e', ne', ns⟩
    · rw [ed] at dn; cases dn
    · rw [ed] at e'; cases e'; exact ⟨⟨cx, nx, ed, ne'⟩, ns⟩
  have T₁ : TopH w h₁ := T.keeps M.keeps
  have fd : Free w dx := Free.of T M.newD
  refine init_call T₁ hr.underT gx iv.1 iv.2 fd fun h₂ tk Pb mA k₂ ns₂ P₂ pn pd a1 a2 a3 a4 a5 => ⟨rfl, ?_⟩
  have kk : ∀ b o, hp.get? b = some o → h₂.get? b = some o := fun b o e => k₂ b o (fun q => by rw [q, M.newD] at e; cases e) (M.keeps b o e)
  refine h h₂ tk x dx ox Pb mA kk (k₂ _ _ (fun e => iv.1.2.2.2 e.symm) gx) iv.1 M.newX M.newD ?_ pd ns₂ P₂ a1 a2 a3 a4 a5
  cases e : hp.get? Pb with
  | none => rfl
  | some o =>
    have pn : h₁.get? Pb = none := pn
    rw [M.keeps _ _ e] at pn; cases pn
end
end Mine
namespace Mine
open PySem PySem.W PySem.Challenge PySem.Calls PyProof.Rows

theorem fnLexer (P : Params) : FnAt P 162 (Str.ofString "_law_lexer") (stA 16) (.ref 161) :=
  ⟨⟨o162 P, pmOf (o162 P), by kernel_rfl, by kernel_rfl, by kernel_rfl⟩, ⟨161, o161 P, dFields (o161 P), tokAt (o161 P), rfl, by kernel_rfl, by kernel_rfl, by kernel_rfl, by decide⟩, by decide⟩
theorem gl_nl (P : Params) : gl P (Str.ofString "_netrclex") = some (.ref 52) := by kernel_rfl

section
variable {w : World} {A : Around} {E : Value → Shared → Prop} {s : Shared} {n : Nat}

theorem ccall1 {env : Env} {p pos : Pos} {e1 : Expr} {Q : Value → Shared → Prop} (T : TopH w s.heap) (ht : backTo pos (starEach [e1] env) = [(false, eval e1 env)]) (he : starEach [e1] env = [(false, eval e1 env)])
    (h : wpAny (model pw w) A (eval e1 env) (fun v1 s1 => (∀ b o, s.heap.get? b = some o → s1.heap.get? b = some o) ∧ wpAny (model pw w) A (call (.ref 52) [v1]) Q E s1) E s)
    (hk : env.scope.kind = .function) (hx : env.kindOf (Str.ofString "_netrclex") = some .globalImplicit) (hd : ((Str.ofString "_netrclex") == ("__debug__" : Str)) = false) (hgl : env.globals = mainGlobals) :
    wpAny (model pw w) A (eval (.Call (.Name (Str.ofString "_netrclex") p) [e1] [] pos) env) Q E s := by
  obtain ⟨nm', q, k2, k3, hC⟩ := T.cls
  refine Call_Name (trees := backTo pos (starEach [e1] env)) rfl (nameG T ?_ (gl_nl _) hk hx hd hgl)
  refine callWith_cls (C := 52) (N := 51) (mN := cl w.params) (h₀ := s.heap) ⟨⟨_, _, _, _, _, _, _, _, _, _, _, _, hC⟩, T.clsNs⟩ ?_ he
  rw [ht]
  exact spliced_cons (wpAny_mono h (fun _ _ x => spliced_nil x) fun _ _ e => e)

theorem lexer_call {text : Str} {u : Tok} {Q : Value → Shared → Prop} (T : TopH w s.heap) (hr : Room A (n + 3)) (h157 : s.heap.get? 157 = some (o157 w.params))
    (h : ∀ h' tk x dx y g Pb, (∀ b o, b ≠ 157 → s.heap.get? b = some o → h'.get? b = some o) → LexK (fun b o => h'.get? b = some o ∧ b ≠ dx ∧ b ≠ g ∧ b ≠ Pb ∧ (b = 157 ∨ s.heap.get? b = none)) x dx y g text → LexD h' dx g y Pb 0 1 → h'.PlainList Pb #[] → Free w dx → Free w g → Pb ≠ dx → Pb ≠ g →
      (∀ b, b = x ∨ b = dx ∨ b = g ∨ b = Pb → b = 157 ∨ s.heap.get? b = none) → (∃ ps, h'.get? 157 = some { cls := .none, data := .fields ps }) → Q (.ref x) { s with heap := h', toks := tk }) :
    wpAny (model pw w) A (call (.ref 162) [.str text u]) Q E s := by
  refine wpAny_call (enterC [Str.ofString "text"] T hr (fnLexer _) (fun L => by kernel_rfl) (fun pm => by kernel_rfl) (by kernel_rfl) (by kernel_rfl) (fun h₁ tk htk F X T₁ hr₁ => ?_))
  obtain ⟨L, hL⟩ : ∃ L, s.heap.objs.size = L := ⟨_, rfl⟩
  rw [hL] at F X hr₁ ⊢
  obtain ⟨oT, gT, dT⟩ := X.cell (Str.ofString "text") (L + 1) (by kernel_rfl)
  obtain ⟨oG, gG, dG⟩ := X.cell (Str.ofString "gone") (L + 2) (by kernel_rfl)
  have dT : oT.data = .cell (some (.str text u)) := dT
  have dG : oG.data = .cell none := dG
  have hs0 : ∀ b o, s.heap.get? b = some o → h₁.get? b = some o := fun b o e => F.keep _ _ e
  refine wpAny_execs_cons ?_
  refine wpAny_Assign_Name ?_ ?hs
  case hs => kernel_rfl
  refine ccall1 T₁ (by kernel_rfl) (by kernel_rfl) ?_ (by kernel_rfl) (by kernel_rfl) (by decide) (by kernel_rfl)
  refine wpAny_Constant_none ?_
  refine ⟨fun _ _ e => e, ?_⟩
  refine new_call T₁ hr₁ fun h₂ tk₂ y dy oy Py mB k₂ gy iy yn dyn pyn pd nsy Py₂ b1 b2 b3 b4 b5 => ?_
  dsimp only at k₂ yn dyn pyn ⊢
  refine stx (F.keeps k₂) fun h₃ F₃ s₃ => ?_
  dsimp only at F₃ s₃ ⊢
  have hLh : L < h₁.objs.size := F.ltL
  have low : ∀ b, s.heap.get? b ≠ none → b ≠ L ∧ b ≠ L + 1 ∧ b ≠ L + 2 := fun b hb => by
    cases e : s.heap.get? b with
    | none => exact absurd e hb
    | some o => have := Heap.lt_size e; rw [hL] at this; exact ⟨Nat.ne_of_lt this, Nat.ne_of_lt (Nat.lt_succ_of_lt this), Nat.ne_of_lt (Nat.lt_succ_of_lt (Nat.lt_succ_of_lt this))⟩
  have h1L : h₁.get? L ≠ none := by obtain ⟨o, _, _, e, _⟩ := F.ns; rw [e]; simp
  have eL1 : L + 1 ≠ L := Nat.ne_of_gt (Nat.lt_succ_self L)
  have eL2 : L + 2 ≠ L := Nat.ne_of_gt (Nat.lt_succ_of_lt (Nat.lt_succ_self L))
  have e12 : L + 1 ≠ L + 2 := Nat.ne_of_lt (Nat.lt_succ_self _)
  have yL : y ≠ L := fun e => h1L (e ▸ yn)
  have dyL : dy ≠ L := fun e => h1L (e ▸ dyn)
  have gy₃ := (s₃.2 y yL).trans gy
  have nsy₃ : h₃.Ns1 dy mB := nsy.at fun o e => (s₃.2 dy dyL).trans e
  have gT₃ := (s₃.2 (L + 1) eL1).trans (k₂ _ _ gT)
  have gG₃ := (s₃.2 (L + 2) eL2).trans (k₂ _ _ gG)
  refine wpAny_execs_cons ?_
  refine wpAny_Assign_Name ?_ ?hs
  case hs => kernel_rfl
  refine List_ ?_
  refine spliced_nil ?_
  refine newListP F₃ (fun h₄ F₄ k₄ g₄ => ?_) (by decide)
  obtain ⟨g, hg⟩ : ∃ g, h₃.objs.size = g := ⟨_, rfl⟩
  dsimp only at F₄ k₄ g₄ ⊢
  rw [hg] at g₄ ⊢
  refine wpAny_storeName_cell (by kernel_rfl) (by kernel_rfl) (c := L + 2) (by kernel_rfl) ⟨oG, k₄ _ _ gG₃, dG⟩ fun h₅ c₅ s₅ => ?_
  dsimp only at s₅ ⊢
  have gLe : ∀ b o, h₃.get? b = some o → b ≠ g := fun b o e q => absurd (Heap.lt_size e) (by rw [q, ← hg]; exact Nat.lt_irrefl _)
  have g2 : g ≠ L + 2 := (gLe _ _ gG₃).symm
  have F₄' : Fx (fun b o => h₁.get? b = some o ∧ b ≠ L ∧ b ≠ L + 2 ∧ b ≠ 157) L h₄ _ := ⟨F₄.ns, fun b o e => k₄ _ _ ((s₃.2 b e.2.1).trans (k₂ _ _ e.1)), fun o e => e.2.1 rfl⟩
  have F₅ := F₄'.but (h' := h₅) (wr := [L + 2]) (by simp) (by intro b hb o e; simp at hb; exact e.2.2.1 hb) fun b o hb e => (s₅.2 b (by simpa using hb)).trans e
  have in1 : ∀ i o, (TD w.params).get i = some o → i ≠ 157 → h₅.get? i = some o := fun i o e hn => by
    have e0 := T.at_ i o e hn
    have l := low i (by rw [e0]; simp)
    exact F₅.keep _ _ ⟨hs0 _ _ e0, l.1, l.2.2, hn⟩
  have in2 : ∀ b o, s.heap.get? b = some o → b ≠ 157 → h₅.get? b = some o := fun b o e hn => by
    have l := low b (by rw [e]; simp)
    exact F₅.keep _ _ ⟨hs0 _ _ e, l.1, l.2.2, hn⟩
  have T₅ : TopH w h₅ := by
    refine ⟨in1, ?_⟩
    obtain ⟨kvs, a, o, es, ep, ho, r⟩ := T.dict
    exact ⟨kvs, a, o, es, ep, in2 _ _ ho (by decide), r⟩
  have h157₅ : h₅.get? 157 = some (o157 w.params) := by
    have l := low 157 (by rw [h157]; simp)
    refine (s₅.2 _ l.2.2).trans (k₄ _ _ ((s₃.2 _ l.1).trans (k₂ _ _ (hs0 _ _ h157))))
  have gT₅ : h₅.get? (L + 1) = some oT := (s₅.2 _ e12).trans (k₄ _ _ gT₃)
  have gg₅ : h₅.PlainList g #[] := g₄.at fun o e => (s₅.2 _ g2).trans e
  have ne2 : ∀ b, h₁.get? b = none → b ≠ L + 2 := fun b e q => by rw [q, gG] at e; cases e
  have gy₅ := (s₅.2 y (ne2 _ yn)).trans (k₄ _ _ gy₃)
  have nsy₅ : h₅.Ns1 dy mB := nsy₃.at fun o e => (s₅.2 dy (ne2 _ dyn)).trans (k₄ _ _ e)
  refine wpAny_execs_cons ?_
  have code5 : h₅.IsCode 161 157 #[] := by
    refine ⟨o161 w.params, dFields (o161 w.params), _, _, _, _, _, _, _, o157 w.params, in1 161 _ (by kernel_rfl) (by decide), rfl, rfl, rfl, rfl, rfl, rfl, h157₅, rfl, ?_, by decide⟩
    exact True.intro
  refine innerDef (cl := [(Str.ofString "text", L + 1), (Str.ofString "gone", L + 2)]) (q := qP) T₅ F₅ (by kernel_rfl) code5 ⟨⟨o161 w.params, dFields (o161 w.params), in1 161 _ (by kernel_rfl) (by decide), rfl, rfl, rfl⟩, h157₅⟩ (fun o e => e.2.2.2 rfl) ?_ ?_ (by kernel_rfl) (by kernel_rfl) (by kernel_rfl) (by kernel_rfl) (by kernel_rfl) (by kernel_rfl) (by kernel_rfl) (by kernel_rfl) (by kernel_rfl) (by kernel_rfl) fun h₆ fo c' ct pm tk₆ F₆ fon foL gfo cr₆ k₆ cn tb₆ => ?_
  · exact (low 157 (by rw [h157]; simp)).1
  · exact ⟨fun i o _ e => e, by decide⟩
  have top : ∀ h : Heap, (∀ b o, s.heap.get? b = some o → b ≠ 157 → h.get? b = some o) → TopH w h := fun h k => by
    refine ⟨fun i o e hn => k _ _ (T.at_ i o e hn) hn, ?_⟩
    obtain ⟨kvs, a, o, es, ep, ho, r⟩ := T.dict
    exact ⟨kvs, a, o, es, ep, k _ _ ho (by decide), r⟩
  have s6 : ∀ b o, s.heap.get? b = some o → b ≠ 157 → h₆.get? b = some o := fun b o e hn => k₆ b o hn (low b (by rw [e]; simp)).1 (in2 b o e hn)
  have n157 : ∀ b, h₁.get? b = none → b ≠ 157 := fun b e q => by rw [q, hs0 _ _ h157] at e; cases e
  have gy₆ := k₆ y _ (n157 y yn) yL gy₅
  have nsy₆ : h₆.Ns1 dy mB := nsy₅.at fun o e => k₆ dy _ (n157 dy dyn) dyL e
  have gT₆ := k₆ (L + 1) _ (low 157 (by rw [h157]; simp)).2.1.symm eL1 gT₅
  have g157 : g ≠ 157 := fun q => gLe _ _ ((s₃.2 157 (low 157 (by rw [h157]; simp)).1).trans (k₂ _ _ (hs0 _ _ h157))) q.symm
  have gL : g ≠ L := (gLe _ (Classical.choose F₃.ns) (Classical.choose_spec F₃.ns).choose_spec.choose_spec.1).symm
  have gg₆ : h₆.PlainList g #[] := gg₅.at fun o e => k₆ g _ g157 gL e
  obtain ⟨oG', gG₅, dG'⟩ := c₅
  have gG₆ := k₆ (L + 2) _ (low 157 (by rw [h157]; simp)).2.2.symm eL2 gG₅
  have Fdy : Fx (fun b o => (h₁.get? b = some o ∧ b ≠ L ∧ b ≠ L + 2 ∧ b ≠ 157)) L h₆ _ := F₆
  refine wpAny_execs_cons ?_
  refine plainObj_wpAny_Assign_Attribute ?_ ?hs
  case hs => kernel_rfl
  refine ldE F₆ rfl ?_
  refine ldE F₆ rfl ?_
  have few : Within mB lexNames := b5
  refine storeA (top _ s6) gy₆ iy nsy₆ (cl_rd _) no_rd few (by decide) fun h₇ tk₇ k₇ nsy₇ => ?_
  dsimp only at k₇ nsy₇ ⊢
  have F₇ := F₆.but (h' := h₇) (wr := [dy]) (show L ∉ [dy] by simpa using dyL.symm) (by intro b hb o e; simp at hb; rw [hb, dyn] at e; cases e.1) fun b o hb e => k₇ b o (by simpa using hb) e
  have s7 : ∀ b o, s.heap.get? b = some o → b ≠ 157 → h₇.get? b = some o := fun b o e hn => k₇ b o (fun q => by rw [q] at e; have := hs0 _ _ e; rw [dyn] at this; cases this) (s6 b o e hn)
  refine wpAny_execs_cons ?_
  refine wpAny_Return_some ?_
  refine ccall1 (top _ s7) (by kernel_rfl) (by kernel_rfl) ?_ (by kernel_rfl) (by kernel_rfl) (by decide) (by kernel_rfl)
  refine ldE F₇ rfl ?_
  refine ⟨fun _ _ e => e, ?_⟩
  refine new_call (top _ s7) hr₁ fun h₈ tk₈ x dx ox Pb mA k₈ gx ix xn dxn Pn pxd nsx Px a1 a2 a3 a4 a5 => ?_
  dsimp only at k₈ xn dxn Pn ⊢
  have h7g : h₇.PlainList g #[] := gg₆.at fun o e => k₇ g o (fun q => by
    obtain ⟨o1, _, _, e1, d1, _⟩ := nsy₆
    obtain ⟨nn, e2⟩ := gg₆
    rw [q, e1] at e2; cases e2; cases d1) e
  have gdx : ∀ b o, h₇.get? b = some o → b ≠ dx := fun b o e q => by rw [q, dxn] at e; cases e
  have gPb : ∀ b o, h₇.get? b = some o → b ≠ Pb := fun b o e q => by rw [q, Pn] at e; cases e
  have up : ∀ b o, h₇.get? b = some o → b ≠ g → (b = 157 ∨ s.heap.get? b = none) → h₈.get? b = some o ∧ b ≠ dx ∧ b ≠ g ∧ b ≠ Pb ∧ (b = 157 ∨ s.heap.get? b = none) := fun b o e hb hn => ⟨k₈ _ _ e, gdx b o e, hb, gPb b o e, hn⟩
  have old1 : ∀ b, h₁.get? b = none → b = 157 ∨ s.heap.get? b = none := fun b e => .inr (by
    cases e' : s.heap.get? b with
    | none => rfl
    | some o => rw [hs0 _ _ e'] at e; cases e)
  have old5 : ∀ b, h₅.get? b = none → b = 157 ∨ s.heap.get? b = none := fun b e => by
    by_cases hb : b = 157
    · exact .inl hb
    · cases e' : s.heap.get? b with
      | none => exact .inr rfl
      | some o => rw [in2 b o e' hb] at e; cases e
  have oldL : ∀ i, s.heap.get? (L + i) = none := fun i => gone_of_size (by rw [hL]; exact Nat.le_add_right _ _)
  have g7 := h7g
  obtain ⟨ng, eg⟩ := g7
  have ndg : dx ≠ g := (gdx _ _ eg).symm
  have ng1 : h₁.get? g = none := by
    cases e : h₁.get? g with
    | none => rfl
    | some o => exact absurd rfl (gLe _ _ ((s₃.2 g gL).trans (k₂ _ _ e)))
  have gn : s.heap.get? g = none := by
    cases e : s.heap.get? g with
    | none => rfl
    | some o => rw [hs0 _ _ e] at ng1; cases ng1
  have neg : ∀ b o, h₁.get? b = some o → b ≠ g := fun b o e q => by rw [q, ng1] at e; cases e
  have gT₇ := k₇ (L + 1) _ (fun q => by rw [q, dyn] at gT; cases gT) gT₆
  have gG₇ := k₇ (L + 2) _ (fun q => by rw [q, dyn] at gG; cases gG) gG₆
  have iyd := iy.2.2.2
  have gy₇ := k₇ y _ (fun q => iyd q.symm) gy₆
  have ydg : y ≠ g := fun q => by
    obtain ⟨nn, e2⟩ := gg₆
    rw [q, e2] at gy₆; cases gy₆
    have := iy.1; cases this
  have dydg : dy ≠ g := fun q => by
    obtain ⟨o1, _, _, e1, d1, _⟩ := nsy₆
    obtain ⟨nn, e2⟩ := gg₆
    rw [q, e2] at e1; cases e1; cases d1
  have fody : fo ≠ dy := fun q => by
    obtain ⟨o1, _, _, e1, d1, _⟩ := nsy₆
    rw [q, e1] at gfo; cases gfo; cases d1
  have fog : fo ≠ g := fun q => by
    obtain ⟨nn, e2⟩ := gg₆
    rw [q, e2] at gfo
    have := congrArg (fun o => o.cls) (Option.some.inj gfo)
    simp at this
  have gfo₇ := k₇ fo _ fody gfo
  obtain ⟨c, oc, vs, t', ec, gc, dc, vc⟩ := cr₆
  have ec' : c' = c := by cases ec; rfl
  subst ec'
  have cdy : c' ≠ dy := fun q => by
    obtain ⟨o1, _, _, e1, d1, _⟩ := nsy₆
    rw [q, e1] at gc; cases gc; rw [d1] at dc; cases dc
  have cg : c' ≠ g := fun q => by
    obtain ⟨nn, e2⟩ := gg₆
    rw [q, e2] at gc; cases gc; cases dc
  have gc₇ := k₇ c' _ cdy gc
  obtain ⟨ody, es, ep, eody, rest⟩ := nsy₇
  have xg : x ≠ g := fun q => by rw [q, eg] at xn; cases xn
  have xPb : x ≠ Pb := fun q => by
    obtain ⟨nn, e2⟩ := Px
    rw [q, e2] at gx; cases gx
    have := ix.1; cases this
  have Pg : Pb ≠ g := fun q => by rw [q, eg] at Pn; cases Pn
  have back : ∀ b, h₇.get? b = none → b = 157 ∨ s.heap.get? b = none := fun b e => by
    by_cases hb : b = 157
    · exact .inl hb
    · cases e' : s.heap.get? b with
      | none => exact .inr rfl
      | some o => rw [s7 b o e' hb] at e; cases e
  refine h h₈ tk₈ x dx y g Pb (fun b o hb e => k₈ _ _ (s7 b o e hb)) ?_ ⟨⟨mA, nsx, a1, a2, a3, a4, a5⟩, #[], h7g.at fun o e => k₈ _ _ e, rfl⟩ Px (Free.of (top _ s7) dxn) (Free.of T gn) pxd Pg ?_ (tb₆.imp fun ps e => k₈ _ _ (k₇ _ _ (fun q => by rw [← q] at dyn; rw [hs0 _ _ h157] at dyn; cases dyn) e))
  · exact ⟨fun o e => e.2.1 rfl, fun o e => e.2.2.1 rfl, ndg, ⟨ox, ⟨gx, fun q => ix.2.2.2 q.symm, xg, xPb, back _ xn⟩, ix⟩,
      fo, oy, dy, ody, _, up _ _ gy₇ ydg (old1 _ yn), iy, up _ _ eody dydg (old1 _ dyn), ⟨es, ep, rest⟩, if_pos rfl,
      ⟨L + 1, L + 2, _, ct, .ref c', pm, oT, oG', _, u, up _ _ gfo₇ fog (old5 _ fon), rfl, up _ _ gT₇ (neg _ _ gT) (.inr (oldL 1)), dT, up _ _ gG₇ (neg _ _ gG) (.inr (oldL 2)), dG', by kernel_rfl, by kernel_rfl, c', oc, vs, t', rfl, up _ _ gc₇ cg (old5 _ (cn _ _ gc rfl)), dc, vc⟩⟩
  · rintro b (rfl | rfl | rfl | rfl)
    · exact back _ xn
    · exact back _ dxn
    · exact .inr gn
    · exact back _ Pn
end
end Mine
namespace Mine
open PySem PySem.W PySem.Challenge PySem.Calls PyProof.Rows

section
variable {M : Model} {A : Around} {R : GenEnd} {Y : Protocol} {n : Nat} {s₀ : Shared} {c : Code} {fs : List Frame} {s : Shared} {env : Env}

theorem seg_wrap_bind {α β : Type} {m : Sem α} {f : α → Sem β} {K : β → Sem Fin} {H : Value → Sem Fin} {gd lv}
    (h : wpAny M (A.over c fs) m (fun a s' => Seg M A R Y n s₀ c ((f a).wrap K H gd lv) fs s') (fun x s' => Seg M A R Y n s₀ c (H x) fs s') s) :
    Seg M A R Y n s₀ c ((m >>= f).wrap K H gd lv) fs s := by
  rw [Sem.bind_eq_wrap', Sem.wrap_wrap]
  exact seg_wrap h

theorem seg_If {test : Expr} {body orelse : List Stmt} {pos : Pos} {K : Flow → Sem Fin} {H : Value → Sem Fin} {gd lv}
    (h : wpAny M (A.over c fs) (isTrue test env (eval test env)) (fun b s' => if b = true then Seg M A R Y n s₀ c ((execs body env).wrap K H gd lv) fs s' else Seg M A R Y n s₀ c ((execs orelse env).wrap K H gd lv) fs s') (fun _ _ => False) s) :
    Seg M A R Y n s₀ c ((exec (.If test body orelse pos) env).wrap K H gd lv) fs s := by
  rw [exec_If]
  refine seg_wrap_bind (wpAny_standAt ?_)
  refine seg_wrap_bind (wpAny_mono h (fun b s' hb => ?_) fun _ _ e => e.elim)
  cases b with
  | true => rw [if_pos rfl] at hb ⊢; exact hb
  | false => rw [if_neg (by simp)] at hb ⊢; exact hb

theorem seg_For {target iter : Expr} {body orelse : List Stmt} {pos : Pos} {K : Flow → Sem Fin} {H : Value → Sem Fin} {gd lv}
    (h : wpAny M (A.over c fs) (eval iter env) (fun x s1 => wpAny M (A.over c fs) (pyIter x) (fun it s2 => ∀ p, Seg M A R Y n s₀ (.forLoop target it body orelse env) (M.den (.forLoop target it body orelse env))
      (.ret (fun r => ((match r with | .ok f => (.pure f : Sem Flow) | .error e => .raise e).onRaise fun (x : Value) => do
        if (← field x 1) == Value.none then unsupported "frame.own-activation:exception-without-traceback"
        setFlight x env.frame).wrap K H gd lv) none (gd false) (lv []) c p [] :: fs) s2) (fun _ _ => False) s1) (fun _ _ => False) s)
    (hs : ∀ x, foldedSetIterable iter env x = pure x) :
    Seg M A R Y n s₀ c ((exec (.For target iter body orelse pos) env).wrap K H gd lv) fs s := by
  rw [exec_For]
  refine seg_wrap_bind (wpAny_standAt ?_)
  refine seg_wrap_bind (wpAny_mono h (fun x s1 h1 => ?_) fun _ _ e => e.elim)
  refine seg_wrap_bind (wpAny_of_eq (hs x) ?_)
  refine seg_wrap_bind (wpAny_standAt ?_)
  refine seg_wrap_bind (wpAny_holding (wpAny_mono h1 (fun it s2 h2 => ?_) fun _ _ e => e.elim))
  exact seg_call h2

theorem seg_exec {st : Stmt} {K : Flow → Sem Fin} {H : Value → Sem Fin} {gd lv}
    (h : wpAny M (A.over c fs) (exec st env) (fun f s' => Seg M A R Y n s₀ c (K f) fs s') (fun _ _ => False) s) :
    Seg M A R Y n s₀ c ((exec st env).wrap K H gd lv) fs s := seg_wrap (wpAny_mono h (fun _ _ x => x) fun _ _ e => e.elim)
end

section
variable {prog : Program} {w : World} {A : Around} {R : GenEnd} {Y : Protocol} {n : Nat} {s₀ : Shared} {fs : List Frame} {s : Shared} {env : Env}
noncomputable def Kfor (code : Code) : Flow → Sem Fin
  | .next | .cont => .pure (.again code)
  | .brk => .pure (.done .next)
  | .ret v => .pure (.done (.ret v))
noncomputable def Hno (env : Env) : Value → Sem Fin := fun e => (do noteFrame e env; theTreesLotGoes e : Sem Unit).wrap (fun _ => .raise e) .raise id id

theorem seg_forLoop {target : Expr} {it : Value} {body orelse : List Stmt} (hl : ∀ v, letOwnedTupleGo target it v = pure ())
    (h : wpAny (model prog w) (A.over (.forLoop target it body orelse env) fs) (pyNext it) (fun r s1 => match r with
      | none => False
      | some v => wpAny (model prog w) (A.over (.forLoop target it body orelse env) fs) (assign target env v) (fun _ s2 =>
          Seg (model prog w) A R Y n s₀ (.forLoop target it body orelse env) ((execs body env).wrap (Kfor (.forLoop target it body orelse env)) (Hno env) id id) fs s2) (fun _ _ => False) s1) (fun _ _ => False) s) :
    Seg (model prog w) A R Y n s₀ (.forLoop target it body orelse env) ((model prog w).den (.forLoop target it body orelse env)) fs s := by
  show Seg _ A R Y n s₀ _ ((forTurn target it body orelse env).onRaise (fun x => do noteFrame x env; theTreesLotGoes x)) fs s
  unfold forTurn
  rw [Sem.onRaise_eq_wrap]
  refine seg_wrap_bind (wpAny_standAt ?_)
  refine seg_wrap_bind (wpAny_onRaise (wpAny_mono h (fun r s1 h1 => ?_) fun _ _ e => e.elim))
  cases r with
  | none => exact h1.elim
  | some v =>
    refine seg_wrap_bind (wpAny_of_eq (hl v) ?_)
    refine seg_wrap_bind (wpAny_mono h1 (fun _ s2 h2 => ?_) fun _ _ e => e.elim)
    rw [Sem.bind_eq_wrap', Sem.wrap_wrap]
    rw [Sem.wrap_congr (execs body env) _ _ (K' := Kfor (.forLoop target it body orelse env)) (H' := Hno env) (fun f => by cases f <;> rfl)
      (fun e => by first | exact Sem.bind_eq_wrap _ _ | (show (do noteFrame e env; theTreesLotGoes e : Sem Unit).bind (fun _ => .raise e) = _; rw [Sem.bind_eq_wrap]; rfl))]
    exact h2
end

section
variable {w : World} {A : Around} {E : Value → Shared → Prop} {s : Shared}
/-- the next of a def's generator -/
theorem pyNext_genQ {a : Addr} {g n : Nat} {gs : GenState} {P : Nat → Shared → Shared → Prop} {Y : Protocol} {Q : Option Value → Shared → Prop} (hh : A.handled = none)
    (hl : s.heap.NoLimit) (hroom : A.depth < recursionLimit)
    (hg : s.heap.IsGen a g) (hgs : s.gens[g]? = some gs)
    (hgo : gs.Goes (model pw w) A.in1 (fun n s₀ r s₁ => r = .ok (.ret .none) ∧ P n s₀ s₁) Y n (.send .none) (s.setGen g .running))
    (hY : ∀ v s₁ gs', gs'.bare = true → Y (n - 1) (s.setGen g .running) v s₁ (fun r' s'' => match n with
        | 0 => False
        | m + 1 => gs'.Goes (model pw w) A.in1 (fun n s₀ r s₁ => r = .ok (.ret .none) ∧ P n s₀ s₁) Y m r' s'') → Q (some v) (s₁.setGen g gs'))
    (hP : ∀ s₁, P n (s.setGen g .running) s₁ → ∀ h', (∀ b o, s₁.heap.get? b = some o → h'.get? b = some o) → Q none { s₁.setGen g .finished with heap := h' }) :
    wpAny (model pw w) A (pyNext (.ref a)) Q E s := by
  unfold pyNext
  refine wpAny_bind (wpAny_attempt (wpAny_callSpecial?_slot (name := Str.ofString "__next__") hg.typeIs slot_gen_next
    (wpAny_call_entry slot_gen_next hg.typeIs entry_gen_next ?_ (args_gen_next _))))
  show wpAny _ A.in1 (Builtin.Generator.genWake (.ref a) (.send .none)) _ _ s
  unfold Builtin.Generator.genWake
  refine wpAny_bind (wpAny_holding (wpAny_genNumber hg (wpAny_bind (wpAny_genState hgs ?_))))
  cases gs with
  | running => exact hgo.elim
  | finished => exact hgo.elim
  | _ =>
    refine wpAny_bind (wpAny_roomToWake hl hroom ?_)
    show wpAny _ A.in1 (.resume g (.send .none) [] _) _ _ s
    refine wpAny_resumeQ hgs hgo (fun x s₁ hx => ?_) (fun v s₁ gs' hb hv => ?_)
    · obtain ⟨rfl, hp⟩ := hx
      show wpAny _ A.in1 (newExc (.type "StopIteration") [] >>= _) _ _ _
      refine wpAny_bind ?_
      simp only [newExc, newTuple]
      refine wpAny_bind (wpAny_newObj_type ?_ (by size_fits))
      refine wpAny_bind (m := firstArgMember _ _) (wpAny_of_eq (a := Value.none) (by first | rfl | (simp only [firstArgMember]; rfl)) ?_)
      refine wpAny_newObj_type ?_ (by size_fits)
      simp only [raiseNew]
      refine wpAny_bind (wpAny_bind (wpAny_handled ?_))
      first | rw [show A.in1.handled = none from hh] | rw [hh]
      refine wpAny_throw ?_
      refine wpAny_bind (wpAny_isInstance (T := "StopIteration") (b := true) ⟨_, Heap.get?_push_size _ rfl, rfl⟩ isSubtype_stop ?_)
      exact wpAny_pure (hP s₁ hp _ fun b o hb => Heap.get?_push_of_some _ (Heap.get?_push_of_some _ hb))
    · exact wpAny_pure ⟨v, rfl, wpAny_pure (hY v s₁ gs' hb hv)⟩
end
end Mine
namespace Mine
open PySem PySem.W PySem.Challenge PySem.Calls PyProof.Rows

theorem fnGroup (P : Params) : FnAt P 70 (Str.ofString "_grouping_intervals") (stA 5) (.ref 69) :=
  ⟨⟨o70 P, pmOf (o70 P), by kernel_rfl, by kernel_rfl, by kernel_rfl⟩, ⟨69, o69 P, dFields (o69 P), tokAt (o69 P), rfl, by kernel_rfl, by kernel_rfl, by kernel_rfl, by decide⟩, by decide⟩
noncomputable def cmTok (P : Params) : Tok := match gl P (Str.ofString "CHAR_MAX") with | some (.int _ t) => t | _ => 0
theorem gl_cm (P : Params) : gl P (Str.ofString "CHAR_MAX") = some (.int 127 (cmTok P)) := by kernel_rfl

noncomputable def gFor : Stmt := (fBody (stA 5)).getD 1 (.Pass default)
noncomputable def gB : List Stmt := match gFor with | .For _ _ b _ _ => b | _ => []
noncomputable def gT : Expr := match gFor with | .For t _ _ _ _ => t | _ => .Constant .none 0 default
noncomputable abbrev envG (G : Addr) : Env := envOf (Str.ofString "_grouping_intervals") (fScope (stA 5)) G 70 (.ref 69)
noncomputable abbrev gCode (G I : Addr) : Code := .forLoop gT (.ref I) gB [] (envG G)
noncomputable def lastS : Str := Str.ofString "last_interval"
noncomputable def intS : Str := Str.ofString "interval"

section
variable {w : World} {A : Around} {R : GenEnd} {Y : Protocol} {n : Nat} {s₀ : Shared} {fs : List Frame} {s : Shared}
variable {K : Addr → Obj → Prop} {G I l : Addr} {items : Array Value} {m : Str → Option Value}

theorem turn_plain (nd : Prop) {i : Nat} {z : Int} {t : Tok} (hfs : splitAtGen fs = none) (hfg : fs.any Frame.guarded = false) (top : ∀ h : Heap, (∀ b o, K b o → h.get? b = some o) → TopH w h) (F : Fx K G s.heap m)
    (hl : ∃ o k, K l o ∧ o.cls = .type "list" ∧ o.data = .seq items k) (hIK : ∀ o, ¬ K I o) (hIG : I ≠ G) (hit : s.heap.IsListIter I l i) (hi : items[i]? = some (.int z t)) (h127 : z ≠ 127) (h0 : z ≠ 0)
    (hY : ∀ h' tk m', Fx K G h' m' → h'.IsListIter I l (i + 1) → (∀ b o, b ≠ G → b ≠ I → s.heap.get? b = some o → h'.get? b = some o) →
      ∀ kap : Resume → Shared → Prop, (nd → ∀ s'', (∀ b o, b = G ∨ b = I ∨ K b o → h'.get? b = some o → s''.heap.get? b = some o) → kap (.send .none) s'') → Y n s₀ (.int z t) { s with heap := h', toks := tk } kap)
    (next : nd → ∀ s'' h' tk m', Fx K G h' m' → h'.IsListIter I l (i + 1) → m' lastS = some (.int z t) → (∀ b o, b ≠ G → s''.heap.get? b = some o → h'.get? b = some o) → Seg (model pw w) A R Y n s'' (gCode G I) ((model pw w).den (gCode G I)) fs { s'' with heap := h', toks := tk }) :
    Seg (model pw w) A R Y (n + 1) s₀ (gCode G I) ((model pw w).den (gCode G I)) fs s := by
  obtain ⟨ol, kl, kk, hlc, hld⟩ := hl
  refine seg_forLoop (by intro v; rfl) ?_
  refine wpAny_pyNext_list_item hit ⟨ol, F.keep _ _ kk, hlc, kl, hld⟩ hi fun h₁ hit₁ s₁ => ?_
  have F₁ : Fx K G h₁ m := F.but (wr := [I]) (by simpa using hIG.symm) (by intro b hb o e; simp at hb; exact hIK o (hb ▸ e)) fun b o hb e => (s₁.2 b (by simpa using hb)).trans e
  refine wpAny_assign_Name (stx F₁ (fun h₂ F₂ s₂ => ?_) (by kernel_rfl) (by kernel_rfl))
  dsimp only at F₂ s₂ s₁ ⊢
  have hit₂ : h₂.IsListIter I l (i + 1) := let ⟨o, e, r⟩ := hit₁; ⟨o, (s₂.2 I hIG).trans e, r⟩
  refine seg_execs_cons (seg_If ?_)
  refine wpAny_isTrue_Compare1 ?_
  refine ldE F₂ rfl ?_
  refine nameG (v := .int 127 (cmTok w.params)) (top _ F₂.keep) ?_ (gl_cm _) (by kernel_rfl) (by kernel_rfl) (by kernel_rfl) rfl
  refine P.eq_int ?_
  refine wpAny_truthy_bool ?_
  rw [beq_eq_false_iff_ne.mpr h127, if_neg (by simp)]
  refine seg_execs_nil ?_
  dsimp only
  refine seg_execs_cons (seg_If ?_)
  refine wpAny_isTrue_Compare1 ?_
  refine ldE F₂ rfl ?_
  refine wpAny_Constant_int ?_
  refine P.eq_int ?_
  refine wpAny_truthy_bool ?_
  rw [beq_eq_false_iff_ne.mpr h0, if_neg (by simp)]
  refine seg_execs_nil ?_
  dsimp only
  refine seg_execs_cons (seg_Expr_Yield hfs rfl hfg ?_ rfl rfl)
  refine ldE F₂ rfl ?_
  intro kap hkap
  refine hY h₂ _ _ F₂ hit₂ (fun b o h1 h2 e => (s₂.2 b h1).trans ((s₁.2 b h2).trans e)) kap fun hnd s'' k'' => hkap .none s'' ?_
  dsimp only
  have F₃ : Fx K G s''.heap _ := ⟨F₂.ns.at' fun o e => k'' _ _ (.inl rfl) e, fun b o e => k'' b o (.inr (.inr e)) (F₂.keep b o e), F₂.off⟩
  have hit₃ : s''.heap.IsListIter I l (i + 1) := let ⟨o, e, r⟩ := hit₂; ⟨o, k'' _ _ (.inr (.inl rfl)) e, r⟩
  refine seg_execs_cons (seg_exec ?_)
  refine wpAny_Assign_Name ?_ ?hs
  case hs => kernel_rfl
  refine ldE F₃ rfl ?_
  refine stx F₃ fun h₄ F₄ s₄ => ?_
  dsimp only at F₄ s₄ ⊢
  refine seg_execs_nil ?_
  refine seg_again rfl ?_
  exact next hnd s'' h₄ _ _ F₄ (let ⟨o, e, r⟩ := hit₃; ⟨o, (s₄.2 I hIG).trans e, r⟩) (if_pos rfl) fun b o hb e => (s₄.2 b hb).trans e

/-- at 127 the generator ends -/
theorem turn_end {i : Nat} {t : Tok} {K₀ : Result → Sem Fin} {c₁ : Code} {p : Pos} (top : ∀ h : Heap, (∀ b o, K b o → h.get? b = some o) → TopH w h) (F : Fx K G s.heap m)
    (hl : ∃ o k, K l o ∧ o.cls = .type "list" ∧ o.data = .seq items k) (hIK : ∀ o, ¬ K I o) (hIG : I ≠ G) (hit : s.heap.IsListIter I l i) (hi : items[i]? = some (.int 127 t))
    (fin : ∀ h' tk, (∀ b o, b ≠ G → b ≠ I → s.heap.get? b = some o → h'.get? b = some o) → Seg (model pw w) A R Y n s₀ c₁ (K₀ (.ok (.ret .none))) [] { s with heap := h', toks := tk }) :
    Seg (model pw w) A R Y n s₀ (gCode G I) ((model pw w).den (gCode G I)) [.ret K₀ none false [] c₁ p []] s := by
  obtain ⟨ol, kl, kk, hlc, hld⟩ := hl
  refine seg_forLoop (by intro v; rfl) ?_
  refine wpAny_pyNext_list_item hit ⟨ol, F.keep _ _ kk, hlc, kl, hld⟩ hi fun h₁ hit₁ s₁ => ?_
  have F₁ : Fx K G h₁ m := F.but (wr := [I]) (by simpa using hIG.symm) (by intro b hb o e; simp at hb; exact hIK o (hb ▸ e)) fun b o hb e => (s₁.2 b (by simpa using hb)).trans e
  refine wpAny_assign_Name (stx F₁ (fun h₂ F₂ s₂ => ?_) (by kernel_rfl) (by kernel_rfl))
  dsimp only at F₂ s₂ s₁ ⊢
  refine seg_execs_cons (seg_If ?_)
  refine wpAny_isTrue_Compare1 ?_
  refine ldE F₂ rfl ?_
  refine nameG (v := .int 127 (cmTok w.params)) (top _ F₂.keep) ?_ (gl_cm _) (by kernel_rfl) (by kernel_rfl) (by kernel_rfl) rfl
  refine P.eq_int ?_
  refine wpAny_truthy_bool ?_
  rw [show ((127 : Int) == 127) = true from rfl, if_pos rfl]
  refine seg_execs_cons (seg_exec ?_)
  refine wpAny_Return_none ?_
  show Seg _ _ _ _ _ _ _ (leafOf (.ok (.ret .none))) _ _
  refine seg_leaf (.ok (.ret .none)) ?_
  exact fin h₂ _ fun b o h1 h2 e => (s₂.2 b h1).trans ((s₁.2 b h2).trans e)

/-- at 0 the one before is given for ever -/
theorem turn_zero {i : Nat} {z : Int} {t u : Tok} (hfs : splitAtGen fs = none) (hfg : fs.any Frame.guarded = false) (top : ∀ h : Heap, (∀ b o, K b o → h.get? b = some o) → TopH w h) (F : Fx K G s.heap m)
    (hl : ∃ o k, K l o ∧ o.cls = .type "list" ∧ o.data = .seq items k) (hIK : ∀ o, ¬ K I o) (hIG : I ≠ G) (hit : s.heap.IsListIter I l i) (hi : items[i]? = some (.int 0 t)) (hm : m lastS = some (.int z u))
    (hY : ∀ h' tk kap, (∀ b o, b ≠ G → b ≠ I → s.heap.get? b = some o → h'.get? b = some o) → Y n s₀ (.int z u) { s with heap := h', toks := tk } kap) :
    Seg (model pw w) A R Y (n + 1) s₀ (gCode G I) ((model pw w).den (gCode G I)) fs s := by
  obtain ⟨ol, kl, kk, hlc, hld⟩ := hl
  refine seg_forLoop (by intro v; rfl) ?_
  refine wpAny_pyNext_list_item hit ⟨ol, F.keep _ _ kk, hlc, kl, hld⟩ hi fun h₁ hit₁ s₁ => ?_
  have F₁ : Fx K G h₁ m := F.but (wr := [I]) (by simpa using hIG.symm) (by intro b hb o e; simp at hb; exact hIK o (hb ▸ e)) fun b o hb e => (s₁.2 b (by simpa using hb)).trans e
  refine wpAny_assign_Name (stx F₁ (fun h₂ F₂ s₂ => ?_) (by kernel_rfl) (by kernel_rfl))
  dsimp only at F₂ s₂ s₁ ⊢
  refine seg_execs_cons (seg_If ?_)
  refine wpAny_isTrue_Compare1 ?_
  refine ldE F₂ rfl ?_
  refine nameG (v := .int 127 (cmTok w.params)) (top _ F₂.keep) ?_ (gl_cm _) (by kernel_rfl) (by kernel_rfl) (by kernel_rfl) rfl
  refine P.eq_int ?_
  refine wpAny_truthy_bool ?_
  rw [show ((0 : Int) == 127) = false from rfl, if_neg (by simp)]
  refine seg_execs_nil ?_
  dsimp only
  refine seg_execs_cons (seg_If ?_)
  refine wpAny_isTrue_Compare1 ?_
  refine ldE F₂ rfl ?_
  refine wpAny_Constant_int ?_
  refine P.eq_int ?_
  refine wpAny_truthy_bool ?_
  rw [show ((0 : Int) == 0) = true from rfl, if_pos rfl]
  have hlast : (fun y => if y = Str.ofString "interval" then some (Value.int 0 t) else m y) lastS = some (.int z u) := hm
  refine seg_execs_cons (seg_If ?_)
  refine wpAny_isTrue_Compare1 ?_
  refine ldE F₂ hlast ?_
  refine Constant_none ?_
  refine is_int_none ?_
  refine wpAny_truthy_bool ?_
  rw [if_neg (by simp)]
  refine seg_execs_nil ?_
  dsimp only
  refine seg_execs_cons (seg_While fun p => ?_)
  refine seg_whileLoop ?_
  refine wpAny_isTrue_value (wpAny_Constant_bool (wpAny_truthy_bool ?_)) (by kernel_rfl)
  rw [if_pos rfl]
  refine seg_execs_cons (seg_Expr_Yield (by show Option.map _ (splitAtGen fs) = none; rw [hfs]; rfl) rfl (by rw [List.any_cons, hfg]; rfl) ?_ rfl rfl)
  refine ldE F₂ hlast ?_
  exact fun kap _ => hY h₂ _ kap fun b o h1 h2 e => (s₂.2 b h1).trans ((s₁.2 b h2).trans e)
end
end Mine
namespace Mine
open PySem PySem.W PySem.Challenge PySem.Calls PyProof.Rows

noncomputable def Rel (K : Addr → Obj → Prop) (L S : Addr) (s₀ s : Shared) : Prop :=
  ∃ h tk, s = { s₀ with heap := h, toks := tk } ∧ ∀ b o, (b = L ∨ b = S ∨ K b o) → s₀.heap.get? b = some o → h.get? b = some o
noncomputable def GY (K : Addr → Obj → Prop) (L S : Addr) (val : Nat → Int) (need : Nat → Prop) : Protocol := fun m s₀ v s' kap =>
  (∃ t, v = .int (val m) t) ∧ Rel K L S s₀ s' ∧ (need m → ∀ s'', (∀ b o, b ≠ L → b ≠ S → s'.heap.get? b = some o → s''.heap.get? b = some o) → kap (.send .none) s'')
noncomputable abbrev GR (K : Addr → Obj → Prop) (L S : Addr) : GenEnd := fun n s₀ r s₁ => r = .ok (.ret .none) ∧ (n = 0 ∧ Rel K L S s₀ s₁)

/-- what a turn of the generator leans on -/
structure GC (w : World) (K : Addr → Obj → Prop) (G I l : Addr) (items : Array Value) (L S : Addr) : Prop where
  top : ∀ h : Heap, (∀ b o, K b o → h.get? b = some o) → TopH w h
  hl : ∃ o k, K l o ∧ o.cls = .type "list" ∧ o.data = .seq items k
  nG : ∀ o, ¬ K G o
  nI : ∀ o, ¬ K I o
  IG : I ≠ G
  nL : ∀ o, ¬ K L o
  nS : ∀ o, ¬ K S o
  LG : L ≠ G
  SG : S ≠ G
  LI : L ≠ I
  SI : S ≠ I

section
variable {w : World} {A : Around} {n : Nat} {s₀ : Shared} {fs : List Frame} {s : Shared}
variable {K : Addr → Obj → Prop} {G I l L S : Addr} {items : Array Value} {m : Str → Option Value} {val : Nat → Int} {need : Nat → Prop}

theorem Rel.refl (s : Shared) : Rel K L S s s := ⟨s.heap, s.toks, rfl, fun _ _ _ e => e⟩
theorem Rel.step (c : GC w K G I l items L S) (r : Rel K L S s₀ s) {h' : Heap} (tk : Nat) (k : ∀ b o, b ≠ G → b ≠ I → s.heap.get? b = some o → h'.get? b = some o) : Rel K L S s₀ { s with heap := h', toks := tk } := by
  obtain ⟨h, tk0, rfl, k0⟩ := r
  refine ⟨h', tk, rfl, fun b o hb e => k b o ?_ ?_ (k0 b o hb e)⟩
  · rcases hb with rfl | rfl | hb
    · exact c.LG
    · exact c.SG
    · exact fun q => c.nG o (q ▸ hb)
  · rcases hb with rfl | rfl | hb
    · exact c.LI
    · exact c.SI
    · exact fun q => c.nI o (q ▸ hb)

theorem plainStep {i : Nat} {z : Int} {t : Tok} (c : GC w K G I l items L S) (hfs : splitAtGen fs = none) (hfg : fs.any Frame.guarded = false) (F : Fx K G s.heap m) (r : Rel K L S s₀ s) (hit : s.heap.IsListIter I l i) (hi : items[i]? = some (.int z t)) (h127 : z ≠ 127) (h0 : z ≠ 0) (hv : val n = z)
    (next : need n → ∀ s'' h' tk m', Rel K L S s'' { s'' with heap := h', toks := tk } → Fx K G h' m' → h'.IsListIter I l (i + 1) → m' lastS = some (.int z t) → Seg (model pw w) A (GR K L S) (GY K L S val need) n s'' (gCode G I) ((model pw w).den (gCode G I)) fs { s'' with heap := h', toks := tk }) :
    Seg (model pw w) A (GR K L S) (GY K L S val need) (n + 1) s₀ (gCode G I) ((model pw w).den (gCode G I)) fs s := by
  refine turn_plain (need n) hfs hfg c.top F c.hl c.nI c.IG hit hi h127 h0 (fun h' tk m' F' hit' k kap hkap => ?_) (fun hn s'' h' tk m' F' hit' hm' k => ?_)
  · refine ⟨⟨t, by rw [hv]⟩, r.step c tk k, fun hn s'' hs => hkap hn s'' fun b o hb e => hs b o ?_ ?_ e⟩
    · rcases hb with rfl | rfl | hb
      · exact c.LG.symm
      · exact c.LI.symm
      · exact fun q => c.nL o (q ▸ hb)
    · rcases hb with rfl | rfl | hb
      · exact c.SG.symm
      · exact c.SI.symm
      · exact fun q => c.nS o (q ▸ hb)
  · refine next hn s'' h' tk m' ⟨h', tk, rfl, fun b o hb e => k b o ?_ e⟩ F' hit' hm'
    rcases hb with rfl | rfl | hb
    · exact c.LG
    · exact c.SG
    · exact fun q => c.nG o (q ▸ hb)

/-- the three rows, as what is given and what comes -/
inductive RowIs : List Int → List Int → Prop
  | plain (a b c : Int) : a ≠ 127 → a ≠ 0 → b ≠ 127 → b ≠ 0 → c ≠ 127 → c ≠ 0 → RowIs [a, b, c] [a, b, c]
  | zero (a b d : Int) : a ≠ 127 → a ≠ 0 → b ≠ 127 → b ≠ 0 → RowIs [a, b, 0, d] [a, b, b]
  | stop (a b d : Int) : a ≠ 127 → a ≠ 0 → b ≠ 127 → b ≠ 0 → RowIs [a, b, 127, d] [a, b]

noncomputable def needOf (ys : List Int) : Nat → Prop := fun m => m ≠ 0 ∨ ys.length ≠ 3
noncomputable def valOf (ys : List Int) : Nat → Int := fun m => ys.getD (ys.length - 1 - m) 0

theorem gen_goes {row ys : List Int} (hrow : RowIs row ys) (F : Fx K G s.heap m) (hm : m (Str.ofString "grouping") = some (.ref l)) (top : ∀ h : Heap, (∀ b o, K b o → h.get? b = some o) → TopH w h)
    (hl : ∃ o k, K l o ∧ o.cls = .type "list" ∧ o.data = .seq items k) (hit : ∀ (i : Nat) (z : Int), row[i]? = some z → ∃ t, items[i]? = some (Value.int z t)) (nL : ∀ o, ¬ K L o) (nS : ∀ o, ¬ K S o) (LG : L ≠ G) (SG : S ≠ G) (Le : s.heap.get? L ≠ none) (Se : s.heap.get? S ≠ none) :
    (GenState.fresh (.func (fBody (stA 5)) (envG G))).Goes (model pw w) A (GR K L S) (GY K L S (valOf ys) (needOf ys)) ys.length (.send .none) s := by
  refine ⟨rfl, ?_⟩
  refine seg_func ?_
  refine seg_execs_cons (seg_exec ?_)
  refine wpAny_Assign_Name ?_ ?hs
  case hs => kernel_rfl
  refine Constant_none ?_
  refine stx F fun h₁ F₁ s₁ => ?_
  dsimp only at F₁ s₁ ⊢
  have hm₁ : (fun y => if y = Str.ofString "last_interval" then some Value.none else m y) (Str.ofString "grouping") = some (.ref l) := hm
  refine seg_execs_cons (seg_For ?_ (by intro _; kernel_rfl))
  refine ldE F₁ hm₁ ?_
  obtain ⟨ol, kl, kk, hlc, hld⟩ := id hl
  refine wpAny_pyIter_list ⟨ol, F₁.keep _ _ kk, hlc, kl, hld⟩ ?_
  intro p
  dsimp only
  have Lne : L ≠ h₁.objs.size := by
    cases e : s.heap.get? L with
    | none => exact absurd e Le
    | some o => exact Nat.ne_of_lt (Heap.lt_size ((s₁.2 L LG).trans e))
  have Sne : S ≠ h₁.objs.size := by
    cases e : s.heap.get? S with
    | none => exact absurd e Se
    | some o => exact Nat.ne_of_lt (Heap.lt_size ((s₁.2 S SG).trans e))
  have c : GC w K G h₁.objs.size l items L S := ⟨top, hl, F.off, F₁.notThere, Nat.ne_of_gt F₁.ltL, nL, nS, LG, SG, Lne, Sne⟩
  have F₂ := F₁.push { cls := .type "list_iterator", data := .fields #[.ref l, .int 0 0] }
  have hit₂ : (h₁.push { cls := .type "list_iterator", data := .fields #[.ref l, .int 0 0] }).IsListIter h₁.objs.size l 0 := ⟨_, Heap.get?_push_size _ rfl, rfl, rfl⟩
  have r : Rel K L S s { s with heap := h₁.push { cls := .type "list_iterator", data := .fields #[.ref l, .int 0 0] }, toks := s.toks + 1 } :=
    (Rel.refl s).step c _ fun b o h1 _ e => Heap.get?_push_of_some _ ((s₁.2 b h1).trans e)
  cases hrow with
  | plain a b d ha ha0 hb hb0 hd hd0 =>
    obtain ⟨t0, i0⟩ := hit 0 a rfl
    obtain ⟨t1, i1⟩ := hit 1 b rfl
    obtain ⟨t2, i2⟩ := hit 2 d rfl
    refine plainStep (n := 2) c rfl rfl F₂ r hit₂ i0 ha ha0 rfl fun _ s'' h' tk m' r' F' hit' hm' => ?_
    refine plainStep (n := 1) c rfl rfl F' r' hit' i1 hb hb0 rfl fun _ s'' h' tk m' r' F' hit' hm' => ?_
    refine plainStep (n := 0) c rfl rfl F' r' hit' i2 hd hd0 rfl fun hn => ?_
    rcases hn with hn | hn
    · exact absurd rfl hn
    · exact absurd rfl hn
  | zero a b d ha ha0 hb hb0 =>
    obtain ⟨t0, i0⟩ := hit 0 a rfl
    obtain ⟨t1, i1⟩ := hit 1 b rfl
    obtain ⟨t2, i2⟩ := hit 2 0 rfl
    refine plainStep (n := 2) c rfl rfl F₂ r hit₂ i0 ha ha0 rfl fun _ s'' h' tk m' r' F' hit' hm' => ?_
    refine plainStep (n := 1) c rfl rfl F' r' hit' i1 hb hb0 rfl fun _ s'' h' tk m' r' F' hit' hm' => ?_
    refine turn_zero (n := 0) rfl rfl c.top F' c.hl c.nI c.IG hit' i2 hm' fun h₉ tk₉ kap k => ?_
    refine ⟨⟨_, rfl⟩, r'.step c tk₉ k, fun hn => ?_⟩
    rcases hn with hn | hn
    · exact absurd rfl hn
    · exact absurd rfl hn
  | stop a b d ha ha0 hb hb0 =>
    obtain ⟨t0, i0⟩ := hit 0 a rfl
    obtain ⟨t1, i1⟩ := hit 1 b rfl
    obtain ⟨t2, i2⟩ := hit 2 127 rfl
    refine plainStep (n := 1) c rfl rfl F₂ r hit₂ i0 ha ha0 rfl fun _ s'' h' tk m' r' F' hit' hm' => ?_
    refine plainStep (n := 0) c rfl rfl F' r' hit' i1 hb hb0 rfl fun _ s'' h' tk m' r' F' hit' hm' => ?_
    refine turn_end (n := 0) c.top F' c.hl c.nI c.IG hit' i2 fun h₉ tk₉ k => ?_
    show Seg _ _ _ _ _ _ _ (leafOf (.ok (.ret .none))) _ _
    exact seg_end (.ok (.ret .none)) ⟨rfl, rfl, r'.step c tk₉ k⟩
end
end Mine
namespace Mine
open PySem PySem.W PySem.Challenge PySem.Calls PyProof.Rows

theorem fnSizes (P : Params) : FnAt P 186 (Str.ofString "_law_sizes") (stA 20) (.ref 185) :=
  ⟨⟨o186 P, pmOf (o186 P), by kernel_rfl, by kernel_rfl, by kernel_rfl⟩, ⟨185, o185 P, dFields (o185 P), tokAt (o185 P), rfl, by kernel_rfl, by kernel_rfl, by kernel_rfl, by decide⟩, by decide⟩

section
variable {w : World} {A : Around} {E : Value → Shared → Prop} {s : Shared} {n : Nat}

theorem callGen {l : Addr} {Q : Value → Shared → Prop} (T : TopH w s.heap) (hr : Room A (n + 1))
    (h : ∀ h₁ tk nm qn, s.toks ≤ tk → Fx (kp s.heap) s.heap.objs.size h₁ (fun x => ([Str.ofString "grouping"].zip [Value.ref l]).reverse.lookup x) →
      Q (.ref h₁.objs.size) { s with gens := s.gens.push (.fresh (.func (fBody (stA 5)) (envG s.heap.objs.size))), toks := tk, heap := h₁.push { cls := .type "generator", data := .fields #[.int s.gens.size 0, nm, qn] } }) :
    wpAny (model pw w) A (call (.ref 70) [.ref l]) Q E s := by
  have f := fnGroup w.params
  obtain ⟨o, pm, ho, hd⟩ := f.get T
  have hloc' : ∀ x ∈ [Str.ofString "grouping"].zip [Value.ref l], (fScope (stA 5)).names.lookup x.1 = some .local := fun x hx => by
    have : x = (Str.ofString "grouping", Value.ref l) := by simpa using hx
    rw [this]; kernel_rfl
  have hc : ((fScope (stA 5)).names.all fun x => decide (x.2 ≠ .cell)) = true := by kernel_rfl
  have hcell' : ∀ x ∈ (fScope (stA 5)).names, x.2 ≠ .cell := fun x hx => of_decide_eq_true (List.all_eq_true.mp hc x hx)
  refine wpAny_call (codeAny_call_generator (body := fBody (stA 5)) (by have := hr.depth; lia) ho hd (by kernel_rfl) (by kernel_rfl) rfl (f.rec_ T) ?_)
  have hb : bindArgs (docDef (Str.ofString "_grouping_intervals") (fArgs (stA 5)) (fBody (stA 5)) (fScope (stA 5)) pm (.ref 69) .none) ⟨[.ref l], []⟩ = pure ([Str.ofString "grouping"].zip [Value.ref l]) := by kernel_rfl
  rw [hb]
  refine wpAny_pure (wpAny_newFunctionEnv hcell' hloc' (fun h₁ hns hsb => ⟨T.lim.fresh _ hsb, ?_⟩) (by kernel_rfl))
  have F : Fr s.heap s.heap.objs.size h₁ (fun x => ([Str.ofString "grouping"].zip [Value.ref l]).reverse.lookup x) := ⟨hns, fun b o e => hsb.extBut b o (Nat.ne_of_lt (Heap.lt_size e)) (Heap.get?_push_of_some _ e), Nat.le_refl _⟩
  exact h h₁ _ _ _ (by show s.toks ≤ s.toks + 1 + 1 + 1; lia) (Fx.of F)

theorem gens_set {gens : Array GenState} {x y z : GenState} : ((gens.push x).setIfInBounds gens.size y).setIfInBounds gens.size z = gens.push z := by
  apply Array.ext_getElem?
  intro i
  rw [Array.getElem?_setIfInBounds, Array.getElem?_setIfInBounds, Array.getElem?_push, Array.getElem?_push]
  by_cases h : gens.size = i
  · subst h; simp
  · have h' : i ≠ gens.size := fun e => h e.symm
    simp [h, h']

/-- the sizes got so far -/
noncomputable def Got (its : Array Value) (ys : List Int) (j : Nat) : Prop := its.size = j ∧ ∀ (i : Nat) (v : Value), its[i]? = some v → ∃ z t, ys[i]? = some z ∧ v = Value.int z t
theorem Got.push {its : Array Value} {ys : List Int} {j : Nat} (g : Got its ys j) (hj : j < ys.length) (t : Tok) : Got (its.push (.int (ys.getD j 0) t)) ys (j + 1) := by
  refine ⟨by simp [g.1], fun i v hv => ?_⟩
  rw [Array.getElem?_push] at hv
  split at hv
  · rename_i h
    cases hv
    rw [g.1] at h
    subst h
    exact ⟨_, t, by rw [List.getD_eq_getElem?_getD, List.getElem?_eq_getElem hj]; rfl, rfl⟩
  · exact g.2 i v hv

structure SI (w : World) (A : Around) (s : Shared) (K : Addr → Obj → Prop) (L S : Addr) (ys : List Int) (k : Nat) (s' : Shared) (h : Heap) (tk : Nat) (gs : GenState) (j : Nat) (its : Array Value) (m : Str → Option Value) : Prop where
  st : s' = { s with heap := h, toks := tk, gens := s.gens.push gs }
  fx : Fx K L h m
  sz : m (Str.ofString "sizes") = some (.ref S)
  pl : h.PlainList S its
  got : Got its ys j
  bare : gs.bare = true
  j1 : j ≤ ys.length
  j3 : j < 3
  kj : k = 4 - j
  tks : s.toks ≤ tk
  goes : ∀ s'', s''.heap.get? L ≠ none → s''.heap.get? S ≠ none → (∀ b o, b ≠ L → b ≠ S → h.get? b = some o → s''.heap.get? b = some o) → gs.Goes (model pw w) A.in1 (GR K L S) (GY K L S (valOf ys) (needOf ys)) (ys.length - j) (.send .none) s''

theorem sizes_call {l : Addr} {row ys : List Int} {items : Array Value} {ol : Obj} {nl : Nat} {Q : Value → Shared → Prop} (hrow : RowIs row ys) (T : TopH w s.heap) (hr : Room A (n + 2)) (hl : s.heap.get? l = some ol) (hlc : ol.cls = .type "list") (hld : ol.data = .seq items nl)
    (hit : ∀ (i : Nat) (z : Int), row[i]? = some z → ∃ t, items[i]? = some (Value.int z t))
    (h : ∀ h' tk S its gs, s.toks ≤ tk → (∀ b o, s.heap.get? b = some o → h'.get? b = some o) → s.heap.get? S = none → h'.PlainList S its → Got its ys ys.length → gs.bare = true → Q (.ref S) { s with heap := h', gens := s.gens.push gs, toks := tk }) :
    wpAny (model pw w) A (call (.ref 186) [.ref l]) Q E s := by
  refine wpAny_call (codeAny_with_toks (Nat.le_refl _) (enterX [Str.ofString "row"] T hr (fnSizes _) (by kernel_rfl) (by kernel_rfl) (fun pm => by kernel_rfl) (by kernel_rfl) (by kernel_rfl) (by kernel_rfl) (fun h₁ tk htk F T₁ hr₁ => ?_)))
  obtain ⟨L, hL⟩ : ∃ L, s.heap.objs.size = L := ⟨_, rfl⟩
  rw [hL] at F hr₁ ⊢
  have low : ∀ b, s.heap.get? b ≠ none → b ≠ L := fun b hb => by
    cases e : s.heap.get? b with
    | none => exact absurd e hb
    | some o => have := Heap.lt_size e; rw [hL] at this; exact Nat.ne_of_lt this
  refine wpAny_execs_cons ?_
  refine wpAny_Assign_Name ?_ ?hs
  case hs => kernel_rfl
  refine List_ ?_
  refine spliced_nil ?_
  refine newListP F (fun h₂ F₂ k₂ P₂ => ?_) (by decide)
  obtain ⟨S, hS⟩ : ∃ S, h₁.objs.size = S := ⟨_, rfl⟩
  dsimp only at F₂ k₂ P₂ ⊢
  rw [hS] at P₂ ⊢
  refine stx F₂ fun h₃ F₃ s₃ => ?_
  dsimp only at F₃ s₃ ⊢
  have SL : S ≠ L := hS ▸ Nat.ne_of_gt F.ltL
  obtain ⟨m3, F₃, ms3, mr3⟩ : ∃ m3, Fx (kp s.heap) L h₃ m3 ∧ m3 (Str.ofString "sizes") = some (.ref S) ∧ m3 (Str.ofString "row") = some (.ref l) := ⟨_, F₃, rfl, rfl⟩
  have Sn : s.heap.get? S = none := by
    cases e : s.heap.get? S with
    | none => rfl
    | some o => exact absurd (Heap.lt_size (F.keep _ _ e)) (by rw [hS]; exact Nat.lt_irrefl _)
  have P₃ : h₃.PlainList S #[] := P₂.at fun o e => (s₃.2 S SL).trans e
  have T₃ : TopH w h₃ := F₃.top T fun _ _ e => e
  refine wpAny_execs_cons ?_
  refine wpAny_For ?_ (by intro _; kernel_rfl)
  refine gcall1 T₃ (fnGroup _) (by kernel_rfl) (by kernel_rfl) ?_ (by kernel_rfl) (by kernel_rfl) (by kernel_rfl) rfl
  refine ldE F₃ mr3 ?_
  refine ⟨T₃, ?_⟩
  refine callGen T₃ hr₁ fun h₄ tk₄ nm qn htk₄ F₄ => ?_
  dsimp only at htk₄ F₄ ⊢
  obtain ⟨a, ha⟩ : ∃ a, h₄.objs.size = a := ⟨_, rfl⟩
  obtain ⟨G, hG⟩ : ∃ G, h₃.objs.size = G := ⟨_, rfl⟩
  obtain ⟨oa, hoa⟩ : ∃ oa : Obj, oa = { cls := .type "generator", data := .fields #[.int s.gens.size 0, nm, qn] } := ⟨_, rfl⟩
  rw [← hoa, ha, hG]
  rw [hG] at F₄
  obtain ⟨hc, hhc⟩ : ∃ hc, h₄.push oa = hc := ⟨_, rfl⟩
  rw [hhc]
  have ga : hc.get? a = some oa := by rw [← hhc, ← ha]; exact Heap.get?_push_size _ (by rw [hoa]; rfl)
  have kc : ∀ b o, h₄.get? b = some o → hc.get? b = some o := fun b o e => hhc ▸ Heap.get?_push_of_some _ e
  have k4 : ∀ b o, h₃.get? b = some o → h₄.get? b = some o := F₄.keep
  have LG : L ≠ G := hG ▸ Nat.ne_of_lt F₃.ltL
  have SG : S ≠ G := by obtain ⟨nn, e⟩ := P₃; exact hG ▸ Nat.ne_of_lt (Heap.lt_size e)
  have aG : a ≠ G := ha ▸ Nat.ne_of_gt F₄.ltL
  have aL : a ≠ L := by obtain ⟨o, _, _, e, _⟩ := F₃.ns; exact ha ▸ Nat.ne_of_gt (Heap.lt_size (k4 _ _ e))
  have aS : a ≠ S := by obtain ⟨nn, e⟩ := P₃; exact ha ▸ Nat.ne_of_gt (Heap.lt_size (k4 _ _ e))
  have k0 : ∀ b o, s.heap.get? b = some o → hc.get? b = some o ∧ b ≠ L ∧ b ≠ S ∧ b ≠ G := fun b o e => by
    have bl := low b (by rw [e]; simp)
    have e1 := F.keep _ _ e
    have bS : b ≠ S := hS ▸ Nat.ne_of_lt (Heap.lt_size e1)
    have e3 := F₃.keep _ _ e
    exact ⟨kc _ _ (k4 _ _ e3), bl, bS, hG ▸ Nat.ne_of_lt (Heap.lt_size e3)⟩
  obtain ⟨K, hK⟩ : ∃ K : Addr → Obj → Prop, ∀ b o, K b o ↔ (hc.get? b = some o ∧ b ≠ L ∧ b ≠ S ∧ b ≠ G) := ⟨_, fun _ _ => Iff.rfl⟩
  have nL : ∀ o, ¬ K L o := fun o e => ((hK _ _).mp e).2.1 rfl
  have nS : ∀ o, ¬ K S o := fun o e => ((hK _ _).mp e).2.2.1 rfl
  have nG : ∀ o, ¬ K G o := fun o e => ((hK _ _).mp e).2.2.2 rfl
  have top : ∀ h : Heap, (∀ b o, K b o → h.get? b = some o) → TopH w h := fun h k => T.keeps fun b o e => k _ _ ((hK _ _).mpr (k0 b o e))
  have Fc : Fx K L hc m3 := ⟨F₃.ns.at' fun o e => kc _ _ (k4 _ _ e), fun b o e => ((hK _ _).mp e).1, nL⟩
  have Ka : K a oa := (hK _ _).mpr ⟨ga, aL, aS, aG⟩
  have isGen : ∀ h : Heap, (∀ b o, K b o → h.get? b = some o) → h.IsGen a s.gens.size := fun h k => ⟨oa, nm, qn, k _ _ Ka, by rw [hoa], by rw [hoa], by rw [hoa]⟩
  have hlK : ∃ o k, K l o ∧ o.cls = .type "list" ∧ o.data = .seq items k := ⟨ol, nl, (hK _ _).mpr (k0 l ol hl), hlc, hld⟩
  have P₄ : hc.PlainList S #[] := P₃.at fun o e => kc _ _ (k4 _ _ e)
  have hlen : ys.length ≤ 3 := by cases hrow <;> simp
  refine wpAny_pyIter_gen (isGen hc Fc.keep) ?_
  refine codeAny_forLoop (fun k s' => ∃ h tk gs j its m, SI w (A.deeper (envOf (Str.ofString "_law_sizes") (fScope (stA 20)) L 186 (.ref 185))) s K L S ys k s' h tk gs j its m) ?_ 4 ⟨hc, tk₄, .fresh (.func (fBody (stA 5)) (envG G)), 0, #[], m3, ?_⟩
  · rintro k s' ⟨h₅, tk₅, gs, j, its, m, I⟩
    obtain ⟨rfl, F₅, m5, P₅, got, bare, j1, j3, rfl, tk5, goes⟩ := I
    have T₅ := top _ F₅.keep
    have gets : ({ s with heap := h₅, toks := tk₅, gens := s.gens.push gs } : Shared).gens[s.gens.size]? = some gs := by show (s.gens.push gs)[s.gens.size]? = _; simp
    have Lh : h₅.get? L ≠ none := by obtain ⟨o, _, _, e, _⟩ := F₅.ns; rw [e]; simp
    have Sh : h₅.get? S ≠ none := by obtain ⟨nn, e⟩ := P₅; rw [e]; simp
    refine wpAny_with_toks (n := tk₅) (Nat.le_refl _) (pyNext_genQ (n := ys.length - j) (P := fun n s₀ s₁ => n = 0 ∧ Rel K L S s₀ s₁) (Y := GY K L S (valOf ys) (needOf ys)) hr₁.handled T₅.lim (by have := hr₁.depth; lia) (isGen h₅ F₅.keep) gets (goes _ Lh Sh fun b o _ _ e => e) (fun v s₁ gs' hb hY htk₁ => ?_) (fun s₁ hP h₆ k₆ htk₁ => ?_))
    · obtain ⟨⟨t, hv⟩, ⟨h₆, tk₆, rfl, k₆⟩, hkap⟩ := hY
      have k₆ : ∀ b o, (b = L ∨ b = S ∨ K b o) → h₅.get? b = some o → h₆.get? b = some o := k₆
      have htk₁ : tk₅ ≤ tk₆ := htk₁
      have jlt : j < ys.length := by
        rcases Nat.lt_or_ge j ys.length with q | q
        · exact q
        · exfalso
          have hj : ys.length - j = 0 := by lia
          rw [hj] at hkap
          refine hkap ?_ _ fun b o _ _ e => e
          right
          have : j = ys.length := by lia
          lia
      obtain ⟨q, hq⟩ : ∃ q, ys.length - j = q + 1 := ⟨ys.length - j - 1, by lia⟩
      rw [hq] at hv hkap
      have hval : valOf ys q = ys.getD j 0 := by unfold valOf; rw [show ys.length - 1 - q = j by lia]
      have hv : v = .int (ys.getD j 0) t := by rw [hv]; show Value.int (valOf ys (q + 1 - 1)) t = _; rw [Nat.add_sub_cancel, hval]
      subst hv
      have F₆ : Fx K L h₆ m := ⟨F₅.ns.at' fun o e => k₆ _ _ (.inl rfl) e, fun b o e => k₆ b o (.inr (.inr e)) (F₅.keep b o e), F₅.off⟩
      have P₆ : h₆.PlainList S its := P₅.at fun o e => k₆ _ _ (.inr (.inl rfl)) e
      have hst : ({ ({ s with heap := h₅, toks := tk₅, gens := s.gens.push gs } : Shared).setGen s.gens.size .running with heap := h₆, toks := tk₆ } : Shared).setGen s.gens.size gs' = { s with heap := h₆, toks := tk₆, gens := s.gens.push gs' } := by
        show ({ s with heap := h₆, toks := tk₆, gens := ((s.gens.push gs).setIfInBounds s.gens.size .running).setIfInBounds s.gens.size gs' } : Shared) = _
        rw [gens_set]
      rw [hst]
      dsimp only
      refine wpAny_assign_Name ?_
      refine stx F₆ fun h₇ F₇ s₇ => ?_
      dsimp only at F₇ s₇ ⊢
      have P₇ : h₇.PlainList S its := P₆.at fun o e => (s₇.2 S SL).trans e
      have T₇ := top _ F₇.keep
      have m7 : (fun y => if y = Str.ofString "size" then some (Value.int (ys.getD j 0) t) else m y) (Str.ofString "sizes") = some (.ref S) := m5
      refine wpAny_execs_cons ?_
      refine wpAny_Expr ?_ ?hs
      case hs => kernel_rfl
      refine wpAny_Call_append (by kernel_rfl) (by kernel_rfl) (by kernel_rfl) (by kernel_rfl) ?_
      refine ldE F₇ m7 ?_
      refine ⟨S, its, rfl, PlainListL P₇, ?_⟩
      refine ldE F₇ rfl ?_
      refine append_plain P₇ (fun h₈ P₈ s₈ => ?_) (by rw [got.1, sizeLine_eq]; lia)
      dsimp only at s₈ ⊢
      have F₈ := F₇.but (h' := h₈) (wr := [S]) (show L ∉ [S] by simpa using SL.symm) (by intro b hb o e; simp at hb; exact nS o (hb ▸ e)) fun b o hb e => (s₈.2 b (by simpa using hb)).trans e
      have got₈ := got.push jlt t
      have T₈ := top _ F₈.keep
      refine wpAny_execs_cons ?_
      refine wpAny_If ?_
      refine wpAny_isTrue_Compare1 ?_
      refine bcall1 (id := "len") T₈ (by kernel_rfl) (by kernel_rfl) (by kernel_rfl) ?_ (by kernel_rfl) (by kernel_rfl) (by kernel_rfl) rfl rfl
      refine ldE F₈ m7 ?_
      refine call_len_list P₈.isList (by rw [got₈.1]; lia) ?_
      refine wpAny_Constant_int ?_
      refine P.eq_int ?_
      refine wpAny_truthy_bool ?_
      rw [got₈.1]
      refine iteOn (c := decide (j + 1 = 3)) (by by_cases hj : j + 1 = 3 <;> simp [hj]; lia) (fun hc => ?_) (fun hc => ?_)
      · have hc := of_decide_eq_true hc
        refine wpAny_execs_cons ?_
        refine wpAny_Return_some ?_
        refine ldE F₈ m7 ?_
        dsimp only
        have hj : j + 1 = ys.length := by lia
        intro htk₈
        exact h h₈ _ S _ gs' htk₈ (fun b o e => F₈.keep _ _ ((hK _ _).mpr (k0 b o e))) Sn P₈ (hj ▸ got₈) hb
      · have hc := of_decide_eq_false hc
        refine wpAny_execs_nil ?_
        dsimp only
        refine wpAny_execs_nil ?_
        dsimp only
        refine ⟨4 - (j + 1), by lia, h₈, _, gs', j + 1, _, _, ⟨rfl, F₈, m7, P₈, got₈, hb, jlt, by lia, rfl, by lia, fun s'' e1 e2 k => ?_⟩⟩
        have := hkap (by
          by_cases hq0 : q = 0
          · right; lia
          · left; show q + 1 - 1 ≠ 0; lia) s'' fun b o h1 h2 e => k b o h1 h2 ((s₈.2 b h2).trans ((s₇.2 b h1).trans e))
        rw [show ys.length - (j + 1) = q by lia]
        exact this
    · obtain ⟨hn, h₇, tk₇, rfl, k₇⟩ := hP
      have k₇ : ∀ b o, (b = L ∨ b = S ∨ K b o) → h₅.get? b = some o → h₇.get? b = some o := k₇
      have hj : j = ys.length := by lia
      have F₆ : Fx K L h₆ m := ⟨F₅.ns.at' fun o e => k₆ _ _ (k₇ _ _ (.inl rfl) e), fun b o e => k₆ _ _ (k₇ b o (.inr (.inr e)) (F₅.keep b o e)), F₅.off⟩
      have P₆ : h₆.PlainList S its := P₅.at fun o e => k₆ _ _ (k₇ _ _ (.inr (.inl rfl)) e)
      have hst : ({ ({ ({ s with heap := h₅, toks := tk₅, gens := s.gens.push gs } : Shared).setGen s.gens.size .running with heap := h₇, toks := tk₇ } : Shared).setGen s.gens.size .finished with heap := h₆ } : Shared) = { s with heap := h₆, toks := tk₇, gens := s.gens.push .finished } := by
        show ({ s with heap := h₆, toks := tk₇, gens := ((s.gens.push gs).setIfInBounds s.gens.size .running).setIfInBounds s.gens.size .finished } : Shared) = _
        rw [gens_set]
      rw [hst]
      refine wpAny_execs_nil ?_
      dsimp only
      refine wpAny_execs_cons ?_
      refine wpAny_Return_some ?_
      refine ldE F₆ m5 ?_
      dsimp only
      intro htk₈
      exact h h₆ _ S its .finished htk₈ (fun b o e => F₆.keep _ _ ((hK _ _).mpr (k0 b o e))) Sn P₆ (hj ▸ got) rfl
  · refine ⟨rfl, Fc, ms3, P₄, ⟨rfl, fun i v e => by simp at e⟩, rfl, Nat.zero_le _, by decide, rfl, by lia, fun s'' e1 e2 k => ?_⟩
    have ns4 := F₄.ns
    refine gen_goes hrow ⟨ns4.at' fun o e => k _ _ LG.symm SG.symm (kc _ _ e), fun b o e => ?_, nG⟩ rfl top hlK hit nL nS LG SG e1 e2
    obtain ⟨q1, q2, q3, q4⟩ := (hK _ _).mp e
    exact k _ _ q2 q3 q1
end
end Mine
namespace Mine
open PySem PySem.W PySem.Challenge PySem.Calls PyProof.Rows

/-! the reading, without the program -/
noncomputable def codeOf (k c : Nat) : Nat := kindsL.getD k 0 + c - 97
noncomputable def kOK (k c : Nat) : Bool :=
  let d := codeOf k c
  !inB1 d && (mapB3 d).cps.toList == [c] && !inQ d && !(d == 34) && !(d == 92) && !(d == 10) && !(Builtin.Str.tooLong (placed ⟨#[d]⟩ fun i _ => Unicode.lowerAt (#[d]) i).size)
noncomputable def uOK (u : Nat) : Bool := inB1 u && !inQ u && !(u == 34) && !(u == 92) && !(u == 10)
theorem kOK_all : ((List.range 12).all fun k => [97, 98, 99].all fun c => kOK k c) = true := by kernel_rfl
theorem uOK_all : ((List.range 28).all fun p => (unseenL p).all uOK) = true := by kernel_rfl

theorem str_ext {x y : Str} (h : x.cps.toList = y.cps.toList) : x = y := by
  obtain ⟨⟨a⟩⟩ := x; obtain ⟨⟨b⟩⟩ := y
  have : a = b := h
  rw [this]
theorem join_cps : ∀ xs : List Str, (Txt.join ⟨#[]⟩ xs).cps.toList = xs.flatMap (·.cps.toList)
  | [] => by rw [show Txt.join ⟨#[]⟩ [] = Str.join ⟨#[]⟩ [] from StrLaws.glued_eq_join _ _]; rfl
  | [x] => by rw [show Txt.join ⟨#[]⟩ [x] = Str.join ⟨#[]⟩ [x] from StrLaws.glued_eq_join _ _]; simp [Str.join]
  | x :: y :: r => by
    have ih := join_cps (y :: r)
    rw [show Txt.join ⟨#[]⟩ (y :: r) = Str.join ⟨#[]⟩ (y :: r) from StrLaws.glued_eq_join _ _] at ih
    rw [show Txt.join ⟨#[]⟩ (x :: y :: r) = Str.join ⟨#[]⟩ (x :: y :: r) from StrLaws.glued_eq_join _ _]
    show ((x ++ ⟨#[]⟩ ++ Str.join ⟨#[]⟩ (y :: r) : Str)).cps.toList = _
    show ((x.cps ++ #[]) ++ (Str.join ⟨#[]⟩ (y :: r)).cps).toList = _
    rw [Array.toList_append, Array.toList_append, ih]
    simp

/-- the signs of one letter, spelled -/
noncomputable def sp1 (c t : Nat) : List Nat := unseenL (t / 12 % 28) ++ [codeOf (t % 12) c]
theorem spelled_cps (c t : Nat) : (spelled c t).cps.toList = sp1 c t := by
  unfold spelled sp1 codeOf
  show (_ ++ _ : Array Nat).toList = _
  rw [Array.toList_append]
noncomputable def sgL (l : List Nat) (seed : Nat) : List Nat := l.zipIdx.flatMap fun ci => sp1 ci.1 (seed * (ci.2 + 1) + ci.2)
theorem signs_cps (name : Str) (seed : Nat) : (signsOf name seed).cps.toList = sgL name.cps.toList seed := by
  unfold signsOf
  rw [join_cps]
  unfold spL sgL
  rw [List.flatMap_map]
  congr 1
  funext ci
  exact spelled_cps _ _

noncomputable def Let (c : Nat) : Prop := c = 97 ∨ c = 98 ∨ c = 99
theorem kOK_of {k c : Nat} (hk : k < 12) (hc : Let c) : kOK k c = true := by
  have h := List.all_eq_true.mp (List.all_eq_true.mp kOK_all k (List.mem_range.mpr hk)) c
  exact h (by rcases hc with rfl | rfl | rfl <;> simp)
theorem uOK_of {p u : Nat} (hp : p < 28) (hu : u ∈ unseenL p) : uOK u = true :=
  List.all_eq_true.mp (List.all_eq_true.mp uOK_all p (List.mem_range.mpr hp)) u hu

structure KOk (d c : Nat) : Prop where
  b1 : inB1 d = false
  b3 : mapB3 d = ⟨#[c]⟩
  q : inQ d = false
  n34 : d ≠ 34
  n92 : d ≠ 92
  n10 : d ≠ 10
  low : Builtin.Str.tooLong (placed ⟨#[d]⟩ fun i _ => Unicode.lowerAt (#[d]) i).size = false
theorem kOk {k c : Nat} (hk : k < 12) (hc : Let c) : KOk (codeOf k c) c := by
  have h := kOK_of hk hc
  unfold kOK at h
  simp only [Bool.and_eq_true, Bool.not_eq_true', beq_iff_eq, beq_eq_false_iff_ne] at h
  obtain ⟨⟨⟨⟨⟨⟨a, b⟩, c⟩, d⟩, e⟩, f⟩, g⟩ := h
  exact ⟨a, str_ext b, c, d, e, f, g⟩
structure UOk (u : Nat) : Prop where
  b1 : inB1 u = true
  q : inQ u = false
  n34 : u ≠ 34
  n92 : u ≠ 92
  n10 : u ≠ 10
theorem uOk {p u : Nat} (hp : p < 28) (hu : u ∈ unseenL p) : UOk u := by
  have h := uOK_of hp hu
  unfold uOK at h
  simp only [Bool.and_eq_true, Bool.not_eq_true', beq_iff_eq, beq_eq_false_iff_ne] at h
  obtain ⟨⟨⟨⟨a, b⟩, c⟩, d⟩, e⟩ := h
  exact ⟨a, b, c, d, e⟩

theorem sp1_mem {c t u : Nat} (hc : Let c) (hu : u ∈ sp1 c t) : UOk u ∨ KOk u c := by
  unfold sp1 at hu
  rcases List.mem_append.mp hu with h | h
  · exact .inl (uOk (Nat.mod_lt _ (by decide)) h)
  · rw [List.mem_singleton.mp h]; exact .inr (kOk (Nat.mod_lt _ (by decide)) hc)
theorem sg_mem {l : List Nat} {seed u : Nat} (hl : ∀ c ∈ l, Let c) (hu : u ∈ sgL l seed) : UOk u ∨ ∃ c, KOk u c := by
  unfold sgL at hu
  obtain ⟨ci, hci, h⟩ := List.mem_flatMap.mp hu
  have hc : Let ci.1 := by
    obtain ⟨i, e⟩ := List.mem_iff_getElem?.mp hci
    rw [List.getElem?_zipIdx] at e
    cases e' : l[i]? with
    | none => rw [e'] at e; cases e
    | some c => rw [e'] at e; cases e; exact hl c (List.mem_of_getElem? e')
  exact (sp1_mem hc h).imp id fun h => ⟨_, h⟩
theorem prepL_sp1 {c t : Nat} (hc : Let c) : prepL (sp1 c t) = [⟨#[c]⟩] := by
  have hu : prepL (unseenL (t / 12 % 28)) = [] := by
    unfold prepL
    rw [List.filter_eq_nil_iff.mpr, List.map_nil]
    intro u hu
    have := (uOk (Nat.mod_lt _ (by decide)) hu).b1
    simp [this]
  have hk := kOk (k := t % 12) (Nat.mod_lt _ (by decide)) hc
  unfold sp1
  rw [prepL_snoc, hu, hk.b1, hk.b3]
  rfl
theorem prepL_append (a b : List Nat) : prepL (a ++ b) = prepL a ++ prepL b := by unfold prepL; rw [List.filter_append, List.map_append]
theorem prepL_flat {l : List (Nat × Nat)} {f : Nat × Nat → Nat} (hl : ∀ ci ∈ l, Let ci.1) : prepL (l.flatMap fun ci => sp1 ci.1 (f ci)) = l.map fun ci => ⟨#[ci.1]⟩ := by
  induction l with
  | nil => rfl
  | cons x l ih =>
    rw [List.flatMap_cons, prepL_append, prepL_sp1 (hl x (List.mem_cons_self ..)), ih fun ci h => hl ci (List.mem_cons_of_mem _ h)]
    rfl
theorem zip_let {l : List Nat} (hl : ∀ c ∈ l, Let c) : ∀ ci ∈ l.zipIdx, Let ci.1 := fun ci hci => by
  obtain ⟨i, e⟩ := List.mem_iff_getElem?.mp hci
  rw [List.getElem?_zipIdx] at e
  cases e' : l[i]? with
  | none => rw [e'] at e; cases e
  | some c => rw [e'] at e; cases e; exact hl c (List.mem_of_getElem? e')
theorem prepL_sg {l : List Nat} {seed : Nat} (hl : ∀ c ∈ l, Let c) : prepL (sgL l seed) = l.map fun c => ⟨#[c]⟩ := by
  unfold sgL
  rw [prepL_flat (f := fun ci => seed * (ci.2 + 1) + ci.2) (zip_let hl)]
  have : (l.zipIdx.map fun ci => (⟨#[ci.1]⟩ : Str)) = (l.zipIdx.map Prod.fst).map fun c => ⟨#[c]⟩ := by rw [List.map_map]; rfl
  rw [this, List.zipIdx_map_fst]
theorem prepared_signs {name : Str} {seed : Nat} (hl : ∀ c ∈ name.cps.toList, Let c) : prepared (signsOf name seed) = name := by
  refine str_ext ?_
  unfold prepared
  rw [signs_cps, prepL_sg hl, join_cps, List.flatMap_map]
  simp
theorem sp1_len (c t : Nat) : (sp1 c t).length ≤ 2 := by
  unfold sp1
  rw [List.length_append]
  have := unseen_len (t / 12 % 28)
  simp; lia
theorem flat_len {l : List (Nat × Nat)} {f : Nat × Nat → Nat} : (l.flatMap fun ci => sp1 ci.1 (f ci)).length ≤ 2 * l.length := by
  induction l with
  | nil => simp
  | cons x l ih => rw [List.flatMap_cons, List.length_append, List.length_cons]; have := sp1_len x.1 (f x); lia
theorem sg_len (l : List Nat) (seed : Nat) : (sgL l seed).length ≤ 2 * l.length := by
  unfold sgL
  have := flat_len (l := l.zipIdx) (f := fun ci => seed * (ci.2 + 1) + ci.2)
  rwa [List.length_zipIdx] at this
theorem sp1_pos (c t : Nat) : 1 ≤ (sp1 c t).length := by
  unfold sp1
  rw [List.length_append]
  exact Nat.le_add_left _ _
theorem flat_pos {l : List (Nat × Nat)} {f : Nat × Nat → Nat} : l.length ≤ (l.flatMap fun ci => sp1 ci.1 (f ci)).length := by
  induction l with
  | nil => simp
  | cons x l ih => rw [List.flatMap_cons, List.length_append, List.length_cons]; have := sp1_pos x.1 (f x); lia
theorem sg_pos (l : List Nat) (seed : Nat) : l.length ≤ (sgL l seed).length := by
  unfold sgL
  have := flat_pos (l := l.zipIdx) (f := fun ci => seed * (ci.2 + 1) + ci.2)
  rwa [List.length_zipIdx] at this

/-- the text of the netrc file -/
theorem written_quoted {name : Str} {seed : Nat} (hl : ∀ c ∈ name.cps.toList, Let c) : (written name seed true).cps.toList = 34 :: (sgL name.cps.toList seed ++ [34]) := by
  unfold written
  rw [if_pos rfl]
  show ((#[34] ++ (Txt.join ⟨#[]⟩ (qL (signsOf name seed))).cps) ++ #[34] : Array Nat).toList = _
  rw [Array.toList_append, Array.toList_append, join_cps]
  have : (qL (signsOf name seed)).flatMap (·.cps.toList) = sgL name.cps.toList seed := by
    unfold qL
    rw [signs_cps, List.flatMap_map]
    have h : ∀ l : List Nat, (∀ u ∈ l, inQ u = false) → (l.flatMap fun c => (if inQ c = true then bs c else (⟨#[c]⟩ : Str)).cps.toList) = l := by
      intro l hl
      induction l with
      | nil => rfl
      | cons u l ih =>
        rw [List.flatMap_cons, ih fun v hv => hl v (List.mem_cons_of_mem _ hv), hl u (List.mem_cons_self ..)]
        rfl
    exact h _ fun u hu => (sg_mem hl hu).elim UOk.q fun ⟨_, h⟩ => h.q
  rw [this]
  rfl
theorem written_escaped {name : Str} {seed : Nat} : (written name seed false).cps.toList = esc (sgL name.cps.toList seed) := by
  unfold written
  rw [if_neg (by simp), join_cps]
  unfold uL esc
  rw [signs_cps, List.flatMap_map]
  rfl
end Mine
namespace Mine
open PySem PySem.W PySem.Challenge PySem.Calls PyProof.Rows

/-! words as triples of numbers -/
noncomputable abbrev T3 := Nat × Nat × Nat
noncomputable def w3 (t : T3) : Str := ⟨(List.replicate t.1 97 ++ List.replicate t.2.1 98 ++ List.replicate t.2.2 99).toArray⟩

theorem mul1 (c n : Nat) : (Txt.mul ⟨#[c]⟩ (n : Int)).cps.toList = List.replicate n c := by
  unfold Txt.mul
  by_cases h0 : (n : Int) < 1
  · rw [if_pos h0]
    have : n = 0 := by omega
    subst this; rfl
  · rw [if_neg h0]
    by_cases h1 : n = 1
    · subst h1
      rw [if_pos (by rfl)]; rfl
    · rw [if_neg (by
        have : ((n : Int) == 1) = false := by rw [beq_eq_false_iff_ne]; omega
        rw [this]
        show ¬ (false || (1 == 0)) = true
        decide)]
      have h : ∀ (k : Nat) (a : Array Nat), ((List.replicate k (#[c] : Array Nat)).foldl (· ++ ·) a).toList = a.toList ++ List.replicate k c := by
        intro k
        induction k with
        | zero => intro a; simp
        | succ k ih => intro a; rw [List.replicate_succ, List.foldl_cons, ih, Array.toList_append]; simp [List.replicate_succ]
      show ((List.replicate ((n : Int)).toNat (#[c] : Array Nat)).foldl (· ++ ·) #[]).toList = _
      rw [h, Int.toNat_natCast]; rfl
theorem wordI_w3 (a b c : Nat) : wordI (a : Int) (b : Int) (c : Int) = w3 (a, b, c) := by
  refine str_ext ?_
  unfold wordI w3
  show (((Txt.mul (Str.ofString "a") (a : Int)).cps ++ (Txt.mul (Str.ofString "b") (b : Int)).cps) ++ (Txt.mul (Str.ofString "c") (c : Int)).cps).toList = _
  rw [Array.toList_append, Array.toList_append, show Str.ofString "a" = ⟨#[97]⟩ from rfl, show Str.ofString "b" = ⟨#[98]⟩ from rfl, show Str.ofString "c" = ⟨#[99]⟩ from rfl, mul1, mul1, mul1]

/-- what a word grows to hangs on its numbers alone -/
structure Cnts (x : Str) (t : T3) : Prop where
  len : x.length = t.1 + t.2.1 + t.2.2
  b : cnt 98 x.cps.toList = (t.2.1 : Nat)
  c : cnt 99 x.cps.toList = (t.2.2 : Nat)
theorem filter_rep (n c d : Nat) : ((List.replicate n c).filter (· == d)).length = if c = d then n else 0 := by
  by_cases h : c = d
  · subst h
    rw [if_pos rfl, List.filter_eq_self.mpr (fun a ha => by simp [(List.mem_replicate.mp ha).2]), List.length_replicate]
  · rw [if_neg h, List.filter_eq_nil_iff.mpr (fun a ha => by rw [(List.mem_replicate.mp ha).2]; simpa using h)]; rfl
theorem w3_cps (t : T3) : (w3 t).cps.toList = List.replicate t.1 97 ++ List.replicate t.2.1 98 ++ List.replicate t.2.2 99 := rfl
theorem cnts_w3 (t : T3) : Cnts (w3 t) t := by
  refine ⟨?_, ?_, ?_⟩
  · show (List.toArray _).size = _; simp; omega
  · unfold cnt; rw [w3_cps, List.filter_append, List.filter_append, List.length_append, List.length_append, filter_rep, filter_rep, filter_rep]; simp
  · unfold cnt; rw [w3_cps, List.filter_append, List.filter_append, List.length_append, List.length_append, filter_rep, filter_rep, filter_rep]; simp

noncomputable def grownAtT (t : T3) (k more last : Nat) : List T3 := if t.2.1 + more ≤ t.1 ∧ t.2.2 + last ≤ t.2.1 then [(t.1 + k - more - last, t.2.1 + more, t.2.2 + last)] else []
noncomputable def grownT (t : T3) (k : Nat) : List T3 := (List.range (k + 1)).flatMap fun more => (List.range (k + 1 - more)).flatMap (grownAtT t k more)
theorem map_flat {α β γ : Type} (f : β → γ) (g : α → List β) (l : List α) : (l.flatMap g).map f = l.flatMap fun x => (g x).map f := by
  induction l with
  | nil => rfl
  | cons x l ih => rw [List.flatMap_cons, List.map_append, ih, List.flatMap_cons]
theorem flat_congr {α β : Type} {f g : α → List β} {l : List α} (h : ∀ x ∈ l, f x = g x) : l.flatMap f = l.flatMap g := by
  induction l with
  | nil => rfl
  | cons x l ih => rw [List.flatMap_cons, List.flatMap_cons, h x (List.mem_cons_self ..), ih fun y hy => h y (List.mem_cons_of_mem _ hy)]
theorem grown_T {x : Str} {t : T3} {k : Nat} (h : Cnts x t) : grown x k = (grownT t k).map w3 := by
  unfold grown grownTo grownT
  rw [map_flat, h.len, h.b, h.c]
  refine flat_congr fun more hm => ?_
  unfold grownIn
  rw [map_flat]
  refine flat_congr fun last hl => ?_
  have hm' := List.mem_range.mp hm
  have hl' := List.mem_range.mp hl
  unfold grownAt grownAtT
  have e : (((t.1 + t.2.1 + t.2.2 : Nat) : Int) - (t.2.1 : Nat) - (t.2.2 : Nat)) = (t.1 : Nat) := by omega
  rw [e]
  by_cases hc : t.2.1 + more ≤ t.1 ∧ t.2.2 + last ≤ t.2.1
  · rw [if_pos hc, if_pos (by omega), List.map_singleton]
    congr 1
    have a1 : ((t.1 : Nat) : Int) + (k : Nat) - (more : Nat) - (last : Nat) = ((t.1 + k - more - last : Nat) : Int) := by omega
    rw [a1, ← Int.natCast_add, ← Int.natCast_add, wordI_w3]
  · rw [if_neg hc, if_neg (by omega)]; rfl

noncomputable def stepT (ts : List T3) (k : Nat) : List T3 := ts.flatMap (grownT · k)
noncomputable def runT (ts : List T3) (ks : List Nat) : List T3 := ks.foldl stepT ts
theorem step_T (ts : List T3) (k : Nat) : stepWords (ts.map w3) k = (stepT ts k).map w3 := by
  unfold stepWords stepT
  rw [map_flat, List.flatMap_map]
  exact flat_congr fun t _ => grown_T (cnts_w3 t)
theorem run_T : ∀ (ks : List Nat) (ts : List T3), runWords (ts.map w3) ks = (runT ts ks).map w3
  | [], ts => rfl
  | k :: ks, ts => by
    show runWords (stepWords (ts.map w3) k) ks = _
    rw [step_T]
    exact run_T ks (stepT ts k)
theorem run_word {y : Str} {t : T3} (h : Cnts y t) : ∀ {ks : List Nat}, ks ≠ [] → runWords [y] ks = (runT [t] ks).map w3
  | [], h0 => absurd rfl h0
  | k :: ks, _ => by
    show runWords (stepWords [y] k) ks = _
    have e : stepWords [y] k = (stepT [t] k).map w3 := by
      unfold stepWords stepT
      rw [List.flatMap_cons, List.flatMap_cons, List.flatMap_nil, List.flatMap_nil, List.append_nil, List.append_nil, grown_T h]
    rw [e]
    exact run_T ks _

noncomputable def toldAtT (ws : List (Int × Int)) (st : I3) (full low mid : Nat) : List T3 := List.replicate (toldN ws st full low mid).toNat (full - low - mid, mid, low)
noncomputable def toldT (ws : List (Int × Int)) (st : I3) (full : Nat) : List T3 := (List.range (full / 3 + 1)).flatMap fun low => (List.range ((full - low) / 2 + 1 - low)).flatMap fun i => toldAtT ws st full low (low + i)
theorem told_T (ws : List (Int × Int)) (st : I3) (full : Nat) : toldTo ws st full (full / 3 + 1) = (toldT ws st full).map w3 := by
  unfold toldTo toldT
  rw [map_flat]
  refine flat_congr fun low hl => ?_
  unfold toldIn
  rw [map_flat]
  refine flat_congr fun i hi => ?_
  have hl' := List.mem_range.mp hl
  have hi' := List.mem_range.mp hi
  unfold toldAt toldAtT
  rw [List.map_replicate]
  congr 1
  have a1 : ((full : Nat) : Int) - (low : Nat) - ((low + i : Nat) : Int) = ((full - low - (low + i) : Nat) : Int) := by omega
  rw [a1, wordI_w3]
end Mine
namespace Mine
open PySem PySem.W PySem.Challenge PySem.Calls PyProof.Rows

/-! the finite check: Kostka's numbers, by Pieri and by Jacobi and Trudi -/
noncomputable abbrev stOf (lo mi : Nat) : I3 := (((mi + 1 : Nat) : Int) + 2, ((mi : Nat) : Int) + 1, ((lo : Nat) : Int))
noncomputable abbrev t0 (lo mi : Nat) : T3 := (mi + 1, mi, lo)
noncomputable def smallT (ts : List T3) : Bool := decide (ts.length ≤ 1000) && ts.all fun t => decide (t.1 + t.2.1 + t.2.2 ≤ 100)
noncomputable def smallTo (t : T3) (ks : List Nat) : Bool := (List.range (ks.length + 1)).all fun i => smallT (runT [t] (ks.take i))
noncomputable def chk (lo mi : Nat) (ks : List Nat) (ws : List (Int × Int)) : Bool :=
  (runT [t0 lo mi] ks).isPerm (toldT ws (stOf lo mi) (mi + 1 + mi + lo + ks.sum)) && (runT [t0 lo mi] ks.reverse).isPerm (runT [t0 lo mi] ks) && smallTo (t0 lo mi) ks && smallTo (t0 lo mi) ks.reverse
noncomputable def chkW (ws : List (Int × Int)) : Bool := ws.all fun kv => decide (0 ≤ kv.2) && decide (kv.2 ≤ 150)
noncomputable def chkS (ks : List Nat) : Bool := (List.range ks.length).all fun i => decide ((shared (ks.take i)).length ≤ 1000)
noncomputable def chkK (ks : List Nat) (ws : List (Int × Int)) : Bool := chkW ws && decide (ws.length ≤ 1000) && chkS ks && chk 0 0 ks ws && chk 0 1 ks ws && chk 1 1 ks ws && chk 1 2 ks ws

noncomputable def ws0 : List (Int × Int) := [(3072, 1), (2049, 3), (2080, 3), (1026, 3), (1057, 6), (1088, 3), (3, 1), (34, 3), (65, 3), (96, 1)]
theorem sh0 : shared [1, 1, 1] = ws0 := by kernel_rfl
theorem chk0 : chkK [1, 1, 1] ws0 = true := by kernel_rfl
noncomputable def ws1 : List (Int × Int) := [(4096, 1), (3073, 3), (2050, 4), (3104, 3), (2081, 7), (2112, 4), (1027, 3), (1058, 7), (1089, 7), (1120, 3), (4, 1), (35, 3), (66, 4), (97, 3), (128, 1)]
theorem sh1 : shared [1, 1, 2] = ws1 := by kernel_rfl
theorem chk1 : chkK [1, 1, 2] ws1 = true := by kernel_rfl
noncomputable def ws2 : List (Int × Int) := [(4096, 1), (3073, 3), (3104, 3), (2050, 4), (2081, 7), (1027, 3), (1058, 7), (2112, 4), (1089, 7), (1120, 3), (4, 1), (35, 3), (66, 4), (97, 3), (128, 1)]
theorem sh2 : shared [1, 2, 1] = ws2 := by kernel_rfl
theorem chk2 : chkK [1, 2, 1] ws2 = true := by kernel_rfl
noncomputable def ws3 : List (Int × Int) := [(5120, 1), (4097, 3), (3074, 5), (4128, 3), (3105, 8), (3136, 5), (2051, 5), (2082, 11), (2113, 11), (1028, 3), (1059, 8), (1090, 11), (2144, 5), (1121, 8), (1152, 3), (5, 1), (36, 3), (67, 5), (98, 5), (129, 3), (160, 1)]
theorem sh3 : shared [1, 2, 2] = ws3 := by kernel_rfl
theorem chk3 : chkK [1, 2, 2] ws3 = true := by kernel_rfl
noncomputable def ws4 : List (Int × Int) := [(4096, 1), (3073, 3), (3104, 3), (2050, 4), (2081, 7), (2112, 4), (1027, 3), (1058, 7), (1089, 7), (4, 1), (35, 3), (66, 4), (1120, 3), (97, 3), (128, 1)]
theorem sh4 : shared [2, 1, 1] = ws4 := by kernel_rfl
theorem chk4 : chkK [2, 1, 1] ws4 = true := by kernel_rfl
noncomputable def ws5 : List (Int × Int) := [(5120, 1), (4097, 3), (3074, 5), (4128, 3), (3105, 8), (3136, 5), (2051, 5), (2082, 11), (2113, 11), (2144, 5), (1028, 3), (1059, 8), (1090, 11), (1121, 8), (5, 1), (36, 3), (67, 5), (98, 5), (1152, 3), (129, 3), (160, 1)]
theorem sh5 : shared [2, 1, 2] = ws5 := by kernel_rfl
theorem chk5 : chkK [2, 1, 2] ws5 = true := by kernel_rfl
noncomputable def ws6 : List (Int × Int) := [(5120, 1), (4097, 3), (4128, 3), (3074, 5), (3105, 8), (2051, 5), (2082, 11), (3136, 5), (2113, 11), (2144, 5), (1028, 3), (1059, 8), (1090, 11), (1121, 8), (5, 1), (36, 3), (67, 5), (98, 5), (1152, 3), (129, 3), (160, 1)]
theorem sh6 : shared [2, 2, 1] = ws6 := by kernel_rfl
theorem chk6 : chkK [2, 2, 1] ws6 = true := by kernel_rfl
noncomputable def ws7 : List (Int × Int) := [(6144, 1), (5121, 3), (4098, 6), (5152, 3), (4129, 9), (4160, 6), (3075, 7), (3106, 15), (3137, 15), (2052, 6), (2083, 15), (2114, 21), (3168, 7), (2145, 15), (2176, 6), (1029, 3), (1060, 9), (1091, 15), (1122, 15), (1153, 9), (6, 1), (37, 3), (68, 6), (99, 7), (130, 6), (1184, 3), (161, 3), (192, 1)]
theorem sh7 : shared [2, 2, 2] = ws7 := by kernel_rfl
theorem chk7 : chkK [2, 2, 2] ws7 = true := by kernel_rfl
noncomputable def ws8 : List (Int × Int) := [(5120, 1), (4097, 3), (4128, 3), (3074, 4), (3105, 7), (3136, 4), (2051, 4), (2082, 8), (2113, 8), (1028, 3), (1059, 7), (1090, 8), (5, 1), (36, 3), (67, 4), (2144, 4), (1121, 7), (98, 4), (1152, 3), (129, 3), (160, 1)]
theorem sh8 : shared [3, 1, 1] = ws8 := by kernel_rfl
theorem chk8 : chkK [3, 1, 1] ws8 = true := by kernel_rfl
noncomputable def ws9 : List (Int × Int) := [(6144, 1), (5121, 3), (4098, 5), (5152, 3), (4129, 8), (4160, 5), (3075, 6), (3106, 12), (3137, 12), (3168, 6), (2052, 5), (2083, 12), (2114, 15), (2145, 12), (1029, 3), (1060, 8), (1091, 12), (1122, 12), (6, 1), (37, 3), (68, 5), (99, 6), (2176, 5), (1153, 8), (130, 5), (1184, 3), (161, 3), (192, 1)]
theorem sh9 : shared [3, 1, 2] = ws9 := by kernel_rfl
theorem chk9 : chkK [3, 1, 2] ws9 = true := by kernel_rfl
noncomputable def ws10 : List (Int × Int) := [(6144, 1), (5121, 3), (5152, 3), (4098, 5), (4129, 8), (3075, 6), (3106, 12), (4160, 5), (3137, 12), (3168, 6), (2052, 5), (2083, 12), (2114, 15), (2145, 12), (1029, 3), (1060, 8), (1091, 12), (1122, 12), (6, 1), (37, 3), (68, 5), (99, 6), (2176, 5), (1153, 8), (130, 5), (1184, 3), (161, 3), (192, 1)]
theorem sh10 : shared [3, 2, 1] = ws10 := by kernel_rfl
theorem chk10 : chkK [3, 2, 1] ws10 = true := by kernel_rfl
noncomputable def ws11 : List (Int × Int) := [(7168, 1), (6145, 3), (5122, 6), (6176, 3), (5153, 9), (5184, 6), (4099, 8), (4130, 16), (4161, 16), (3076, 8), (3107, 19), (3138, 25), (4192, 8), (3169, 19), (3200, 8), (2053, 6), (2084, 16), (2115, 25), (2146, 25), (2177, 16), (1030, 3), (1061, 9), (1092, 16), (1123, 19), (1154, 16), (7, 1), (38, 3), (69, 6), (100, 8), (131, 8), (2208, 6), (1185, 9), (162, 6), (1216, 3), (193, 3), (224, 1)]
theorem sh11 : shared [3, 2, 2] = ws11 := by kernel_rfl
theorem chk11 : chkK [3, 2, 2] ws11 = true := by kernel_rfl
noncomputable def ws12 : List (Int × Int) := [(2048, 1), (1025, 2), (1056, 2), (2, 1), (33, 2), (64, 1)]
theorem sh12 : shared [1, 1] = ws12 := by kernel_rfl
theorem chk12 : chkK [1, 1] ws12 = true := by kernel_rfl
noncomputable def ws13 : List (Int × Int) := [(3072, 1), (2049, 2), (1026, 2), (2080, 2), (1057, 3), (1088, 2), (3, 1), (34, 2), (65, 2), (96, 1)]
theorem sh13 : shared [1, 2] = ws13 := by kernel_rfl
theorem chk13 : chkK [1, 2] ws13 = true := by kernel_rfl
noncomputable def ws14 : List (Int × Int) := [(3072, 1), (2049, 2), (2080, 2), (1026, 2), (1057, 3), (3, 1), (34, 2), (1088, 2), (65, 2), (96, 1)]
theorem sh14 : shared [2, 1] = ws14 := by kernel_rfl
theorem chk14 : chkK [2, 1] ws14 = true := by kernel_rfl
noncomputable def ws15 : List (Int × Int) := [(4096, 1), (3073, 2), (2050, 3), (3104, 2), (2081, 4), (2112, 3), (1027, 2), (1058, 4), (1089, 4), (4, 1), (35, 2), (66, 3), (1120, 2), (97, 2), (128, 1)]
theorem sh15 : shared [2, 2] = ws15 := by kernel_rfl
theorem chk15 : chkK [2, 2] ws15 = true := by kernel_rfl
noncomputable def ws16 : List (Int × Int) := [(4096, 1), (3073, 2), (3104, 2), (2050, 2), (2081, 3), (1027, 2), (1058, 3), (4, 1), (35, 2), (2112, 2), (1089, 3), (66, 2), (1120, 2), (97, 2), (128, 1)]
theorem sh16 : shared [3, 1] = ws16 := by kernel_rfl
theorem chk16 : chkK [3, 1] ws16 = true := by kernel_rfl
noncomputable def ws17 : List (Int × Int) := [(5120, 1), (4097, 2), (3074, 3), (4128, 2), (3105, 4), (3136, 3), (2051, 3), (2082, 5), (2113, 5), (1028, 2), (1059, 4), (1090, 5), (5, 1), (36, 2), (67, 3), (2144, 3), (1121, 4), (98, 3), (1152, 2), (129, 2), (160, 1)]
theorem sh17 : shared [3, 2] = ws17 := by kernel_rfl
theorem chk17 : chkK [3, 2] ws17 = true := by kernel_rfl
theorem chk_all : ∀ ks, (∃ a b c : Nat, 1 ≤ a ∧ a ≤ 3 ∧ 1 ≤ b ∧ b ≤ 2 ∧ ((1 ≤ c ∧ c ≤ 2 ∧ ks = [a, b, c]) ∨ ks = [a, b])) → chkK ks (shared ks) = true := by
  rintro ks ⟨a, b, c, a1, a3, b1, b2, h⟩
  have ha : a = 1 ∨ a = 2 ∨ a = 3 := by lia
  have hb : b = 1 ∨ b = 2 := by lia
  rcases h with ⟨c1, c2, rfl⟩ | rfl
  · have hc : c = 1 ∨ c = 2 := by lia
    rcases ha with rfl | rfl | rfl <;> rcases hb with rfl | rfl <;> rcases hc with rfl | rfl
    · rw [sh0]; exact chk0
    · rw [sh1]; exact chk1
    · rw [sh2]; exact chk2
    · rw [sh3]; exact chk3
    · rw [sh4]; exact chk4
    · rw [sh5]; exact chk5
    · rw [sh6]; exact chk6
    · rw [sh7]; exact chk7
    · rw [sh8]; exact chk8
    · rw [sh9]; exact chk9
    · rw [sh10]; exact chk10
    · rw [sh11]; exact chk11
  · rcases ha with rfl | rfl | rfl <;> rcases hb with rfl | rfl
    · rw [sh12]; exact chk12
    · rw [sh13]; exact chk13
    · rw [sh14]; exact chk14
    · rw [sh15]; exact chk15
    · rw [sh16]; exact chk16
    · rw [sh17]; exact chk17
end Mine
namespace Mine
open PySem PySem.W PySem.Challenge PySem.Calls PyProof.Rows

theorem getI_bound {ws : List (Int × Int)} (h : chkW ws = true) (k : Int) : 0 ≤ (getI ws k).getD 0 ∧ (getI ws k).getD 0 ≤ 150 := by
  unfold getI
  cases e : ws.find? fun kv => decide (kv.1 = k) with
  | none => simp
  | some kv =>
    have := List.all_eq_true.mp h kv (List.mem_of_find?_eq_some e)
    simp only [Bool.and_eq_true, decide_eq_true_eq] at this
    simpa using this
theorem oftenAt_bound {ws : List (Int × Int)} (h : chkW ws = true) (g : I3) {sg tot : Int} (hs : sg = 1 ∨ sg = -1) (o : I3) : tot - 150 ≤ oftenAt ws g sg tot o := by
  unfold oftenAt
  split
  · have := getI_bound h (1024 * (g.1 - o.1) + 32 * (g.2.1 - o.2.1) + (g.2.2 - o.2.2))
    rcases hs with rfl | rfl <;> lia
  · lia
theorem oftenIn_bound {ws : List (Int × Int)} (h : chkW ws = true) (g : I3) {sg : Int} (hs : sg = 1 ∨ sg = -1) : ∀ (os : List I3) (tot : Int), tot - 150 * os.length ≤ oftenIn ws g sg os tot
  | [], tot => by simp [oftenIn]
  | o :: os, tot => by
    have a := oftenAt_bound h g (tot := tot) hs o
    have b := oftenIn_bound h g hs os (oftenAt ws g sg tot o)
    have e : oftenIn ws g sg (o :: os) tot = oftenIn ws g sg os (oftenAt ws g sg tot o) := rfl
    rw [e, List.length_cons]; lia
theorem often_bound {ws : List (Int × Int)} (h : chkW ws = true) (g st : I3) : -1000 ≤ often ws g st := by
  unfold often
  have a := oftenIn_bound h g (sg := 1) (.inl rfl) (evenL st.1 st.2.1 st.2.2) 0
  have b := oftenIn_bound h g (sg := -1) (.inr rfl) (oddL st.1 st.2.1 st.2.2) (oftenIn ws g 1 (evenL st.1 st.2.1 st.2.2) 0)
  have e1 : (evenL st.1 st.2.1 st.2.2).length = 3 := rfl
  have e2 : (oddL st.1 st.2.1 st.2.2).length = 3 := rfl
  rw [e1] at a
  rw [e2] at b
  lia

theorem w3_len (t : T3) : (w3 t).length = t.1 + t.2.1 + t.2.2 := (cnts_w3 t).len
theorem small_T {ts : List T3} (h : smallT ts = true) : Small (ts.map w3) := by
  unfold smallT at h
  simp only [Bool.and_eq_true, decide_eq_true_eq, List.all_eq_true] at h
  refine ⟨by rw [List.length_map]; exact h.1, fun x hx => ?_⟩
  obtain ⟨t, ht, rfl⟩ := List.mem_map.mp hx
  rw [w3_len]; exact h.2 t ht
theorem small_to {y : Str} {t : T3} {ks : List Nat} (hy : Cnts y t) (h : smallTo t ks = true) : ∀ i, i ≤ ks.length → Small (runWords [y] (ks.take i)) := by
  intro i hi
  have hT := List.all_eq_true.mp h i (List.mem_range.mpr (by lia))
  by_cases h0 : ks.take i = []
  · rw [h0] at hT ⊢
    have := small_T hT
    show Small [y]
    refine ⟨by simp, fun x hx => ?_⟩
    rw [List.mem_singleton.mp hx, hy.len, ← w3_len]
    exact this.2 _ (by simp [runT])
  · rw [run_word hy h0]; exact small_T hT

/-- what the law asks of a word's numbers and of sizes, without the program -/
structure LawOK (lo mi : Nat) (ks : List Nat) : Prop where
  sh : ∀ i, i ≤ ks.length → (shared (ks.take i)).length ≤ 1000
  of : ∀ low mid, -1000 ≤ toldN (shared ks) (stOf lo mi) (mi + 1 + mi + lo + ks.sum) low mid
  tl : (toldT (shared ks) (stOf lo mi) (mi + 1 + mi + lo + ks.sum)).length ≤ 1000
  p1 : (runT [t0 lo mi] ks).Perm (toldT (shared ks) (stOf lo mi) (mi + 1 + mi + lo + ks.sum))
  p2 : (runT [t0 lo mi] ks.reverse).Perm (runT [t0 lo mi] ks)
  s1 : smallTo (t0 lo mi) ks = true
  s2 : smallTo (t0 lo mi) ks.reverse = true
theorem lawOK_of {lo mi : Nat} {ks : List Nat} (h : chk lo mi ks (shared ks) = true) (hw : chkW (shared ks) = true) (hs : chkS ks = true) (hl : (shared ks).length ≤ 1000) : LawOK lo mi ks := by
  unfold chk at h
  simp only [Bool.and_eq_true] at h
  obtain ⟨⟨⟨h1, h2⟩, h3⟩, h4⟩ := h
  have p1 := List.isPerm_iff.mp h1
  have p2 := List.isPerm_iff.mp h2
  refine ⟨fun i hi => ?_, fun low mid => often_bound hw _ _, ?_, p1, p2, h3, h4⟩
  · rcases Nat.lt_or_ge i ks.length with h | h
    · exact of_decide_eq_true (List.all_eq_true.mp hs i (List.mem_range.mpr h))
    · rw [List.take_of_length_le h]; exact hl
  · rw [← p1.length_eq]
    have := List.all_eq_true.mp h3 ks.length (List.mem_range.mpr (by lia))
    rw [List.take_length] at this
    unfold smallT at this
    simp only [Bool.and_eq_true, decide_eq_true_eq] at this
    exact this.1
theorem lawOK {lo mi : Nat} {ks : List Nat} (h1 : lo < 2) (h2 : lo ≤ mi) (h3 : mi < lo + 2) (h : ∃ a b c : Nat, 1 ≤ a ∧ a ≤ 3 ∧ 1 ≤ b ∧ b ≤ 2 ∧ ((1 ≤ c ∧ c ≤ 2 ∧ ks = [a, b, c]) ∨ ks = [a, b])) : LawOK lo mi ks := by
  have hk := chk_all ks h
  unfold chkK at hk
  simp only [Bool.and_eq_true, decide_eq_true_eq] at hk
  obtain ⟨⟨⟨⟨⟨⟨hw, hl⟩, hs⟩, c1⟩, c2⟩, c3⟩, c4⟩ := hk
  have : (lo = 0 ∧ mi = 0) ∨ (lo = 0 ∧ mi = 1) ∨ (lo = 1 ∧ mi = 1) ∨ (lo = 1 ∧ mi = 2) := by lia
  rcases this with ⟨rfl, rfl⟩ | ⟨rfl, rfl⟩ | ⟨rfl, rfl⟩ | ⟨rfl, rfl⟩
  · exact lawOK_of c1 hw hs hl
  · exact lawOK_of c2 hw hs hl
  · exact lawOK_of c3 hw hs hl
  · exact lawOK_of c4 hw hs hl
end Mine
namespace Mine
open PySem PySem.W PySem.Challenge PySem.Calls PyProof.Rows

/-- the sort's run on these words -/
noncomputable def RunOK (w : World) (ws : List Str) : Prop := ∀ (vs : List Value) (A : Around) (E : Value → Shared → Prop) (s : Shared) (Q : Unit × SortSt → Shared → Prop), StrsAre vs ws → 2 ≤ vs.length →
  (∀ st' h', h'.objs.size = s.heap.objs.size → (∀ b o, s.heap.get? b = some o → h'.get? b = some o) → failedOf st' = none → (arrOf st').size = vs.length →
    (∃ ss', StrsAre ((arrOf st').map (·.2)).toList ss' ∧ ss'.Perm ws ∧ sortedS ss' = true) → Q ((), st') { s with heap := h' }) →
  wpAny (model pw w) A (sortRuns' (SortSt.mk' oneType' (vs.toArray.zip vs.toArray) #[] 7 none)) Q E s

theorem run_small {w : World} {ws : List Str} (h64 : ws.length < 64) : RunOK w ws := by
  intro vs A E s Q hS h2 h
  have hl := hS.len_eq
  refine wpAny_mono (wpS_sortRunsK (κ := strKind) strKind_oneLt (a₀ := pairsOf vs) (Q := fun _ st' => (arrOf st').Perm (pairsOf vs) ∧ failedOf st' = none ∧ SortedToK strKind (arrOf st') (pairsOf vs).size)
    hS.keysOf ⟨Array.Perm.refl _, rfl, rfl, rfl⟩ (by rw [pairsOf_size]; exact h2) (by rw [pairsOf_size]; lia) fun st' a1 a2 a3 => ⟨a1, a2, a3⟩) ?_ fun _ _ e => e
  rintro ⟨⟨⟩, st'⟩ s' ⟨rfl, hp, hf, hs⟩
  exact h st' s'.heap rfl (fun _ _ e => e) hf (by rw [hp.size_eq, pairsOf_size]) (sorted_out_str hS hp hs)

section
variable {w : World} {A : Around} {E : Value → Shared → Prop} {s : Shared}

theorem few_sorted {vs : List Value} {ws : List Str} (hS : StrsAre vs ws) (h2 : ¬ 2 ≤ vs.length) : ∃ ss', StrsAre (((vs.toArray.zip vs.toArray)).map (·.2)).toList ss' ∧ ss'.Perm ws ∧ sortedS ss' = true := by
  refine ⟨ws, ?_, .refl _, ?_⟩
  · have : ((vs.toArray.zip vs.toArray).map (·.2)).toList = vs := by
      have e := pairsOf_toList vs
      unfold pairsOf at e
      rw [Array.toList_map, e, List.map_snd_zip (Nat.le_refl _)]
    rw [this]; exact hS
  · have := hS.len_eq
    match ws, this with
    | [], _ => rfl
    | [_], _ => rfl
    | _ :: _ :: _, e => simp at e; lia

theorem strs_kind {vs : List Value} {ws : List Str} (hS : StrsAre vs ws) (h2 : 2 ≤ vs.length) : keyKind' vs.toArray = pure oneType' := by
  match vs, h2 with
  | [], h => simp at h
  | [_], h => simp at h
  | v₁ :: v₂ :: rest, _ => exact keyKind_strs hS

/-- list.sort() on words -/
theorem sortTree {a : Addr} {vs : List Value} {ws : List Str} {n : Nat} {P : PySem.Fin → Shared → Prop} (hrun : RunOK w ws) (hS : StrsAre vs ws) (hl : vs.length ≤ 1000) (ho : s.heap.get? a = some (seqObj "list" vs.toArray n))
    (h : ∀ h' ys ss e, (∀ b o, b ≠ a → s.heap.get? b = some o → h'.get? b = some o) → h'.get? a = some (seqObj "list" ys e) → StrsAre ys.toList ss → ss.Perm ws → sortedS ss = true → P (.done (.ret .none)) { s with heap := h' }) :
    wpAny (model pw w) A (Builtin.«list.sort» ⟨[.ref a], []⟩) P E s := by
  rw [list_sort_plain]
  have ha : a < s.heap.objs.size := Heap.lt_size ho
  have hsz : vs.toArray.size = vs.length := by simp
  refine wpAny_bind (listItems_at ho rfl ?_)
  refine wpAny_bind (listUpdate_at ho rfl ?_ (by rw [hsz, sizeLine_eq]; lia) (Nat.zero_le _))
  obtain ⟨e1, ho1⟩ : ∃ e1, (s.heap.update a (Obj.mapSeq fun _ => #[])).get? a = some (seqObj "list" #[] e1) := ⟨_, get?_update_seq ho (fun _ => #[])⟩
  refine wpAny_bind (seqEpoch_at ho1 rfl ?_)
  refine wpAny_bind (wpAny_newTuple ?_ (by show vs.length ≤ _; rw [sizeLine_eq]; lia))
  refine wpAny_bind (wpAny_newList ?_ (Nat.zero_le _))
  refine wpAny_holding ?_
  obtain ⟨g, hg⟩ : ∃ g, ((s.heap.update a (Obj.mapSeq fun _ => #[])).push (seqObj "tuple" vs.toArray 0)).push (seqObj "list" #[] 0) = g := ⟨_, rfl⟩
  have ho6 : g.get? a = some (seqObj "list" #[] e1) := by
    rw [← hg]; exact Heap.get?_push_of_some _ (Heap.get?_push_of_some _ ho1)
  have kg : ∀ b o, b ≠ a → s.heap.get? b = some o → g.get? b = some o := fun b o hb e => by
    rw [← hg]; exact Heap.get?_push_of_some _ (Heap.get?_push_of_some _ ((Heap.get?_update_ne _ _ _ _ hb).trans e))
  show wpAny (model pw w) A _ P E { s with heap := ((s.heap.update a (Obj.mapSeq fun _ => #[])).push (seqObj "tuple" vs.toArray 0)).push (seqObj "list" #[] 0) }
  rw [hg]
  dsimp only
  have fin : ∀ (st' : SortSt) (h' : Heap), (∀ b o, g.get? b = some o → h'.get? b = some o) → failedOf st' = none → (arrOf st').size = vs.length → (∃ ss', StrsAre ((arrOf st').map (·.2)).toList ss' ∧ ss'.Perm ws ∧ sortedS ss' = true) →
      wpAny (model pw w) A (do
        let touched := (← seqEpoch a) != e1
        Builtin.List.listUpdate (.ref a) fun _ => (arrOf st').map (·.2)
        if let some e := failedOf st' then rule "list.sort.comparison-raised"; throw e
        if touched then rule "list.sort.modified"; raiseError "ValueError" "list modified during sort"
        ret .none) P E { s with heap := h' } := by
    rintro st' h' k hf hz ⟨ss, o1, o2, o3⟩
    have ho7 := k _ _ ho6
    refine wpAny_bind (seqEpoch_at ho7 rfl ?_)
    refine wpAny_bind (listUpdate_at ho7 rfl ?_ (Nat.zero_le _) (by rw [Array.size_map, hz, sizeLine_eq]; lia))
    rw [hf]
    simp only [bne_self_eq_false, Bool.false_eq_true, if_false]
    exact wpAny_pure (h _ _ ss _ (fun b o hb e => (Heap.get?_update_ne _ _ _ _ hb).trans (k _ _ (kg b o hb e))) (get?_update_seq ho7 fun _ => (arrOf st').map (·.2)) o1 o2 o3)
  by_cases h2 : vs.toArray.size < 2
  · rw [if_pos h2, if_pos h2]
    refine wpAny_bind (wpAny_pure ?_)
    rw [StateT.run_pure]
    refine wpAny_bind (wpAny_pure ?_)
    exact fin (SortSt.mk' general' (vs.toArray.zip vs.toArray) #[] 7 none) g (fun _ _ e => e) rfl (by show (pairsOf vs).size = _; exact pairsOf_size vs) (few_sorted hS (by lia))
  · rw [if_neg h2, if_neg h2]
    rw [strs_kind hS (by lia)]
    refine wpAny_bind (wpAny_pure ?_)
    refine wpAny_bind (hrun vs A E _ _ hS (by lia) fun st' h' _ k hf hz ho => ?_)
    exact fin st' h' k hf hz ho

theorem sorts_of {ws : List Str} (hrun : RunOK w ws) (hlen : ws.length ≤ 1000) : Sorts w ws := by
  intro A E s Q l vs T hh PL hS h
  have hvl : vs.length ≤ 1000 := by have := hS.len_eq; lia
  refine Calls.call_function_entry kind_sorted plain_sorted entry_sorted (args_sorted1 _) ?_
  unfold Builtin.«sorted»
  refine wpAny_bind (m := checkCount "sorted" 1 1 _) (wpAny_pure ?_)
  refine wpAny_bind (collect_list PL.isList ?_ (by rw [sizeLine_eq]; lia))
  refine wpAny_bind (wpAny_newList ?_ (by rw [sizeLine_eq]; lia))
  have hsz : ((s.heap.push (seqObj "list" #[] 0)).update s.heap.objs.size (Obj.mapSeq (· ++ vs.toArray))).objs.size = s.heap.objs.size + 1 := by
    rw [Heap.size_update, size_push']
  have hoL : (((s.heap.push (seqObj "list" #[] 0)).update s.heap.objs.size (Obj.mapSeq (· ++ vs.toArray))).push (seqObj "list" vs.toArray 0)).get? (s.heap.objs.size + 1) = some (seqObj "list" vs.toArray 0) := by
    rw [← hsz]; exact Heap.get?_push_size _ rfl
  have keep : ∀ b o, s.heap.get? b = some o → (((s.heap.push (seqObj "list" #[] 0)).update s.heap.objs.size (Obj.mapSeq (· ++ vs.toArray))).push (seqObj "list" vs.toArray 0)).get? b = some o := fun b o q => by
    have hlt : b < s.heap.objs.size := Heap.lt_size q
    rw [Heap.get?_push_ne _ _ _ (by rw [hsz]; exact Nat.ne_of_lt (Nat.lt_succ_of_lt hlt)), Heap.get?_update_ne _ _ _ _ (Nat.ne_of_lt hlt), Heap.get?_push_ne _ _ _ (Nat.ne_of_lt hlt)]
    exact q
  show wpAny _ _ _ _ _ { s with heap := ((s.heap.push (seqObj "list" #[] 0)).update s.heap.objs.size (Obj.mapSeq (· ++ vs.toArray))).push (seqObj "list" vs.toArray 0) }
  rw [hsz]
  refine wpAny_bind (wpAny_holding (wpAny_call_entry slot_list_sort ⟨_, hoL, rfl⟩ entry_list_sort (sortTree hrun hS hvl hoL fun h' ys ss e k o1 o2 o3 o4 => ⟨_, rfl, ?_⟩) (args_list_sort _)))
  exact wpAny_pure ⟨_, rfl, h h' _ _ ys ss (fun b o q => k b o (Nat.ne_of_lt (Nat.lt_succ_of_lt (Heap.lt_size q))) (keep b o q)) (gone_of_size (Nat.le_succ _)) ⟨_, _, o1, rfl, rfl, rfl⟩ o2 o3 o4⟩
end
end Mine
namespace Mine
open PySem PySem.W PySem.Challenge PySem.Calls PyProof.Rows

/-! a quicker way to move one item down an array -/
section
variable {α : Type}
noncomputable def atL (d : Nat) : List α → Option α :=
  @Nat.rec (fun _ => List α → Option α) (fun l => @List.rec α (fun _ => Option α) none (fun a _ _ => some a) l) (fun _ ih l => @List.rec α (fun _ => Option α) none (fun _ t _ => ih t) l) d
noncomputable def delL (d : Nat) : List α → List α :=
  @Nat.rec (fun _ => List α → List α) (fun l => @List.rec α (fun _ => List α) [] (fun _ t _ => t) l) (fun _ ih l => @List.rec α (fun _ => List α) [] (fun a t _ => a :: ih t) l) d
noncomputable def pullL (d : Nat) (l : List α) : List α := @Option.rec α (fun _ => List α) l (fun a => a :: delL d l) (atL d l)
noncomputable def mvL (d p : Nat) : List α → List α :=
  @Nat.rec (fun _ => List α → List α) (pullL d) (fun _ ih l => @List.rec α (fun _ => List α) [] (fun a t _ => a :: ih t) l) p
noncomputable def lenR (l : List α) : Nat := @List.rec α (fun _ => Nat) 0 (fun _ _ n => Nat.succ n) l
theorem lenR_eq : ∀ l : List α, lenR l = l.length
  | [] => rfl
  | _ :: t => congrArg Nat.succ (lenR_eq t)
theorem atL_eq : ∀ (d : Nat) (l : List α), atL d l = l[d]?
  | 0, [] => rfl
  | 0, _ :: _ => rfl
  | _ + 1, [] => rfl
  | d + 1, _ :: t => (atL_eq d t).trans (List.getElem?_cons_succ ..).symm
theorem delL_get : ∀ (d : Nat) (l : List α) (k : Nat), (delL d l)[k]? = if k < d then l[k]? else l[k + 1]?
  | 0, [], k => by show ([] : List α)[k]? = _; simp
  | 0, _ :: t, k => by show t[k]? = _; simp
  | d + 1, [], k => by show ([] : List α)[k]? = _; simp
  | d + 1, a :: t, 0 => by show (a :: delL d t)[0]? = _; simp
  | d + 1, a :: t, k + 1 => by
    show (a :: delL d t)[k + 1]? = _
    rw [List.getElem?_cons_succ, delL_get d t k]
    simp only [List.getElem?_cons_succ, Nat.add_lt_add_iff_right]
theorem mvL_get (d : Nat) : ∀ (p : Nat) (l : List α), p + d < l.length → ∀ k, (mvL d p l)[k]? = if k = p then l[p + d]? else if p < k ∧ k ≤ p + d then l[k - 1]? else l[k]?
  | 0, l, h, k => by
    have e : atL d l = some l[d] := (atL_eq d l).trans (List.getElem?_eq_getElem (by lia))
    have : mvL d 0 l = l[d] :: delL d l := by show pullL d l = _; unfold pullL; rw [e]
    rw [this]
    cases k with
    | zero => rw [if_pos rfl, Nat.zero_add]; exact (List.getElem?_eq_getElem (by lia)).symm
    | succ k =>
      rw [List.getElem?_cons_succ, delL_get, if_neg (show ¬ k + 1 = 0 from Nat.succ_ne_zero k)]
      by_cases hk : k < d
      · rw [if_pos hk, if_pos (show 0 < k + 1 ∧ k + 1 ≤ 0 + d from ⟨by lia, by lia⟩)]; rfl
      · rw [if_neg hk, if_neg (show ¬ (0 < k + 1 ∧ k + 1 ≤ 0 + d) by lia)]
  | p + 1, [], h, k => by simp at h
  | p + 1, a :: t, h, k => by
    show (a :: mvL d p t)[k]? = _
    cases k with
    | zero => rw [if_neg (show ¬ (0 = p + 1) by lia), if_neg (show ¬ (p + 1 < 0 ∧ 0 ≤ p + 1 + d) by lia)]; rfl
    | succ k =>
      have h' : p + d < t.length := by rw [List.length_cons] at h; lia
      rw [List.getElem?_cons_succ, mvL_get d p t h' k]
      by_cases e1 : k = p
      · rw [if_pos e1, if_pos (show k + 1 = p + 1 by lia), show p + 1 + d = (p + d) + 1 by lia, List.getElem?_cons_succ]
      · rw [if_neg e1, if_neg (show ¬ k + 1 = p + 1 by lia)]
        by_cases e2 : p < k ∧ k ≤ p + d
        · rw [if_pos e2, if_pos (show p + 1 < k + 1 ∧ k + 1 ≤ p + 1 + d by lia)]
          obtain ⟨j, rfl⟩ : ∃ j, k = j + 1 := ⟨k - 1, by lia⟩
          rfl
        · rw [if_neg e2, if_neg (show ¬ (p + 1 < k + 1 ∧ k + 1 ≤ p + 1 + d) by lia), List.getElem?_cons_succ]
noncomputable def fastB (xs : Array α) (src d : Nat) : Array α :=
  @Bool.rec (fun _ => Array α) (bubble xs src d) ⟨mvL d (Nat.sub src d) xs.toList⟩ (and (Nat.blt src (lenR xs.toList)) (Nat.ble d src))
theorem bubble_fast (xs : Array α) (src d : Nat) : bubble xs src d = fastB xs src d := by
  unfold fastB
  cases h : and (Nat.blt src (lenR xs.toList)) (Nat.ble d src) with
  | false => rfl
  | true =>
    obtain ⟨h1, h2⟩ := Bool.and_eq_true_iff.mp h
    have h1 : src < xs.size := by have := Nat.le_of_ble_eq_true h1; rw [lenR_eq, Array.length_toList] at this; exact this
    have h2 : d ≤ src := Nat.le_of_ble_eq_true h2
    apply Array.ext_getElem?
    intro k
    have e : Nat.sub src d = src - d := rfl
    show (bubble xs src d)[k]? = (⟨mvL d (Nat.sub src d) xs.toList⟩ : Array α)[k]?
    rw [← Array.getElem?_toList (xs := ⟨mvL d (Nat.sub src d) xs.toList⟩)]
    show (bubble xs src d)[k]? = (mvL d (Nat.sub src d) xs.toList)[k]?
    rw [getElem?_bubble h1 d h2 k, e, mvL_get d (src - d) xs.toList (by rw [Nat.sub_add_cancel h2]; simpa using h1) k, Nat.sub_add_cancel h2]
    simp only [Array.getElem?_toList]
end
noncomputable abbrev mvQ := PySem.W.Fast.tw5782554851095826675
noncomputable def mvM (src dst : Nat) : StateT SortSt Sem Unit := modify fun s => setArr s (fastB (arrOf s) src (src - dst))
theorem mv_eq : PySem.W.Fast.tw5782554851095826675 = mvM := by
  funext src dst
  unfold mvM
  simp only [← bubble_fast]
  unfold bubble
  rw [PySem.W.R.foldlR_eq]
  rfl
noncomputable def ltName : Str := ⟨#[95, 95, 108, 116, 95, 95]⟩
theorem askLt (a : Str) (t : Tok) : PySem.W.Fast.tw4429936409751238260 (.str a t) ltName = Sem.ask fun S => if S.params.followText "special-get-raises" = true then Sem.pure (some (.builtin "str.__lt__", [.str a t])) else Sem.pure (some (.builtin "str.__lt__", [.str a t])) := by kernel_rfl
/-- what "special-get-raises" says is all one where a str is asked for its "<" -/
noncomputable def bindM (self : Value) (name : Str) : Sem (Option (Value × List Value)) :=
  @Value.rec (fun _ => Sem (Option (Value × List Value)) → Sem (Option (Value × List Value))) (fun x => x) (fun x => x) (fun x => x) (fun _ x => x) (fun _ _ x => x) (fun _ _ x => x)
    (fun a t x => @Bool.rec (fun _ => Sem (Option (Value × List Value))) x (Sem.ask fun _ => Sem.pure (some (.builtin "str.__lt__", [.str a t]))) (PySem.W.Fast.sEq name ltName))
    (fun _ _ x => x) (fun _ x => x) (fun _ x => x) (fun _ x => x) self (PySem.W.Fast.tw4429936409751238260 self name)
theorem bindM_eq : PySem.W.Fast.tw4429936409751238260 = bindM := by
  funext self name
  cases self <;> try rfl
  rename_i a t
  show _ = @Bool.rec (fun _ => Sem (Option (Value × List Value))) (PySem.W.Fast.tw4429936409751238260 (.str a t) name) _ (PySem.W.Fast.sEq name ltName)
  cases h : PySem.W.Fast.sEq name ltName with
  | false => rfl
  | true =>
    rw [PySem.W.Fast.sEq_iff.mp h, askLt]
    simp only [ite_self]
noncomputable def callM : { f // @PySem.W.Fast.tw5748314443788414978 = f } := ⟨_, by delta PySem.W.Fast.tw5748314443788414978; rw [bindM_eq]⟩
noncomputable def oneM : { f // @PySem.W.Fast.tw15207852478015749690 = f } := ⟨_, by delta PySem.W.Fast.tw15207852478015749690; rw [callM.2]⟩
noncomputable def keyM : { f // @PySem.W.Fast.tw7819805574551732078 = f } := ⟨_, by delta PySem.W.Fast.tw7819805574551732078; rw [oneM.2]⟩
noncomputable def ltM : { f // @PySem.W.Fast.tw5462128846355204966 = f } := ⟨_, by delta PySem.W.Fast.tw5462128846355204966; rw [keyM.2]⟩
noncomputable def ltAtM : { f // @PySem.W.Fast.tw14042255254960490546 = f } := ⟨_, by delta PySem.W.Fast.tw14042255254960490546; rw [ltM.2]⟩
noncomputable def gallM : { f // @PySem.W.Fast.tw8001965791261037382 = f } := ⟨_, by delta PySem.W.Fast.tw8001965791261037382; rw [ltM.2]⟩
noncomputable def loM : { f // @PySem.W.Fast.tw17852939151971871240 = f } := ⟨_, by delta PySem.W.Fast.tw17852939151971871240; rw [ltM.2, gallM.2]⟩
noncomputable def hiM : { f // @PySem.W.Fast.tw11371033205705349026 = f } := ⟨_, by delta PySem.W.Fast.tw11371033205705349026; rw [ltM.2, gallM.2]⟩
noncomputable def mergeM : { f // @PySem.W.Fast.tw6096456617080501612 = f } := ⟨_, by delta PySem.W.Fast.tw6096456617080501612; rw [gallM.2, loM.2, hiM.2]⟩
noncomputable def countM : { f // @PySem.W.Fast.tw12500827347247293237 = f } := ⟨_, by delta PySem.W.Fast.tw12500827347247293237; rw [ltAtM.2]⟩
noncomputable def binM : { f // @PySem.W.Fast.tw5167453381951530140 = f } := ⟨_, by delta PySem.W.Fast.tw5167453381951530140; rw [ltAtM.2, mv_eq]⟩
noncomputable def sortM : { f // @PySem.W.Fast.tw4290711937041736156 = f } := ⟨_, by delta PySem.W.Fast.tw4290711937041736156; rw [countM.2, mergeM.2, binM.2]⟩

/-! the sort's run on lists of 81 words -/
noncomputable def vsOf (ws : List T3) (u : Nat → Tok) : List Value := ws.zipIdx.map fun p => Value.str (w3 p.1) (u p.2)
noncomputable def kvOf (ws : List T3) (u : Nat → Tok) (i : Nat) : Value := Value.str (w3 (ws.getD i (0, 0, 0))) (u i)
theorem sortQ_eq : sortRuns' = sortM.1 := (PySem.W.Fast.te4290711937041736156).trans sortM.2
noncomputable abbrev St0 (vs : List Value) : SortSt := SortSt.mk' oneType' (vs.toArray.zip vs.toArray) #[] 7 none
noncomputable def outOf (r : Option (Except Value (Unit × SortSt) × Pos × KS)) : Option (Array Keyed × Option Value × Nat × Nat) :=
  @Option.rec (Except Value (Unit × SortSt) × Pos × KS) (fun _ => Option (Array Keyed × Option Value × Nat × Nat)) none (fun x => @Except.rec Value (Unit × SortSt) (fun _ => Option (Array Keyed × Option Value × Nat × Nat)) (fun _ => none) (fun a => some (arrOf a.2, failedOf a.2, x.2.2.n, x.2.2.toks)) x.1) r
noncomputable abbrev outL (ws : List T3) (u : Nat → Tok) (ps : List Nat) : Array Keyed := (ps.map fun i => (kvOf ws u i, kvOf ws u i)).toArray

noncomputable def seq0 : List T3 := [(9, 1, 0), (8, 1, 1), (8, 2, 0), (7, 2, 1), (7, 3, 0), (8, 1, 1), (7, 2, 1), (6, 3, 1), (8, 2, 0), (7, 2, 1), (6, 2, 2), (7, 3, 0), (6, 3, 1), (6, 4, 0), (7, 2, 1), (6, 2, 2), (6, 3, 1), (5, 3, 2), (5, 4, 1), (7, 3, 0), (6, 3, 1), (5, 3, 2), (6, 4, 0), (5, 4, 1), (5, 5, 0), (8, 1, 1), (7, 2, 1), (6, 3, 1), (7, 2, 1), (6, 2, 2), (6, 3, 1), (5, 3, 2), (5, 4, 1), (6, 3, 1), (5, 3, 2), (4, 3, 3), (5, 4, 1), (4, 4, 2), (8, 2, 0), (7, 2, 1), (6, 2, 2), (7, 3, 0), (6, 3, 1), (6, 4, 0), (7, 2, 1), (6, 2, 2), (6, 3, 1), (5, 3, 2), (5, 4, 1), (6, 2, 2), (5, 3, 2), (4, 4, 2), (7, 3, 0), (6, 3, 1), (5, 3, 2), (6, 4, 0), (5, 4, 1), (5, 5, 0), (6, 3, 1), (5, 3, 2), (4, 3, 3), (5, 4, 1), (4, 4, 2), (6, 4, 0), (5, 4, 1), (4, 4, 2), (7, 2, 1), (6, 2, 2), (6, 3, 1), (5, 3, 2), (5, 4, 1), (6, 2, 2), (5, 3, 2), (4, 4, 2), (6, 3, 1), (5, 3, 2), (4, 3, 3), (5, 4, 1), (4, 4, 2), (5, 3, 2), (4, 3, 3)]
noncomputable def perm0 : List Nat := [0, 2, 8, 38, 1, 5, 25, 4, 11, 19, 41, 52, 3, 6, 9, 14, 26, 28, 39, 44, 66, 13, 22, 43, 55, 63, 7, 12, 16, 20, 27, 30, 33, 42, 46, 53, 58, 68, 74, 10, 15, 29, 40, 45, 49, 67, 71, 24, 57, 18, 23, 32, 36, 48, 56, 61, 64, 70, 77, 17, 21, 31, 34, 47, 50, 54, 59, 69, 72, 75, 79, 37, 51, 62, 65, 73, 78, 35, 60, 76, 80]
theorem run0 (w : World) (Γ : Ctx) (p : Pos) (n tk : Nat) (u : Nat → Tok) :
    outOf (exe (S0 w) (rcQ w) Γ (sortM.1 (St0 (vsOf seq0 u))) p ⟨.nil, n, tk⟩) = some (outL seq0 u perm0, none, n, tk) := by kernel_rfl
noncomputable def seq1 : List T3 := [(9, 1, 0), (8, 1, 1), (8, 2, 0), (7, 2, 1), (7, 3, 0), (6, 3, 1), (6, 4, 0), (8, 1, 1), (7, 2, 1), (6, 3, 1), (5, 4, 1), (8, 2, 0), (7, 2, 1), (6, 2, 2), (7, 3, 0), (6, 3, 1), (5, 3, 2), (6, 4, 0), (5, 4, 1), (5, 5, 0), (7, 2, 1), (6, 2, 2), (6, 3, 1), (5, 3, 2), (5, 4, 1), (4, 4, 2), (7, 3, 0), (6, 3, 1), (5, 3, 2), (4, 3, 3), (6, 4, 0), (5, 4, 1), (4, 4, 2), (8, 1, 1), (7, 2, 1), (6, 3, 1), (5, 4, 1), (7, 2, 1), (6, 2, 2), (6, 3, 1), (5, 3, 2), (5, 4, 1), (4, 4, 2), (6, 3, 1), (5, 3, 2), (4, 3, 3), (8, 2, 0), (7, 2, 1), (6, 2, 2), (7, 3, 0), (6, 3, 1), (5, 3, 2), (6, 4, 0), (5, 4, 1), (5, 5, 0), (7, 2, 1), (6, 2, 2), (6, 3, 1), (5, 3, 2), (5, 4, 1), (4, 4, 2), (6, 2, 2), (5, 3, 2), (7, 3, 0), (6, 3, 1), (5, 3, 2), (4, 3, 3), (6, 4, 0), (5, 4, 1), (4, 4, 2), (6, 3, 1), (5, 3, 2), (4, 3, 3), (7, 2, 1), (6, 2, 2), (6, 3, 1), (5, 3, 2), (5, 4, 1), (4, 4, 2), (6, 2, 2), (5, 3, 2)]
noncomputable def perm1 : List Nat := [0, 2, 11, 46, 1, 7, 33, 4, 14, 26, 49, 63, 3, 8, 12, 20, 34, 37, 47, 55, 73, 6, 17, 30, 52, 67, 5, 9, 15, 22, 27, 35, 39, 43, 50, 57, 64, 70, 75, 13, 21, 38, 48, 56, 61, 74, 79, 19, 54, 10, 18, 24, 31, 36, 41, 53, 59, 68, 77, 16, 23, 28, 40, 44, 51, 58, 62, 65, 71, 76, 80, 25, 32, 42, 60, 69, 78, 29, 45, 66, 72]
theorem run1 (w : World) (Γ : Ctx) (p : Pos) (n tk : Nat) (u : Nat → Tok) :
    outOf (exe (S0 w) (rcQ w) Γ (sortM.1 (St0 (vsOf seq1 u))) p ⟨.nil, n, tk⟩) = some (outL seq1 u perm1, none, n, tk) := by kernel_rfl
noncomputable def seq2 : List T3 := [(9, 1, 0), (8, 2, 0), (8, 2, 0), (8, 2, 0), (7, 3, 0), (7, 3, 0), (7, 3, 0), (7, 3, 0), (7, 3, 0), (6, 4, 0), (6, 4, 0), (6, 4, 0), (6, 4, 0), (6, 4, 0), (5, 5, 0), (5, 5, 0), (8, 1, 1), (8, 1, 1), (8, 1, 1), (7, 2, 1), (7, 2, 1), (7, 2, 1), (7, 2, 1), (7, 2, 1), (7, 2, 1), (7, 2, 1), (7, 2, 1), (7, 2, 1), (6, 3, 1), (6, 3, 1), (6, 3, 1), (6, 3, 1), (6, 3, 1), (6, 3, 1), (6, 3, 1), (6, 3, 1), (6, 3, 1), (6, 3, 1), (6, 3, 1), (6, 3, 1), (6, 3, 1), (5, 4, 1), (5, 4, 1), (5, 4, 1), (5, 4, 1), (5, 4, 1), (5, 4, 1), (5, 4, 1), (5, 4, 1), (5, 4, 1), (5, 4, 1), (6, 2, 2), (6, 2, 2), (6, 2, 2), (6, 2, 2), (6, 2, 2), (6, 2, 2), (6, 2, 2), (6, 2, 2), (5, 3, 2), (5, 3, 2), (5, 3, 2), (5, 3, 2), (5, 3, 2), (5, 3, 2), (5, 3, 2), (5, 3, 2), (5, 3, 2), (5, 3, 2), (5, 3, 2), (5, 3, 2), (4, 4, 2), (4, 4, 2), (4, 4, 2), (4, 4, 2), (4, 4, 2), (4, 4, 2), (4, 3, 3), (4, 3, 3), (4, 3, 3), (4, 3, 3)]
noncomputable def perm2 : List Nat := [0, 1, 2, 3, 16, 17, 18, 4, 5, 6, 7, 8, 19, 20, 21, 22, 23, 24, 25, 26, 27, 9, 10, 11, 12, 13, 28, 29, 30, 31, 32, 33, 34, 35, 36, 37, 38, 39, 40, 51, 52, 53, 54, 55, 56, 57, 58, 14, 15, 41, 42, 43, 44, 45, 46, 47, 48, 49, 50, 59, 60, 61, 62, 63, 64, 65, 66, 67, 68, 69, 70, 71, 72, 73, 74, 75, 76, 77, 78, 79, 80]
theorem run2 (w : World) (Γ : Ctx) (p : Pos) (n tk : Nat) (u : Nat → Tok) :
    outOf (exe (S0 w) (rcQ w) Γ (sortM.1 (St0 (vsOf seq2 u))) p ⟨.nil, n, tk⟩) = some (outL seq2 u perm2, none, n, tk) := by kernel_rfl
noncomputable def seq3 : List T3 := [(10, 2, 1), (9, 2, 2), (9, 3, 1), (8, 3, 2), (8, 4, 1), (9, 2, 2), (8, 3, 2), (7, 4, 2), (9, 3, 1), (8, 3, 2), (7, 3, 3), (8, 4, 1), (7, 4, 2), (7, 5, 1), (8, 3, 2), (7, 3, 3), (7, 4, 2), (6, 4, 3), (6, 5, 2), (8, 4, 1), (7, 4, 2), (6, 4, 3), (7, 5, 1), (6, 5, 2), (6, 6, 1), (9, 2, 2), (8, 3, 2), (7, 4, 2), (8, 3, 2), (7, 3, 3), (7, 4, 2), (6, 4, 3), (6, 5, 2), (7, 4, 2), (6, 4, 3), (5, 4, 4), (6, 5, 2), (5, 5, 3), (9, 3, 1), (8, 3, 2), (7, 3, 3), (8, 4, 1), (7, 4, 2), (7, 5, 1), (8, 3, 2), (7, 3, 3), (7, 4, 2), (6, 4, 3), (6, 5, 2), (7, 3, 3), (6, 4, 3), (5, 5, 3), (8, 4, 1), (7, 4, 2), (6, 4, 3), (7, 5, 1), (6, 5, 2), (6, 6, 1), (7, 4, 2), (6, 4, 3), (5, 4, 4), (6, 5, 2), (5, 5, 3), (7, 5, 1), (6, 5, 2), (5, 5, 3), (8, 3, 2), (7, 3, 3), (7, 4, 2), (6, 4, 3), (6, 5, 2), (7, 3, 3), (6, 4, 3), (5, 5, 3), (7, 4, 2), (6, 4, 3), (5, 4, 4), (6, 5, 2), (5, 5, 3), (6, 4, 3), (5, 4, 4)]
noncomputable def perm3 : List Nat := [0, 2, 8, 38, 1, 5, 25, 4, 11, 19, 41, 52, 3, 6, 9, 14, 26, 28, 39, 44, 66, 13, 22, 43, 55, 63, 7, 12, 16, 20, 27, 30, 33, 42, 46, 53, 58, 68, 74, 10, 15, 29, 40, 45, 49, 67, 71, 24, 57, 18, 23, 32, 36, 48, 56, 61, 64, 70, 77, 17, 21, 31, 34, 47, 50, 54, 59, 69, 72, 75, 79, 37, 51, 62, 65, 73, 78, 35, 60, 76, 80]
theorem run3 (w : World) (Γ : Ctx) (p : Pos) (n tk : Nat) (u : Nat → Tok) :
    outOf (exe (S0 w) (rcQ w) Γ (sortM.1 (St0 (vsOf seq3 u))) p ⟨.nil, n, tk⟩) = some (outL seq3 u perm3, none, n, tk) := by kernel_rfl
noncomputable def seq4 : List T3 := [(10, 2, 1), (9, 2, 2), (9, 3, 1), (8, 3, 2), (8, 4, 1), (7, 4, 2), (7, 5, 1), (9, 2, 2), (8, 3, 2), (7, 4, 2), (6, 5, 2), (9, 3, 1), (8, 3, 2), (7, 3, 3), (8, 4, 1), (7, 4, 2), (6, 4, 3), (7, 5, 1), (6, 5, 2), (6, 6, 1), (8, 3, 2), (7, 3, 3), (7, 4, 2), (6, 4, 3), (6, 5, 2), (5, 5, 3), (8, 4, 1), (7, 4, 2), (6, 4, 3), (5, 4, 4), (7, 5, 1), (6, 5, 2), (5, 5, 3), (9, 2, 2), (8, 3, 2), (7, 4, 2), (6, 5, 2), (8, 3, 2), (7, 3, 3), (7, 4, 2), (6, 4, 3), (6, 5, 2), (5, 5, 3), (7, 4, 2), (6, 4, 3), (5, 4, 4), (9, 3, 1), (8, 3, 2), (7, 3, 3), (8, 4, 1), (7, 4, 2), (6, 4, 3), (7, 5, 1), (6, 5, 2), (6, 6, 1), (8, 3, 2), (7, 3, 3), (7, 4, 2), (6, 4, 3), (6, 5, 2), (5, 5, 3), (7, 3, 3), (6, 4, 3), (8, 4, 1), (7, 4, 2), (6, 4, 3), (5, 4, 4), (7, 5, 1), (6, 5, 2), (5, 5, 3), (7, 4, 2), (6, 4, 3), (5, 4, 4), (8, 3, 2), (7, 3, 3), (7, 4, 2), (6, 4, 3), (6, 5, 2), (5, 5, 3), (7, 3, 3), (6, 4, 3)]
noncomputable def perm4 : List Nat := [0, 2, 11, 46, 1, 7, 33, 4, 14, 26, 49, 63, 3, 8, 12, 20, 34, 37, 47, 55, 73, 6, 17, 30, 52, 67, 5, 9, 15, 22, 27, 35, 39, 43, 50, 57, 64, 70, 75, 13, 21, 38, 48, 56, 61, 74, 79, 19, 54, 10, 18, 24, 31, 36, 41, 53, 59, 68, 77, 16, 23, 28, 40, 44, 51, 58, 62, 65, 71, 76, 80, 25, 32, 42, 60, 69, 78, 29, 45, 66, 72]
theorem run4 (w : World) (Γ : Ctx) (p : Pos) (n tk : Nat) (u : Nat → Tok) :
    outOf (exe (S0 w) (rcQ w) Γ (sortM.1 (St0 (vsOf seq4 u))) p ⟨.nil, n, tk⟩) = some (outL seq4 u perm4, none, n, tk) := by kernel_rfl
noncomputable def seq5 : List T3 := [(10, 2, 1), (9, 3, 1), (9, 3, 1), (9, 3, 1), (8, 4, 1), (8, 4, 1), (8, 4, 1), (8, 4, 1), (8, 4, 1), (7, 5, 1), (7, 5, 1), (7, 5, 1), (7, 5, 1), (7, 5, 1), (6, 6, 1), (6, 6, 1), (9, 2, 2), (9, 2, 2), (9, 2, 2), (8, 3, 2), (8, 3, 2), (8, 3, 2), (8, 3, 2), (8, 3, 2), (8, 3, 2), (8, 3, 2), (8, 3, 2), (8, 3, 2), (7, 4, 2), (7, 4, 2), (7, 4, 2), (7, 4, 2), (7, 4, 2), (7, 4, 2), (7, 4, 2), (7, 4, 2), (7, 4, 2), (7, 4, 2), (7, 4, 2), (7, 4, 2), (7, 4, 2), (6, 5, 2), (6, 5, 2), (6, 5, 2), (6, 5, 2), (6, 5, 2), (6, 5, 2), (6, 5, 2), (6, 5, 2), (6, 5, 2), (6, 5, 2), (7, 3, 3), (7, 3, 3), (7, 3, 3), (7, 3, 3), (7, 3, 3), (7, 3, 3), (7, 3, 3), (7, 3, 3), (6, 4, 3), (6, 4, 3), (6, 4, 3), (6, 4, 3), (6, 4, 3), (6, 4, 3), (6, 4, 3), (6, 4, 3), (6, 4, 3), (6, 4, 3), (6, 4, 3), (6, 4, 3), (5, 5, 3), (5, 5, 3), (5, 5, 3), (5, 5, 3), (5, 5, 3), (5, 5, 3), (5, 4, 4), (5, 4, 4), (5, 4, 4), (5, 4, 4)]
noncomputable def perm5 : List Nat := [0, 1, 2, 3, 16, 17, 18, 4, 5, 6, 7, 8, 19, 20, 21, 22, 23, 24, 25, 26, 27, 9, 10, 11, 12, 13, 28, 29, 30, 31, 32, 33, 34, 35, 36, 37, 38, 39, 40, 51, 52, 53, 54, 55, 56, 57, 58, 14, 15, 41, 42, 43, 44, 45, 46, 47, 48, 49, 50, 59, 60, 61, 62, 63, 64, 65, 66, 67, 68, 69, 70, 71, 72, 73, 74, 75, 76, 77, 78, 79, 80]
theorem run5 (w : World) (Γ : Ctx) (p : Pos) (n tk : Nat) (u : Nat → Tok) :
    outOf (exe (S0 w) (rcQ w) Γ (sortM.1 (St0 (vsOf seq5 u))) p ⟨.nil, n, tk⟩) = some (outL seq5 u perm5, none, n, tk) := by kernel_rfl
end Mine
namespace Mine
open PySem PySem.W PySem.Challenge PySem.Calls PyProof.Rows

noncomputable def tokIn (vs : List Value) (i : Nat) : Tok := match vs[i]? with | some (.str _ t) => t | _ => 0
theorem strs_zip {ws : List T3} : ∀ {vs : List Value} {l : List T3} (k : Nat) (u : Nat → Tok), StrsAre vs (l.map w3) → (∀ i, u (k + i) = tokIn vs i) → vs = (l.zipIdx k).map fun p => Value.str (w3 p.1) (u p.2)
  | [], [], k, u, _, _ => rfl
  | v :: vs, t :: l, k, u, h, hu => by
    cases h with
    | cons x tk h =>
      rw [List.zipIdx_cons, List.map_cons]
      have e := hu 0
      simp only [Nat.add_zero] at e
      rw [e]
      have ih := strs_zip (ws := ws) (k + 1) u h fun i => by
        have := hu (i + 1)
        rw [show k + (i + 1) = k + 1 + i by lia] at this
        rw [this]; rfl
      rw [← ih]; rfl
theorem vs_is {vs : List Value} {ws : List T3} (h : StrsAre vs (ws.map w3)) : ∃ u, vs = vsOf ws u :=
  ⟨tokIn vs, strs_zip (ws := ws) 0 _ h fun i => by rw [Nat.zero_add]⟩

theorem out_strs (ws : List T3) (u : Nat → Tok) : ∀ ps : List Nat, StrsAre (ps.map fun i => kvOf ws u i) ((ps.map fun i => ws.getD i (0, 0, 0)).map w3)
  | [] => .nil
  | i :: ps => .cons _ _ (out_strs ws u ps)

theorem run_81 {w : World} {ws : List T3} {ps : List Nat}
    (r : ∀ (Γ : Ctx) (p : Pos) (n tk : Nat) (u : Nat → Tok), outOf (exe (S0 w) (rcQ w) Γ (sortM.1 (St0 (vsOf ws u))) p ⟨.nil, n, tk⟩) = some (outL ws u ps, none, n, tk))
    (hl : ps.length = ws.length) (hp : (ps.map fun i => ws.getD i (0, 0, 0)).isPerm ws = true) (hs : sortedS ((ps.map fun i => ws.getD i (0, 0, 0)).map w3) = true) : RunOK w (ws.map w3) := by
  intro vs A E s Q hS h2 h
  obtain ⟨u, rfl⟩ := vs_is hS
  rw [sortQ_eq]
  intro Γ p _
  have key := r Γ p s.heap.objs.size s.toks u
  cases e : exe (S0 w) (rcQ w) Γ (sortM.1 (St0 (vsOf ws u))) p ⟨.nil, s.heap.objs.size, s.toks⟩ with
  | none => rw [e] at key; cases key
  | some x =>
    rw [e] at key
    obtain ⟨r1, p', ⟨T', n', tk'⟩⟩ := x
    cases r1 with
    | error e => cases key
    | ok a =>
      obtain ⟨⟨⟩, st'⟩ := a
      have key : some (arrOf st', failedOf st', n', tk') = some (outL ws u ps, none, s.heap.objs.size, s.toks) := key
      injection key with key
      injection key with k1 key
      injection key with k2 key
      injection key with k3 k4
      have R : Rep s ⟨.nil, s.heap.objs.size, s.toks⟩ := ⟨rfl, rfl, fun i o e => by cases e⟩
      refine Sem.wp_mono _ Γ _ (fun a q s' h' => ?_) (fun e q s h => absurd h.1 (by intro h; cases h)) _ _ (exe_sound (good_rcQ w) Γ _ p _ _ _ _ s e R)
      obtain ⟨e1, -, R', H⟩ := h'
      cases e1
      have es : ({ s with heap := s'.heap } : Shared) = s' := by
        obtain ⟨a1, a2, a3, a4, a5⟩ := s'
        have g := H.same.gens; have d := H.same.drawn; have o := H.same.os; have tt := R'.toks
        simp only at g d o tt
        rw [g, d, o, tt, k4]
      rw [← es]
      refine h st' s'.heap (R'.size.trans k3) (fun b o hb => ((H.hole b (Heap.lt_size hb) rfl).2).trans hb) k2 ?_ ⟨(ps.map fun i => ws.getD i (0, 0, 0)).map w3, ?_, (List.isPerm_iff.mp hp).map w3, hs⟩
      · rw [k1]
        show (List.toArray _).size = (vsOf ws u).length
        unfold vsOf
        simp [hl]
      · rw [k1]
        have : ((outL ws u ps).map (·.2)).toList = ps.map fun i => kvOf ws u i := by simp [outL, Function.comp_def]
        rw [this]
        exact out_strs ws u ps

theorem runOK0 (w : World) : RunOK w (seq0.map w3) := run_81 (ps := perm0) (run0 w) (by rfl) (by kernel_rfl) (by kernel_rfl)
theorem runOK1 (w : World) : RunOK w (seq1.map w3) := run_81 (ps := perm1) (run1 w) (by rfl) (by kernel_rfl) (by kernel_rfl)
theorem runOK2 (w : World) : RunOK w (seq2.map w3) := run_81 (ps := perm2) (run2 w) (by rfl) (by kernel_rfl) (by kernel_rfl)
theorem runOK3 (w : World) : RunOK w (seq3.map w3) := run_81 (ps := perm3) (run3 w) (by rfl) (by kernel_rfl) (by kernel_rfl)
theorem runOK4 (w : World) : RunOK w (seq4.map w3) := run_81 (ps := perm4) (run4 w) (by rfl) (by kernel_rfl) (by kernel_rfl)
theorem runOK5 (w : World) : RunOK w (seq5.map w3) := run_81 (ps := perm5) (run5 w) (by rfl) (by kernel_rfl) (by kernel_rfl)
end Mine
namespace Mine
open PySem PySem.W PySem.Challenge PySem.Calls PyProof.Rows

section
variable {w : World} {A : Around} {E : Value → Shared → Prop} {s : Shared} {n : Nat}

theorem xfrm_call {v : Value} {Q : Value → Shared → Prop} (T : TopH w s.heap) (hr : Room A (n + 1)) (h : ∀ h' tk, (∀ b o, s.heap.get? b = some o → h'.get? b = some o) → Q v { s with heap := h', toks := tk }) :
    wpAny (model pw w) A (call (.ref 63) [v]) Q E s := by
  refine wpAny_call (enterX [Str.ofString "s"] T hr (fnXfrm _) (by kernel_rfl) (by kernel_rfl) (fun pm => by kernel_rfl) (by kernel_rfl) (by kernel_rfl) (by kernel_rfl) (fun h₁ tk htk F T₁ hr₁ => ?_))
  refine wpAny_execs_cons ?_
  refine wpAny_Return_some ?_
  refine ldE F rfl ?_
  exact h _ _ fun b o e => F.keep _ _ e

variable {h₀ : Heap} {a kS : Addr} {vs : List Value} {ws : List Str} {e1 : Nat} {P : PySem.Fin → Shared → Prop}

/-- what holds behind list.sort(key=_strxfrm) -/
noncomputable abbrev Out (h₀ : Heap) (a : Addr) (ws : List Str) (P : PySem.Fin → Shared → Prop) (s : Shared) : Prop :=
  ∀ h' tk ys ss e, (∀ b o, h₀.get? b = some o → h'.get? b = some o) → h'.get? a = some (seqObj "list" ys e) → StrsAre ys.toList ss → ss.Perm ws → sortedS ss = true → P (.done (.ret .none)) { s with heap := h', toks := tk }

theorem kTail {st : SortSt} {xs : Array Value} {c : Nat} (k₀ : ∀ b o, h₀.get? b = some o → s.heap.get? b = some o) (ha : s.heap.get? a = some (seqObj "list" #[] e1)) (hk : s.heap.get? kS = some (seqObj "list" xs c)) (hka : kS ≠ a) (ha0 : h₀.get? a = none) (hk0 : h₀.get? kS = none)
    (hl : vs.length ≤ 1000) (hx : xs.size ≤ 1000) (hf : failedOf st = none) (hz : (arrOf st).size = vs.length) (ho : ∃ ss', StrsAre ((arrOf st).map (·.2)).toList ss' ∧ ss'.Perm ws ∧ sortedS ss' = true) (h : Out h₀ a ws P s) :
    wpAny (model pw w) A (ksk_tail a false e1 (.ref kS) st) P E s := by
  obtain ⟨ss, o1, o2, o3⟩ := ho
  unfold ksk_tail
  simp only [Bool.false_eq_true, if_false]
  refine wpAny_bind (listUpdate_at hk rfl ?_ (by rw [sizeLine_eq]; lia) (Nat.zero_le _))
  refine wpAny_bind (wpAny_letGo ?_)
  have ha1 : (s.heap.update kS (Obj.mapSeq fun _ => (#[] : Array Value))).get? a = some (seqObj "list" #[] e1) := (Heap.get?_update_ne _ _ _ _ hka.symm).trans ha
  refine wpAny_bind (seqEpoch_at ha1 rfl ?_)
  refine wpAny_bind (listUpdate_at ha1 rfl ?_ (Nat.zero_le _) (by
    show ((arrOf st).map (·.2)).size ≤ _
    rw [Array.size_map, hz, sizeLine_eq]; lia))
  rw [hf]
  simp only [bne_self_eq_false, Bool.false_eq_true, if_false]
  have ho2 := get?_update_seq ha1 (fun _ : Array Value => (arrOf st).map (fun p : Keyed => p.2))
  exact wpAny_pure (h _ _ _ ss _ (fun b o e => (Heap.get?_update_ne _ _ _ _ (fun q => by rw [q, ha0] at e; cases e)).trans ((Heap.get?_update_ne _ _ _ _ (fun q => by rw [q, hk0] at e; cases e)).trans (k₀ _ _ e))) ho2 o1 o2 o3)

theorem kEnd {c : Nat} (hrun : RunOK w ws) (hS : StrsAre vs ws) (k₀ : ∀ b o, h₀.get? b = some o → s.heap.get? b = some o) (ha : s.heap.get? a = some (seqObj "list" #[] e1)) (hk : s.heap.get? kS = some (seqObj "list" vs.toArray c)) (hka : kS ≠ a) (ha0 : h₀.get? a = none) (hk0 : h₀.get? kS = none)
    (hl : vs.length ≤ 1000) (h : Out h₀ a ws P s) : wpAny (model pw w) A (ksk_end a false vs.toArray e1 (.ref kS) vs.toArray) P E s := by
  have hsz : vs.toArray.size = vs.length := by simp
  unfold ksk_end
  simp only [Bool.false_eq_true, if_false]
  by_cases h2 : vs.toArray.size < 2
  · rw [if_pos h2, if_pos h2]
    refine wpAny_bind (wpAny_pure ?_)
    rw [StateT.run_pure]
    refine wpAny_bind (wpAny_pure ?_)
    exact kTail (st := SortSt.mk' general' (vs.toArray.zip vs.toArray) #[] 7 none) k₀ ha hk hka ha0 hk0 hl (by lia) rfl (by show (pairsOf vs).size = _; exact pairsOf_size vs) (few_sorted hS (by lia)) h
  · rw [if_neg h2, if_neg h2]
    rw [strs_kind hS (by lia)]
    refine wpAny_bind (wpAny_pure ?_)
    refine wpAny_bind (hrun vs A E _ _ hS (by lia) fun st' h' _ k hf hz ho => ?_)
    exact kTail (s := { s with heap := h' }) (fun b o e => k _ _ (k₀ _ _ e)) (k _ _ ha) (k _ _ hk) hka ha0 hk0 hl (by lia) hf hz ho fun h' tk ys ss e r1 r2 r3 r4 r5 => h h' tk ys ss e r1 r2 r3 r4 r5

theorem kRest (T₀ : TopH w h₀) (hr : Room A (n + 1)) (hrun : RunOK w ws) (hS : StrsAre vs ws) (k₀ : ∀ b o, h₀.get? b = some o → s.heap.get? b = some o) (ha : s.heap.get? a = some (seqObj "list" #[] e1)) (hk : s.heap.get? kS = some (seqObj "list" #[] 0)) (hka : kS ≠ a) (ha0 : h₀.get? a = none) (hk0 : h₀.get? kS = none)
    (hl : vs.length ≤ 1000) (h : Out h₀ a ws P s) : wpAny (model pw w) A (ksk_rest a (.ref 63) false vs.toArray e1 (.ref kS)) P E s := by
  unfold ksk_rest
  refine wpAny_bind (wpAny_rule ?_)
  rw [List.forIn_toArray]
  refine wpAny_bind (ksk_fold (fun i s' => ∃ h' tk kA e, s' = { s with heap := h', toks := tk } ∧ (∀ b o, h₀.get? b = some o → h'.get? b = some o) ∧ h'.get? a = some (seqObj "list" #[] e1) ∧ h'.get? kS = some (seqObj "list" kA e) ∧ kA.toList = vs.take i) vs 0 s
    ⟨s.heap, s.toks, #[], 0, rfl, k₀, ha, hk, by simp⟩ ?step ?done)
  case step =>
    rintro j x s' hx ⟨h', tk, kA, e, rfl, k', ha', hk', hA⟩
    simp only [Nat.zero_add] at hA ⊢
    have hj : j < vs.length := (List.getElem?_eq_some_iff.mp hx).1
    refine wpAny_bind (wpAny_attempt (xfrm_call (s := { s with heap := h', toks := tk }) (T₀.keeps k') hr fun h₂ tk₂ k₂ => ?_))
    dsimp only at k₂ ⊢
    have kz : kA.size = j := by
      have := congrArg List.length hA
      rw [Array.length_toList, List.length_take] at this; lia
    have hk₂ := k₂ _ _ hk'
    refine wpAny_bind (listUpdate_at hk₂ rfl ?_ (by rw [sizeLine_eq]; lia) (Nat.le_trans (Nat.le_of_eq (Array.size_push ..)) (by rw [sizeLine_eq]; lia)))
    refine wpAny_pure ⟨rfl, _, _, kA.push x, _, rfl, fun b o e => (Heap.get?_update_ne _ _ _ _ (fun q => by rw [q, hk0] at e; cases e)).trans (k₂ _ _ (k' _ _ e)), (Heap.get?_update_ne _ _ _ _ hka.symm).trans (k₂ _ _ ha'), get?_update_seq hk₂ (·.push x), ?_⟩
    rw [Array.toList_push, hA, List.take_add_one, hx]; rfl
  case done =>
    rintro s' ⟨h', tk, kA, e, rfl, k', ha', hk', hA⟩
    rw [Nat.zero_add, List.take_length] at hA
    have hA' : kA = vs.toArray := by rw [← hA, Array.toArray_toList]
    subst hA'
    refine wpAny_bind (listItems_at hk' rfl ?_)
    exact kEnd (s := { s with heap := h', toks := tk }) hrun hS k' ha' hk' hka ha0 hk0 hl fun h' tk ys ss e r1 r2 r3 r4 r5 => h h' tk ys ss e r1 r2 r3 r4 r5

theorem kTree {m : Nat} (T₀ : TopH w h₀) (hr : Room A (n + 1)) (hrun : RunOK w ws) (hS : StrsAre vs ws) (k₀ : ∀ b o, h₀.get? b = some o → s.heap.get? b = some o) (ho : s.heap.get? a = some (seqObj "list" vs.toArray m)) (ha0 : h₀.get? a = none)
    (hl : vs.length ≤ 1000) (h : Out h₀ a ws P s) : wpAny (model pw w) A (ksk_tree a (.ref 63) false) P E s := by
  have ha : a < s.heap.objs.size := Heap.lt_size ho
  have hsz : vs.toArray.size = vs.length := by simp
  obtain ⟨e1, ho1⟩ : ∃ e1, (s.heap.update a (Obj.mapSeq fun _ => (#[] : Array Value))).get? a = some (seqObj "list" #[] e1) := ⟨_, get?_update_seq ho fun _ => #[]⟩
  have hkS : ((s.heap.update a (Obj.mapSeq fun _ => (#[] : Array Value))).push (seqObj "tuple" vs.toArray 0)).objs.size = s.heap.objs.size + 1 := by rw [size_push', Heap.size_update]
  unfold ksk_tree
  refine wpAny_bind (listItems_at ho rfl ?_)
  refine wpAny_bind (listUpdate_at ho rfl ?_ (by rw [hsz, sizeLine_eq]; lia) (Nat.zero_le _))
  refine wpAny_bind (seqEpoch_at ho1 rfl ?_)
  refine wpAny_bind (wpAny_newTuple ?_ (by show vs.length ≤ _; rw [sizeLine_eq]; lia))
  refine wpAny_bind (wpAny_newList ?_ (Nat.zero_le _))
  refine wpAny_holding ?_
  have old : ∀ b o, h₀.get? b = some o → b < s.heap.objs.size := fun b o e => Heap.lt_size (k₀ _ _ e)
  refine kRest (s := { s with heap := ((s.heap.update a (Obj.mapSeq fun _ => (#[] : Array Value))).push (seqObj "tuple" vs.toArray 0)).push (seqObj "list" #[] 0) }) (kS := ((s.heap.update a (Obj.mapSeq fun _ => (#[] : Array Value))).push (seqObj "tuple" vs.toArray 0)).objs.size)
    T₀ hr hrun hS (fun b o e => Heap.get?_push_of_some _ (Heap.get?_push_of_some _ ((Heap.get?_update_ne _ _ _ _ (fun q => by rw [q, ha0] at e; cases e)).trans (k₀ _ _ e)))) (Heap.get?_push_of_some _ (Heap.get?_push_of_some _ ho1)) (Heap.get?_push_size _ rfl) (by rw [hkS]; exact Nat.ne_of_gt (Nat.lt_succ_of_lt ha)) ha0 ?_ hl h
  cases e : h₀.get? ((s.heap.update a (Obj.mapSeq fun _ => (#[] : Array Value))).push (seqObj "tuple" vs.toArray 0)).objs.size with
  | none => rfl
  | some o => have := old _ _ e; rw [hkS] at this; exact absurd this (Nat.not_lt.mpr (Nat.le_succ _))

theorem sortsK_of (hrun : RunOK w ws) (hlen : ws.length ≤ 1000) : SortsK w ws := by
  intro A E s Q l vs n T hr PL hS h
  have hvl : vs.length ≤ 1000 := by have := hS.len_eq; lia
  refine call_function_entry_kw kind_sorted plain_sorted entry_sorted (ksk_s1 _ _) ?_
  unfold Builtin.«sorted»
  refine wpAny_bind (m := checkCount "sorted" 1 1 _) (wpAny_pure ?_)
  refine wpAny_bind (collect_list PL.isList ?_ (by rw [sizeLine_eq]; lia))
  refine wpAny_bind (wpAny_newList ?_ (by rw [sizeLine_eq]; lia))
  have hsz : ((s.heap.push (seqObj "list" #[] 0)).update s.heap.objs.size (Obj.mapSeq (· ++ vs.toArray))).objs.size = s.heap.objs.size + 1 := by
    rw [Heap.size_update, size_push']
  have hoL : (((s.heap.push (seqObj "list" #[] 0)).update s.heap.objs.size (Obj.mapSeq (· ++ vs.toArray))).push (seqObj "list" vs.toArray 0)).get? (s.heap.objs.size + 1) = some (seqObj "list" vs.toArray 0) := by
    rw [← hsz]; exact Heap.get?_push_size _ rfl
  have keep : ∀ b o, s.heap.get? b = some o → (((s.heap.push (seqObj "list" #[] 0)).update s.heap.objs.size (Obj.mapSeq (· ++ vs.toArray))).push (seqObj "list" vs.toArray 0)).get? b = some o := fun b o q => by
    have hlt : b < s.heap.objs.size := Heap.lt_size q
    rw [Heap.get?_push_ne _ _ _ (by rw [hsz]; exact Nat.ne_of_lt (Nat.lt_succ_of_lt hlt)), Heap.get?_update_ne _ _ _ _ (Nat.ne_of_lt hlt), Heap.get?_push_ne _ _ _ (Nat.ne_of_lt hlt)]
    exact q
  show wpAny _ _ _ _ _ { s with heap := ((s.heap.push (seqObj "list" #[] 0)).update s.heap.objs.size (Obj.mapSeq (· ++ vs.toArray))).push (seqObj "list" vs.toArray 0) }
  rw [hsz]
  refine wpAny_bind (wpAny_holding (wpAny_call_entry_kw slot_list_sort ⟨_, hoL, rfl⟩ entry_list_sort ?body (ksk_l1 _ _)))
  case body =>
    show wpAny (model pw w) A.in1.in1 (Builtin.«list.sort» ⟨[.ref (s.heap.objs.size + 1)], [(Str.ofString "key", .ref 63)]⟩) _ _ _
    rw [ksk_t1]
    refine kTree (n := n) (h₀ := s.heap) (s := { s with heap := ((s.heap.push (seqObj "list" #[] 0)).update s.heap.objs.size (Obj.mapSeq (· ++ vs.toArray))).push (seqObj "list" vs.toArray 0) }) T ?_ hrun hS keep hoL (gone_of_size (Nat.le_succ _)) hvl fun h' tk ys ss e k o1 o2 o3 o4 => ⟨_, rfl, ?_⟩
    · exact ⟨hr.handled, by have := hr.depth; show A.depth + _ < _; lia, by have := hr.units; show A.units + 1 + 1 + _ < _; lia⟩
    · exact wpAny_pure ⟨_, rfl, h h' _ tk ys ss k (gone_of_size (Nat.le_succ _)) ⟨_, _, o1, rfl, rfl, rfl⟩ o2 o3 o4⟩
end
end Mine
namespace Mine
open PySem PySem.W PySem.Challenge PySem.Calls PyProof.Rows

noncomputable def big (lo mi : Nat) (ks : List Nat) : Bool := ks == [3, 2, 2] && (lo == 0 && mi == 1 || lo == 1 && mi == 2)
noncomputable def chkL (ks : List Nat) : Bool := [(0, 0), (0, 1), (1, 1), (1, 2)].all fun lm : Nat × Nat => big lm.1 lm.2 ks || decide ((runT [t0 lm.1 lm.2] ks).length < 64)
theorem chkL_all : ([1, 2, 3].all fun a => [1, 2].all fun b => chkL [a, b] && [1, 2].all fun c => chkL [a, b, c]) = true := by kernel_rfl

structure Sorting (w : World) (lo mi : Nat) (ks : List Nat) : Prop where
  told : RunOK w ((toldT (shared ks) (stOf lo mi) (mi + 1 + mi + lo + ks.sum)).map w3)
  fwd : RunOK w ((runT [t0 lo mi] ks).map w3)
  bwd : RunOK w ((runT [t0 lo mi] ks.reverse).map w3)
theorem eq0 : runT [t0 0 1] [3, 2, 2] = seq0 := by kernel_rfl
theorem eq1 : runT [t0 0 1] ([3, 2, 2] : List Nat).reverse = seq1 := by kernel_rfl
theorem eq2 : toldT (shared [3, 2, 2]) (stOf 0 1) (1 + 1 + 1 + 0 + [3, 2, 2].sum) = seq2 := by kernel_rfl
theorem eq3 : runT [t0 1 2] [3, 2, 2] = seq3 := by kernel_rfl
theorem eq4 : runT [t0 1 2] ([3, 2, 2] : List Nat).reverse = seq4 := by kernel_rfl
theorem eq5 : toldT (shared [3, 2, 2]) (stOf 1 2) (2 + 1 + 2 + 1 + [3, 2, 2].sum) = seq5 := by kernel_rfl

theorem sorting (w : World) {lo mi : Nat} {ks : List Nat} (h1 : lo < 2) (h2 : lo ≤ mi) (h3 : mi < lo + 2) (h : ∃ a b c : Nat, 1 ≤ a ∧ a ≤ 3 ∧ 1 ≤ b ∧ b ≤ 2 ∧ ((1 ≤ c ∧ c ≤ 2 ∧ ks = [a, b, c]) ∨ ks = [a, b])) : Sorting w lo mi ks := by
  have L := lawOK h1 h2 h3 h
  have hc : chkL ks = true := by
    obtain ⟨a, b, c, a1, a3, b1, b2, hk⟩ := h
    have ha : a ∈ [1, 2, 3] := by have : a = 1 ∨ a = 2 ∨ a = 3 := by lia
                                  rcases this with rfl | rfl | rfl <;> simp
    have hb : b ∈ [1, 2] := by have : b = 1 ∨ b = 2 := by lia
                               rcases this with rfl | rfl <;> simp
    have := List.all_eq_true.mp (List.all_eq_true.mp chkL_all a ha) b hb
    rw [Bool.and_eq_true] at this
    rcases hk with ⟨c1, c2, rfl⟩ | rfl
    · have hcm : c ∈ [1, 2] := by have : c = 1 ∨ c = 2 := by lia
                                  rcases this with rfl | rfl <;> simp
      exact List.all_eq_true.mp this.2 c hcm
    · exact this.1
  have hm : (lo, mi) ∈ [(0, 0), (0, 1), (1, 1), (1, 2)] := by
    have : (lo = 0 ∧ mi = 0) ∨ (lo = 0 ∧ mi = 1) ∨ (lo = 1 ∧ mi = 1) ∨ (lo = 1 ∧ mi = 2) := by lia
    rcases this with ⟨rfl, rfl⟩ | ⟨rfl, rfl⟩ | ⟨rfl, rfl⟩ | ⟨rfl, rfl⟩ <;> simp
  have hd := List.all_eq_true.mp hc (lo, mi) hm
  rw [Bool.or_eq_true, decide_eq_true_eq] at hd
  rcases hd with hb | hs
  · unfold big at hb
    simp only [Bool.and_eq_true, Bool.or_eq_true, beq_iff_eq] at hb
    obtain ⟨rfl, ⟨rfl, rfl⟩ | ⟨rfl, rfl⟩⟩ := hb
    · exact ⟨by rw [eq2]; exact runOK2 w, by rw [eq0]; exact runOK0 w, by rw [eq1]; exact runOK1 w⟩
    · exact ⟨by rw [eq5]; exact runOK5 w, by rw [eq3]; exact runOK3 w, by rw [eq4]; exact runOK4 w⟩
  · exact ⟨run_small (by rw [List.length_map, ← L.p1.length_eq]; exact hs), run_small (by rw [List.length_map]; exact hs), run_small (by rw [List.length_map, L.p2.length_eq]; exact hs)⟩

/-! two sorted lists of the same words are the same -/
theorem rising_pw : ∀ (p : Str) (l : List Str), risingS p l = true → (p :: l).Pairwise (fun a b => Spec.ltCps b.cps.toList a.cps.toList = false)
  | p, [], _ => by simp
  | p, x :: r, h => by
    have h : (!Spec.ltCps x.cps.toList p.cps.toList && risingS x r) = true := h
    rw [Bool.and_eq_true, Bool.not_eq_true'] at h
    have ih := rising_pw x r h.2
    refine List.pairwise_cons.mpr ⟨fun y hy => ?_, ih⟩
    rcases List.mem_cons.mp hy with rfl | hy
    · exact h.1
    · have hxy := (List.pairwise_cons.mp ih).1 y hy
      rw [ltCps_eq] at h hxy ⊢
      rw [decide_eq_false_iff_not] at h hxy ⊢
      exact fun q => h.1 (List.lt_of_le_of_lt (List.not_lt.mp hxy) q)
theorem sorted_pw : ∀ (l : List Str), sortedS l = true → l.Pairwise (fun a b => Spec.ltCps b.cps.toList a.cps.toList = false)
  | [], _ => .nil
  | x :: r, h => rising_pw x r h
theorem sorted_eq {a b : List Str} (ha : sortedS a = true) (hb : sortedS b = true) (p : a.Perm b) : a = b := by
  refine p.eq_of_pairwise (le := fun a b => Spec.ltCps b.cps.toList a.cps.toList = false) (fun x y _ _ h1 h2 => ?_) (sorted_pw a ha) (sorted_pw b hb)
  rw [ltCps_eq, decide_eq_false_iff_not] at h1 h2
  exact str_ext (List.le_antisymm (List.not_lt.mp h1) (List.not_lt.mp h2))
end Mine
namespace Mine
open PySem PySem.W PySem.Challenge PySem.Calls PyProof.Rows

theorem intsGet : ∀ {vs : List Value} {ns : List Int}, IntsAre vs ns → ∀ {i : Nat} {v : Value}, vs[i]? = some v → ∃ n t, ns[i]? = some n ∧ v = .int n t
  | _, _, .nil, i, v, h => by simp at h
  | _, _, .cons n t r, 0, v, h => by simp at h; exact ⟨n, t, rfl, h.symm⟩
  | _, _, .cons n t r, i + 1, v, h => by
    have := intsGet r (i := i) (v := v) (by simpa using h)
    simpa using this
theorem intsLen {vs : List Value} {ns : List Int} (h : IntsAre vs ns) : vs.length = ns.length := by
  induction h with
  | nil => rfl
  | cons n t r ih => simp [ih]
theorem intsSnoc {vs : List Value} {ns : List Int} {n : Int} {t : Tok} (h : IntsAre vs ns) : IntsAre (vs ++ [.int n t]) (ns ++ [n]) := by
  induction h with
  | nil => exact .cons n t .nil
  | cons m u r ih => exact .cons m u ih
noncomputable def pickL (ns : List Int) (lo hi st : Option Int) : List Int :=
  (sliceRange (sliceBounds lo hi st ns.length).1 (sliceBounds lo hi st ns.length).2.1 (sliceBounds lo hi st ns.length).2.2).filterMap fun i => ns[i]?
theorem intsPick1 {vs : List Value} {ns : List Int} (h : IntsAre vs ns) : ∀ l : List Nat, IntsAre (l.filterMap fun i => vs[i]?) (l.filterMap fun i => ns[i]?)
  | [] => .nil
  | i :: l => by
    have ih := intsPick1 h l
    cases e : vs[i]? with
    | none =>
      have hl := intsLen h
      have : ns[i]? = none := by
        rw [List.getElem?_eq_none_iff] at e ⊢; lia
      simp only [List.filterMap_cons, e, this]
      exact ih
    | some v =>
      obtain ⟨n, t, e2, rfl⟩ := intsGet h e
      simp only [List.filterMap_cons, e, e2]
      exact .cons n t ih
theorem intsPick {items : Array Value} {ns : List Int} (h : IntsAre items.toList ns) (lo hi st : Option Int) : IntsAre (slicePick items lo hi st).toList (pickL ns lo hi st) := by
  unfold slicePick pickL
  have hl := intsLen h
  rw [Array.length_toList] at hl
  rw [hl]
  have := intsPick1 h (sliceRange (sliceBounds lo hi st ns.length).1 (sliceBounds lo hi st ns.length).2.1 (sliceBounds lo hi st ns.length).2.2)
  simpa using this

theorem fnLaw (P : Params) : FnAt P 222 (Str.ofString "law") (stA 26) (.ref 221) :=
  ⟨⟨o222 P, pmOf (o222 P), by kernel_rfl, by kernel_rfl, by kernel_rfl⟩, ⟨221, o221 P, dFields (o221 P), tokAt (o221 P), rfl, by kernel_rfl, by kernel_rfl, by kernel_rfl, by decide⟩, by decide⟩
noncomputable abbrev envW (L : Addr) : Env := envOfC (Str.ofString "law") (fScope (stA 26)) L 222 (.ref 221)

noncomputable def drawnL (ns : List Int) : List Int := (pickL ns none (some 15) none).map fun n => n.fmod (10 ^ 6)
noncomputable def drawnS : Str := Str.ofString "drawn"

section
variable {w : World} {A : Around} {E : Value → Shared → Prop} {s : Shared} {n : Nat}

theorem listComp {env : Env} {scope : Scope} {cl : List (Str × Addr)} {x : Str} {ifs : List Expr} {elt : Expr} {l : Addr} {items : Array Value} {Q : Value → Shared → Prop} (K : Addr → Obj → Prop) (J : Nat → Heap → List Value → Prop)
    (hh : A.handled = none) (hl : s.heap.IsList l items) (hn : items.size ≤ sizeLine)
    (keep : ∀ b o, K b o → s.heap.get? b = some o)
    (stable : ∀ i h h' vs, J i h vs → (∀ b o, s.heap.get? b ≠ none → h.get? b = some o → h'.get? b = some o) → J i h' vs)
    (h0 : J 0 s.heap [])
    (step : ∀ i v tk m h₁ C vs (K' : Addr → Obj → Prop), (∀ b o, K b o → K' b o) → (∀ b o, K' b o → K b o ∨ b = l ∨ s.heap.get? b = none) → s.heap.get? C = none → items[i]? = some v → s.toks ≤ tk → J i h₁ vs → vs.length ≤ i →
      Fx K' C h₁ m → m x = some v →
      wpAny (model pw w) A (forIn ifs true fun c r => if r = true then do let ok ← isTrue c (compEnvC scope cl C env) (eval c (compEnvC scope cl C env)); pure (ForInStep.yield ok) else pure (ForInStep.yield r))
        (fun ok s₃ => if ok = true then wpAny (model pw w) A (eval elt (compEnvC scope cl C env)) (fun y s₄ => ∃ h₄ tk₄ m₄, s₄ = { s with heap := h₄, toks := tk₄ } ∧ Fx K' C h₄ m₄ ∧ J (i + 1) h₄ (vs ++ [y])) (fun _ _ => False) s₃
          else ∃ h₃ tk₃ m₃, s₃ = { s with heap := h₃, toks := tk₃ } ∧ Fx K' C h₃ m₃ ∧ J (i + 1) h₃ vs) (fun _ _ => False) { s with heap := h₁, toks := tk })
    (fin : ∀ h tk D vs, s.toks ≤ tk → (∀ b o, K b o → h.get? b = some o) → s.heap.get? D = none → h.PlainList D vs.toArray → J items.size h vs → Q (.ref D) { s with heap := h, toks := tk }) :
    wpAny (model pw w) A (pyIter (.ref l)) (fun it s₂ => ∃ I fp wr n P St K J, it = .ref I ∧ CompOK w A env scope cl x ifs elt I fp wr n P St K J Q s₂) E s := by
  refine wpAny_pyIter_list hl ?_
  have hI : s.heap.get? s.heap.objs.size = none := gone_of_size (Nat.le_refl _)
  have hlI : l ≠ s.heap.objs.size := by obtain ⟨o, e, _⟩ := hl; exact Nat.ne_of_lt (Heap.lt_size e)
  refine ⟨s.heap.objs.size, [s.heap.objs.size, l], [s.heap.objs.size], items.size, _, _, K, J, rfl, ⟨(walksToX (Walks.list (prog := pw) (w := w) hh s.heap.objs.size l hlI items)), ?_, ?_, ?_, ?_, ?_, ?_, ?_, ?_, ?_, ?_⟩⟩
  · intro s' Q' E' hst hq; exact (Walks.list (prog := pw) (w := w) hh s.heap.objs.size l hlI items).self 0 s' Q' E' hst hq
  · exact hn
  · exact ⟨⟨_, Heap.get?_push_size _ rfl, rfl, rfl⟩, hl.push _⟩
  · intro b hb
    simp only [List.mem_cons, List.not_mem_nil, or_false] at hb
    show b < (s.heap.push _).objs.size
    rw [Heap.size_push]
    rcases hb with rfl | rfl
    · exact Nat.lt_succ_self _
    · obtain ⟨o, e, _⟩ := hl; exact Nat.lt_succ_of_lt (Heap.lt_size e)
  · exact fun b o e => Heap.get?_push_of_some _ (keep b o e)
  · intro b hb o e; simp at hb; subst hb; have := keep _ o e; rw [hI] at this; cases this
  · intro i h h' vs hJ k
    exact stable i h h' vs hJ fun b o hne e => k b o (notNone_push _ hne) (by simp; rintro rfl; exact hne hI) e
  · exact stable 0 _ _ [] h0 fun b o _ e => Heap.get?_push_of_some _ e
  · rintro i v tk m h₁ tk₀ C vs K' hK hK' hC hi htk₀ htk₁ hv hJ hlen F hm
    refine step i v tk m h₁ C vs K' hK (fun b o e => (hK' b o e).imp id fun e => e.elim (fun e => ?_) fun e => .inr (none_of_push _ e)) (none_of_push _ hC) hv (Nat.le_trans htk₀ htk₁) hJ hlen F hm
    simp only [List.mem_cons, List.not_mem_nil, or_false] at e
    rcases e with e | e
    · exact .inr (by rw [e]; exact hI)
    · exact .inl e
  · intro h tk D vs htk hk hD hP hJ
    exact fin h tk D vs htk hk (none_of_push _ hD) hP hJ

theorem law1 {l : Addr} {items : Array Value} {ns : List Int} {Q : Value → Shared → Prop} (T : TopH w s.heap) (hr : Room A (n + 1)) (hl : s.heap.IsList l items) (hi : IntsAre items.toList ns) (hlen : ns.length ≤ 1000)
    (h : ∀ h' tk D od dvs, s.toks ≤ tk → Fx (kp s.heap) s.heap.objs.size h' (fun y => if y = Str.ofString "script" then some (.ref l) else none) → h'.get? (s.heap.objs.size + 1) = some od → od.data = .cell (some (.ref D)) → h'.PlainList D dvs → IntsAre dvs.toList (drawnL ns) →
      D ≠ s.heap.objs.size → s.heap.get? D = none → Room (A.deeper (envW s.heap.objs.size)) n →
      wpAny (model pw w) (A.deeper (envW s.heap.objs.size)) (execs ((fBody (stA 26)).drop 1) (envW s.heap.objs.size)) (fun f s' => Q (match f with | .ret v => v | _ => .none) s') (fun _ _ => False) { s with heap := h', toks := tk }) :
    wpAny (model pw w) A (call (.ref 222) [.ref l]) Q E s := by
  refine wpAny_call (codeAny_with_toks (Nat.le_refl _) (enterC [Str.ofString "script"] T hr (fnLaw _) (fun L => by kernel_rfl) (fun pm => by kernel_rfl) (by kernel_rfl) (by kernel_rfl) (fun h₁ tk htk F X T₁ hr₁ => ?_)))
  obtain ⟨L, hL⟩ : ∃ L, s.heap.objs.size = L := ⟨_, rfl⟩
  rw [hL] at F X hr₁ h ⊢
  have hh := hr₁.handled
  obtain ⟨oD, gD, dD⟩ := X.cell (Str.ofString "drawn") (L + 1) (by kernel_rfl)
  have dD : oD.data = .cell none := dD
  have hsz : items.size = ns.length := by have := intsLen hi; rwa [Array.length_toList] at this
  refine wpAny_execs_cons ?_
  refine wpAny_Assign_Name ?_ ?hs
  case hs => kernel_rfl
  refine compB (cl := []) (by kernel_rfl) (by kernel_rfl) (by kernel_rfl) (by kernel_rfl) (by kernel_rfl) (by intro _; kernel_rfl) ?_
  refine wpAny_Subscript_list_slice ?_
  refine ldE F rfl ?_
  rw [evalPart_none, evalPart_some]
  refine wpAny_pure ?_
  refine wpAny_Constant_int ?_
  refine ⟨l, items, none, some 15, rfl, hl.at fun o e => F.keep _ _ e, by rw [hsz, sizeLine_eq]; lia, .none, .int _ _, ?_⟩
  dsimp only
  obtain ⟨h₂, hh₂⟩ : ∃ h₂, (h₁.push { cls := .type "slice", data := .fields #[.none, .int 15 tk, .none] }).push { cls := .type "list", data := .seq (slicePick items none (some 15) none) } = h₂ := ⟨_, rfl⟩
  have k₂ : ∀ b o, h₁.get? b = some o → h₂.get? b = some o := fun b o e => by rw [← hh₂]; exact Heap.get?_push_of_some _ (Heap.get?_push_of_some _ e)
  have hl₂ : h₂.IsList (h₁.objs.size + 1) (slicePick items none (some 15) none) := by
    refine ⟨{ cls := .type "list", data := .seq (slicePick items none (some 15) none) }, ?_, rfl, _, rfl⟩
    rw [← hh₂]
    rw [show h₁.objs.size + 1 = (h₁.push { cls := .type "slice", data := .fields #[.none, .int 15 tk, .none] }).objs.size from (Heap.size_push ..).symm]
    exact Heap.get?_push_size _ rfl
  rw [hh₂]
  have hp := intsPick hi none (some 15) none
  have hpl := intsLen hp
  rw [Array.length_toList] at hpl
  refine listComp (fun b o => h₁.get? b = some o) (fun i h vs => IntsAre vs ((drawnL ns).take i)) hh hl₂ ?_ (fun b o e => k₂ _ _ e) (fun _ _ _ _ e _ => e) .nil ?_ ?_
  · have := slicePick_size_le items none (some 15) none; rw [sizeLine_eq]; lia
  · rintro i v tk₃ m h₃ C vs K' hK hK' hC hi₃ htk₃ hJ hlen F₃ hm
    obtain ⟨z, t, hz, rfl⟩ := intsGet hp (i := i) (v := v) (by simpa using hi₃)
    have T₃ : TopH w h₃ := F₃.top T₁ hK
    refine wpAny_tests_nil ?_
    rw [if_pos rfl]
    refine wpAny_BinOp ?_
    refine tcall1 (id := "int") T₃ (by kernel_rfl) (by kernel_rfl) (by kernel_rfl) ?_ (by kernel_rfl) (by kernel_rfl) (by kernel_rfl) rfl rfl
    refine ldE F₃ hm ?_ (by kernel_rfl) (by kernel_rfl)
    refine call_int_int ?_
    refine wpAny_BinOp ?_
    refine wpAny_Constant_int ?_
    refine wpAny_Constant_int ?_
    refine pow_int_small (by decide) (by decide) (by decide) ?_
    refine mod_int (by decide) ?_
    refine ⟨_, _, _, rfl, F₃, ?_⟩
    have e : (drawnL ns)[i]? = some (z.fmod (10 ^ 6)) := by unfold drawnL; rw [List.getElem?_map, hz]; rfl
    rw [take_one e]
    exact intsSnoc hJ
  · intro h₃ tk₃ D vs htk₃ k₃ hD PD hJ
    dsimp only at htk₃ hD ⊢
    have e : (drawnL ns).take (slicePick items none (some 15) none).size = drawnL ns := List.take_of_length_le (by unfold drawnL; rw [List.length_map, ← hpl]; exact Nat.le_refl _)
    rw [e] at hJ
    refine wpAny_storeName_cell (by kernel_rfl) (by kernel_rfl) (c := L + 1) (by kernel_rfl) ⟨oD, k₃ _ _ gD, dD⟩ fun h₄ c₄ s₄ => ?_
    dsimp only at s₄ ⊢
    obtain ⟨od, god, dod⟩ := c₄
    have DL1 : D ≠ L + 1 := fun q => by rw [q, k₂ _ _ gD] at hD; cases hD
    have hLlt : L < h₁.objs.size := F.ltL
    have DL : D ≠ L := fun q => by
      obtain ⟨o, _, _, e, _⟩ := F.ns
      rw [q, k₂ _ _ e] at hD; cases hD
    have F₄ : Fx (kp s.heap) L h₄ _ := (F.keeps (h' := h₃) k₃).but (h' := h₄) (wr := [L + 1]) (show L ∉ [L + 1] by simp) (by
      intro b hb o e
      simp at hb
      have := Heap.lt_size e
      rw [hL, hb] at this
      exact absurd this (Nat.not_lt.mpr (Nat.le_succ _))) fun b o hb e => (s₄.2 b (by simpa using hb)).trans e
    refine wpAny_mono (h h₄ tk₃ D od vs.toArray (by lia) F₄ god dod (PD.at fun o e => (s₄.2 D DL1).trans e) (by simpa using hJ) DL ?_ hr₁) (fun _ _ q _ => q) (fun _ _ q => q)
    cases e' : s.heap.get? D with
    | none => rfl
    | some o => rw [k₂ _ _ (F.keep _ _ e')] at hD; cases hD
end
end Mine
namespace Mine
open PySem PySem.W PySem.Challenge PySem.Calls PyProof.Rows

theorem enumNewT (t : Addr) (items : Array Value) (n : Nat) (dct : Option Addr) (sl : Array (Option Value)) :
    Meets (Builtin.«enumerate.__new__» ⟨[.type "enumerate", .ref t], []⟩) (fun _ R s => s.heap.get? t = some ⟨.type "tuple", dct, .seq items n, sl⟩ ∧
      R (.ok (.ret (.ref (s.heap.push { cls := .type "tuple_iterator", data := .fields #[.ref t, .int 0 0] }).objs.size)))
        { s with heap := (s.heap.push { cls := .type "tuple_iterator", data := .fields #[.ref t, .int 0 0] }).push { cls := .type "enumerate", data := .fields #[.none, .bool false, .ref s.heap.objs.size, rawInt 0, .none, .none] } }) :=
  .of_wp fun prog w A R s h => by
    obtain ⟨hp, g, d, tk, os⟩ := s; obtain ⟨hl, h⟩ := h
    have hsub := sub_enumerate
    have hL : IsTup (Shared.heap ⟨hp, g, d, tk, os⟩) t items := ⟨_, hl, rfl, n, rfl⟩
    wp_walk using wpAny_loadPart' hl
    refine wpAny_stack_any fun st => wpAny_pure ?_
    split
    · rename_i c _ _ _ _ _
      cases (c == Value.type "enumerate")
      · wp_walk using wpAny_loadPart' hl, iter_tuple hL
        exact ⟨_, rfl, h⟩
      · wp_walk using wpAny_loadPart' hl, iter_tuple hL
        exact ⟨_, rfl, h⟩
    · wp_walk using wpAny_loadPart' hl, iter_tuple hL
      exact ⟨_, rfl, h⟩

section
variable {w : World} {A : Around} {E : Value → Shared → Prop} {s : Shared} {n : Nat}

theorem enumCallT {t : Addr} {items : Array Value} {Q : Value → Shared → Prop} (hL : IsTup s.heap t items)
    (h : ∀ h', IsEnum h' (s.heap.objs.size + 1) s.heap.objs.size 0 .none → IsTupIter h' s.heap.objs.size t 0 → h'.objs.size = s.heap.objs.size + 2 →
      (∀ b o, s.heap.get? b = some o → h'.get? b = some o) → Q (.ref (s.heap.objs.size + 1)) { s with heap := h' }) :
    wpAny (model pw w) A (call (.type "enumerate") [.ref t]) Q E s := by
  obtain ⟨⟨c, dct, dt, sl⟩, hl, hc, n, hd⟩ := hL
  replace hc : c = .type "tuple" := hc
  replace hd : dt = .seq items n := hd
  subst hc hd
  refine callType_new F.called_enumerate (by decide) (F.typeCall_enumerate_1 _) (F.newCall_enumerate_1 _) (fun obj => F.args_object_init_2 obj _) F.entry_enumerate_new
    (enumNewT t items n dct sl) ⟨hl, ?_⟩
  have hz : (s.heap.push { cls := .type "tuple_iterator", data := .fields #[.ref t, .int 0 0] }).objs.size = s.heap.objs.size + 1 := Heap.size_push ..
  show _ ∧ _
  rw [hz]
  have he : IsEnum ((s.heap.push { cls := .type "tuple_iterator", data := .fields #[.ref t, .int 0 0] }).push
      { cls := .type "enumerate", data := .fields #[.none, .bool false, .ref s.heap.objs.size, rawInt 0, .none, .none] }) (s.heap.objs.size + 1) s.heap.objs.size 0 .none := by
    have := Heap.get?_push_size (s.heap.push { cls := .type "tuple_iterator", data := .fields #[.ref t, .int 0 0] })
      (o := { cls := .type "enumerate", data := .fields #[.none, .bool false, .ref s.heap.objs.size, rawInt 0, .none, .none] }) rfl
    rw [hz] at this; exact this
  refine ⟨⟨_, he, rfl⟩, h _ he ⟨_, Heap.get?_push_of_some _ (Heap.get?_push_size _ rfl), rfl, rfl⟩ (by rw [Heap.size_push, hz]) fun b o x => Heap.get?_push_of_some _ (Heap.get?_push_of_some _ x)⟩

noncomputable def cellAt (D : List Int) (k : Nat) (f : Int) : Int := (pickL D (some (k : Int)) none (some 5)).sum + f
noncomputable def firstL : List Int := [1, 0, 0, 6, 31]
noncomputable def cellsL (D : List Int) : List Int := firstL.zipIdx.map fun p => cellAt D p.2 p.1

theorem law2 {L D : Addr} {od : Obj} {dvs : Array Value} {Dl : List Int} {m : Str → Option Value} {Q : Flow → Shared → Prop} (T : TopH w s.heap) (hh : A.handled = none) (ns : s.heap.Ns L m) (gc : s.heap.get? (L + 1) = some od) (hod : od.data = .cell (some (.ref D)))
    (PD : s.heap.PlainList D dvs) (hi : IntsAre dvs.toList Dl) (hlen : Dl.length ≤ 1000)
    (h : ∀ h' tk C cvs, (∀ b o, b ≠ L → s.heap.get? b = some o → h'.get? b = some o) → h'.Ns L (fun y => if y = Str.ofString "cells" then some (.ref C) else m y) → h'.PlainList C cvs → IntsAre cvs.toList (cellsL Dl) → s.heap.get? C = none →
      wpAny (model pw w) A (execs ((fBody (stA 26)).drop 2) (envW L)) Q E { s with heap := h', toks := tk }) :
    wpAny (model pw w) A (execs ((fBody (stA 26)).drop 1) (envW L)) Q E s := by
  have F : Fx (fun b o => s.heap.get? b = some o ∧ b ≠ L) L s.heap m := ⟨ns, fun b o e => e.1, fun o e => e.2 rfl⟩
  refine wpAny_execs_cons ?_
  refine compA (cl := [(Str.ofString "drawn", L + 1)]) (K₀ := fun b o => s.heap.get? b = some o ∧ b ≠ L) hh (by kernel_rfl) (by kernel_rfl) (by kernel_rfl) (by kernel_rfl) (by kernel_rfl) (by kernel_rfl) (by kernel_rfl) (by kernel_rfl) (by kernel_rfl) (by decide) (by intro _; kernel_rfl) ?_
  refine tcall1 (id := "enumerate") T (by kernel_rfl) (by kernel_rfl) (by kernel_rfl) ?_ (by kernel_rfl) (by kernel_rfl) (by kernel_rfl) rfl rfl
  refine tupInts firstL (by kernel_rfl) (by kernel_rfl) (by kernel_rfl) fun vs tk₁ hvs => ?_
  have hvl : vs.length = 5 := intsLen hvs
  refine wpAny_newObj_type ?_ (by show vs.toArray.size ≤ sizeLine; rw [List.size_toArray, hvl]; decide)
  obtain ⟨h₁, hh₁⟩ : ∃ h₁, s.heap.push { cls := .type "tuple", data := .seq vs.toArray } = h₁ := ⟨_, rfl⟩
  have it₁ : IsTup h₁ s.heap.objs.size vs.toArray := by rw [← hh₁]; exact ⟨_, Heap.get?_push_size _ rfl, rfl, _, rfl⟩
  have k₁ : ∀ b o, s.heap.get? b = some o → h₁.get? b = some o := fun b o e => by rw [← hh₁]; exact Heap.get?_push_of_some _ e
  have z₁ : h₁.objs.size = s.heap.objs.size + 1 := by rw [← hh₁]; exact Heap.size_push ..
  dsimp only
  rw [hh₁]
  refine enumCallT it₁ fun h₂ he hit hz k₂ => ?_
  dsimp only at he hit hz k₂ ⊢
  refine wpAny_pyIter_enum he ?_
  have n1 : s.heap.objs.size ≠ h₁.objs.size := by rw [z₁]; exact Nat.ne_of_lt (Nat.lt_succ_self _)
  have Dr := drawsTup (prog := pw) (w := w) (A := A.in1) hh h₁.objs.size s.heap.objs.size n1 vs.toArray
  have W := (WalksT.enumerateD Dr (h₁.objs.size + 1) (Nat.succ_ne_self _) ?nf (by simp)).toU
  case nf =>
    simp only [List.mem_cons, List.not_mem_nil, or_false, not_or]
    exact ⟨Nat.succ_ne_self _, by rw [z₁]; exact Nat.ne_of_gt (Nat.lt_succ_of_lt (Nat.lt_succ_self _))⟩
  have h1S : h₁.get? h₁.objs.size = none := gone_of_size (Nat.le_refl _)
  have h1S1 : h₁.get? (h₁.objs.size + 1) = none := gone_of_size (Nat.le_succ _)
  have kk : ∀ b o, s.heap.get? b = some o → h₂.get? b = some o := fun b o e => k₂ _ _ (k₁ _ _ e)
  refine ⟨_, _, _, _, _, _, _, kp h₁, fun i h vs => IntsAre vs ((cellsL Dl).take i), m, rfl, ?_, ?_, ?_, F.keeps kk, ⟨W, ?_, ?_, ⟨⟨_, he⟩, hit, tupAt it₁ fun o e => k₂ _ _ e⟩, ?_, fun b o e => k₂ b o e, ?_, fun _ _ _ _ e _ => e, .nil, ?_, ?_⟩⟩
  · intro C o e e'
    have e' : h₁.get? C = some o := e'
    have e : h₂.get? C = none := e
    rw [k₂ _ _ e'] at e; cases e
  · exact fun b o e => k₁ _ _ e.1
  · intro o e
    obtain ⟨oL, _, _, eL, _⟩ := ns
    have e : h₂.get? L = some o := e
    rw [kk _ _ eL] at e; cases e; exact k₁ _ _ eL
  · rintro i vals ⟨t, x, _, rfl⟩; exact ⟨_, _, rfl⟩
  · rw [List.size_toArray, hvl]; decide
  · intro b hb
    simp only [List.mem_cons, List.not_mem_nil, or_false] at hb
    show b < h₂.objs.size
    rw [hz]
    rcases hb with rfl | rfl | rfl
    · exact Nat.lt_succ_self _
    · exact Nat.lt_succ_of_lt (Nat.lt_succ_self _)
    · rw [z₁]; exact Nat.lt_succ_of_lt (Nat.lt_succ_of_lt (Nat.lt_succ_self _))
  · intro b hb o e
    simp only [List.mem_cons, List.not_mem_nil, or_false] at hb
    have e : h₁.get? b = some o := e
    rcases hb with rfl | rfl
    · rw [h1S1] at e; cases e
    · rw [h1S] at e; cases e
  · rintro i a b tk₃ m₃ h₃ C vs' K' hK hK' hC hi₃ htk₃ ⟨ti, x, hx, hab⟩ hJ hlen₃ F₃ ma mb
    simp only [Array.mk.injEq, List.cons.injEq, and_true] at hab
    obtain ⟨rfl, rfl⟩ := hab
    obtain ⟨f, tf, hf, rfl⟩ := intsGet hvs (i := i) (v := b) (by simpa using hx)
    have k₃ : ∀ b o, s.heap.get? b = some o → h₃.get? b = some o := fun b o e => F₃.keep _ _ (hK _ _ (k₁ _ _ e))
    have T₃ : TopH w h₃ := T.keeps k₃
    have i5 : i < 5 := by rw [List.size_toArray, hvl] at hi₃; exact hi₃
    refine wpAny_BinOp ?_
    refine bcall1 (id := "sum") T₃ (by kernel_rfl) (by kernel_rfl) (by kernel_rfl) ?_ (by kernel_rfl) (by kernel_rfl) (by kernel_rfl) rfl rfl
    refine wpAny_Subscript_Slice_step (T := "list") list_getitem_lookup ?_
    refine ldCell (c := L + 1) (by kernel_rfl) (k₃ _ _ gc) hod ?_ (by kernel_rfl) (by kernel_rfl)
    refine wpAny_Slice ?_
    rw [evalPart_some, evalPart_none, evalPart_some]
    refine ldE F₃ ma ?_ (by kernel_rfl) (by kernel_rfl)
    refine wpAny_pure ?_
    refine wpAny_Constant_int ?_
    dsimp only
    have PD₃ : h₃.IsList D dvs := PD.isList.at fun o e => k₃ _ _ e
    have dsz : dvs.size = Dl.length := by have := intsLen hi; rwa [Array.length_toList] at this
    refine ⟨(PD₃.push _).typeIs, ?_⟩
    refine wpAny_getItem_list_slice (lo := some (i : Int)) (hi := none) (st := some 5) (PD₃.push _) (Heap.IsSliceOf.new ..) (.int _ _) .none (.int _ _) (by simp) ?_ (by rw [dsz, sizeLine_eq]; lia)
    dsimp only
    obtain ⟨h₄, hh₄⟩ : ∃ h₄, (h₃.push { cls := .type "slice", data := .fields #[.int (i : Int) ti, .none, .int 5 tk₃] }).push { cls := .type "list", data := .seq (slicePick dvs (some (i : Int)) none (some 5)) } = h₄ := ⟨_, rfl⟩
    have k₄ : ∀ b o, h₃.get? b = some o → h₄.get? b = some o := fun b o e => by rw [← hh₄]; exact Heap.get?_push_of_some _ (Heap.get?_push_of_some _ e)
    rw [hh₄]
    have l₄ : h₄.IsList (h₃.push { cls := .type "slice", data := .fields #[.int (i : Int) ti, .none, .int 5 tk₃] }).objs.size (slicePick dvs (some (i : Int)) none (some 5)).toList.toArray := by
      rw [← hh₄]
      exact ⟨_, Heap.get?_push_size _ rfl, rfl, _, by rw [Array.toArray_toList]⟩
    refine sumListX hh l₄ (intsPick hi _ _ _) fun h₅ t₅ tk₅ k₅ => ?_
    dsimp only at k₅ ⊢
    have F₅ := (F₃.keeps k₄).keeps k₅
    refine ldE F₅ mb ?_ (by kernel_rfl) (by kernel_rfl)
    refine P.add_int ?_
    refine ⟨_, _, _, rfl, F₅, ?_⟩
    have e : (cellsL Dl)[i]? = some (cellAt Dl i f) := by
      unfold cellsL
      rw [List.getElem?_map, List.getElem?_zipIdx, hf]; simp
    rw [take_one e]
    exact intsSnoc hJ
  · rintro h₃ tk₃ C D' vs' m₃ htk₃ k₃ hD hC hDC hn PD' hJ
    dsimp only at htk₃ hD ⊢
    have e : (cellsL Dl).take vs.toArray.size = cellsL Dl := List.take_of_length_le (by rw [List.size_toArray, hvl]; unfold cellsL; simp [firstL])
    rw [e] at hJ
    refine ⟨h₃, D', vs', m₃, tk₃, rfl, rfl, hDC, hn, PD', hD, fun h₄ F₄ k₄ P₄ => ?_⟩
    refine h h₄ (tk₃ + 1) D' vs'.toArray (fun b o hb e => F₄.keep b o ⟨e, hb⟩) F₄.ns P₄ (by simpa using hJ) (none_of_keeps kk hD)
end
end Mine
namespace Mine
open PySem PySem.W PySem.Challenge PySem.Calls PyProof.Rows

noncomputable def rowOf (k : Nat) (a b c : Int) : List Int := match k with | 0 => [a, b, c] | 1 => [a, b, 0, c] | _ => [a, b, 127, c]
noncomputable def wantOf (k : Nat) (a b c : Int) : List Int := match k with | 0 => [a, b, c] | 1 => [a, b, b] | _ => [a, b]
noncomputable def castL (l : List Nat) : List Int := l.map fun k : Nat => (k : Int)

section
variable {w : World} {A : Around} {E : Value → Shared → Prop} {s : Shared} {n : Nat}

theorem lst4 {env : Env} {pos : Pos} {e1 e2 e3 e4 : Expr} {Q : Value → Shared → Prop} (ht : backTo pos (starEach [e1, e2, e3, e4] env) = [(false, eval e1 env), (false, eval e2 env), (false, eval e3 env), (false, eval e4 env)])
    (h : wpAny (model pw w) A (eval e1 env) (fun v1 s1 => wpAny (model pw w) A (eval e2 env) (fun v2 s2 => wpAny (model pw w) A (eval e3 env) (fun v3 s3 => wpAny (model pw w) A (eval e4 env) (fun v4 s4 => wpAny (model pw w) A (newList [v1, v2, v3, v4]) Q E s4) E s3) E s2) E s1) E s) :
    wpAny (model pw w) A (eval (.List [e1, e2, e3, e4] pos) env) Q E s :=
  List_ (by rw [ht]; exact spliced_cons (wpAny_mono h (fun _ _ x => spliced_cons (wpAny_mono x (fun _ _ x => spliced_cons (wpAny_mono x (fun _ _ x => spliced_cons (wpAny_mono x (fun _ _ x => spliced_nil x) fun _ _ e => e)) fun _ _ e => e)) fun _ _ e => e)) fun _ _ e => e))

/-- an item of a tuple of lists, the place reckoned -/
theorem pickT {value slice : Expr} {t : Addr} {items : Array Value} {k : Nat} {u : Tok} {x : Value} {Q : Value → Shared → Prop} (hT : IsTup s.heap t items) (hk : k < items.size) (hsz : items.size ≤ 100) (hx : items[k]? = some x)
    (hs : subscripted slice false (.ref t) (.int (k : Nat) u) = operate [.ref t, .int (k : Nat) u] (getItem (.ref t) (.int (k : Nat) u))) (h : Q x s) :
    wpAny (model pw w) A (subscriptTail value slice (.ref t) (.int (k : Nat) u)) Q E s := by
  refine subscriptTail_builtinR (x := x) hT.typeIs slot_tuple_getitem.lookup ?_ hs
  exact getItem_tuple (j := k) (x := x) hT (by lia) (by lia) (by unfold seqIndex?; simp; lia) hx ⟨rfl, h⟩

theorem law3 {L C : Addr} {cvs : Array Value} {c0 c1 c2 c3 c4 : Nat} {m : Str → Option Value} {Q : Flow → Shared → Prop} (T : TopH w s.heap) (hh : A.handled = none) (ns : s.heap.Ns L m) (mC : m (Str.ofString "cells") = some (.ref C))
    (PC : s.heap.PlainList C cvs) (hi : IntsAre cvs.toList (castL [c0, c1, c2, c3, c4]))
    (h : ∀ h' tk m' R W rvs wvs, (∀ b o, b ≠ L → s.heap.get? b = some o → h'.get? b = some o) → h'.Ns L m' → m' (Str.ofString "cells") = some (.ref C) → m' (Str.ofString "row") = some (.ref R) → m' (Str.ofString "want") = some (.ref W) →
      h'.PlainList R rvs → IntsAre rvs.toList (rowOf (c3 % 3) (1 + c0 % 3 : Nat) (1 + c1 % 2 : Nat) (1 + c2 % 2 : Nat)) → h'.PlainList W wvs → IntsAre wvs.toList (wantOf (c3 % 3) (1 + c0 % 3 : Nat) (1 + c1 % 2 : Nat) (1 + c2 % 2 : Nat)) → s.heap.get? R = none → s.heap.get? W = none →
      wpAny (model pw w) A (execs ((fBody (stA 26)).drop 5) (envW L)) Q E { s with heap := h', toks := tk }) :
    wpAny (model pw w) A (execs ((fBody (stA 26)).drop 2) (envW L)) Q E s := by
  have F : Fx (fun b o => s.heap.get? b = some o ∧ b ≠ L) L s.heap m := ⟨ns, fun b o e => e.1, fun o e => e.2 rfl⟩
  have fm : ∀ (a b : Nat), 0 < b → (a : Int).fmod (b : Int) = ((a % b : Nat) : Int) := fun a b hb => by
    rw [Int.fmod_eq_emod_of_nonneg _ (by lia)]; lia
  have PC' : s.heap.IsList C cvs.toList.toArray := by rw [Array.toArray_toList]; exact PC.isList
  refine wpAny_execs_cons ?_
  refine Assign_Tuple_swapped (names := [Str.ofString "soon", Str.ofString "then", Str.ofString "later"]) ?_ (by kernel_rfl) (by kernel_rfl)
  refine tup3 (by kernel_rfl) ?_
  refine wpAny_BinOp ?_
  refine wpAny_Constant_int ?_
  refine wpAny_BinOp ?_
  refine itemL (c := 0) (fun Q' hq => ldE F mC hq) PC' hi rfl (by decide) (by intro _ _; rfl) fun t0 => ?_
  refine wpAny_Constant_int ?_
  refine mod_int (by decide) ?_
  refine P.add_int ?_
  refine wpAny_BinOp ?_
  refine wpAny_Constant_int ?_
  refine wpAny_BinOp ?_
  refine itemL (c := 1) (fun Q' hq => ldE F mC hq) PC' hi rfl (by decide) (by intro _ _; rfl) fun t1 => ?_
  refine wpAny_Constant_int ?_
  refine mod_int (by decide) ?_
  refine P.add_int ?_
  refine wpAny_BinOp ?_
  refine wpAny_Constant_int ?_
  refine wpAny_BinOp ?_
  refine itemL (c := 2) (fun Q' hq => ldE F mC hq) PC' hi rfl (by decide) (by intro _ _; rfl) fun t2 => ?_
  refine wpAny_Constant_int ?_
  refine mod_int (by decide) ?_
  refine P.add_int ?_
  dsimp only
  obtain ⟨a, ha⟩ : ∃ a : Nat, 1 + c0 % 3 = a := ⟨_, rfl⟩
  obtain ⟨b, hb⟩ : ∃ b : Nat, 1 + c1 % 2 = b := ⟨_, rfl⟩
  obtain ⟨c, hc⟩ : ∃ c : Nat, 1 + c2 % 2 = c := ⟨_, rfl⟩
  have f0 : (c0 : Int).fmod 3 = ((c0 % 3 : Nat) : Int) := fm c0 3 (by decide)
  have f1 : (c1 : Int).fmod 2 = ((c1 % 2 : Nat) : Int) := fm c1 2 (by decide)
  have f2 : (c2 : Int).fmod 2 = ((c2 % 2 : Nat) : Int) := fm c2 2 (by decide)
  have f3 : (c3 : Int).fmod 3 = ((c3 % 3 : Nat) : Int) := fm c3 3 (by decide)
  have g0 : 1 + (c0 : Int).fmod 3 = (a : Int) := by lia
  have g1 : 1 + (c1 : Int).fmod 2 = (b : Int) := by lia
  have g2 : 1 + (c2 : Int).fmod 2 = (c : Int) := by lia
  rw [g0, g1, g2]
  rw [ha, hb, hc] at h
  obtain ⟨k, hk⟩ : ∃ k : Nat, c3 % 3 = k := ⟨_, rfl⟩
  have k3 : k < 3 := by lia
  rw [hk] at h f3
  refine newTupX F (fun h₁ F₁ k₁ t₁ => ?_) (by show 3 ≤ sizeLine; decide)
  refine unpackX F₁ t₁ hh rfl fun h₂ F₂ k₂ => ?_
  refine order3 ?_
  refine bindName_ (stx F₂ fun h₃ F₃ s₃ => bindName_ (stx F₃ fun h₄ F₄ s₄ => bindName_ (stx F₄ fun h₅ F₅ s₅ => ?_)))
  dsimp only at F₅ ⊢
  have F₅ : Fx (fun b o => s.heap.get? b = some o ∧ b ≠ L) L h₅ _ := F₅.mono fun b o e => .inl e
  obtain ⟨m₅, F₅, mC, ⟨ta, ma⟩, ⟨tb, mb⟩, ⟨tc, mc⟩⟩ : ∃ m₅, Fx (fun b o => s.heap.get? b = some o ∧ b ≠ L) L h₅ m₅ ∧ m₅ (Str.ofString "cells") = some (.ref C) ∧ (∃ t, m₅ (Str.ofString "soon") = some (.int (a : Int) t)) ∧ (∃ t, m₅ (Str.ofString "then") = some (.int (b : Int) t)) ∧ (∃ t, m₅ (Str.ofString "later") = some (.int (c : Int) t)) :=
    ⟨_, F₅, mC, ⟨_, rfl⟩, ⟨_, rfl⟩, ⟨_, rfl⟩⟩
  have CL : C ≠ L := by
    rintro rfl
    obtain ⟨o, _, _, e, d, _⟩ := ns
    obtain ⟨nn, e'⟩ := PC
    rw [e] at e'; cases e'; cases d
  have PC₅ : h₅.IsList C cvs.toList.toArray := PC'.at fun o e => F₅.keep _ _ ⟨e, CL⟩
  have none₅ : ∀ b, b ≠ L → h₅.get? b = none → s.heap.get? b = none := fun b hb e => by
    cases e' : s.heap.get? b with
    | none => rfl
    | some o => rw [F₅.keep b o ⟨e', hb⟩] at e; cases e
  refine wpAny_execs_cons ?_
  refine wpAny_Assign_Name ?_ ?hs
  case hs => kernel_rfl
  refine Subscript_ ?_
  refine tup3 (by kernel_rfl) ?_
  refine lst3 (by kernel_rfl) ?_
  refine ldE F₅ ma ?_
  refine ldE F₅ mb ?_
  refine ldE F₅ mc ?_
  refine newListP F₅ (fun h₆ F₆ k₆ P₆ => ?_) (by show 3 ≤ sizeLine; decide)
  refine lst4 (by kernel_rfl) ?_
  refine ldE F₆ ma ?_
  refine ldE F₆ mb ?_
  refine wpAny_Constant_int ?_
  refine ldE F₆ mc ?_
  refine newListP F₆ (fun h₇ F₇ k₇ P₇ => ?_) (by show 4 ≤ sizeLine; decide)
  refine lst4 (by kernel_rfl) ?_
  refine ldE F₇ ma ?_
  refine ldE F₇ mb ?_
  refine wpAny_Constant_int ?_
  refine ldE F₇ mc ?_
  refine newListP F₇ (fun h₈ F₈ k₈ P₈ => ?_) (by show 4 ≤ sizeLine; decide)
  refine newTupX F₈ (fun h₉ F₉ k₉ t₉ => ?_) (by show 3 ≤ sizeLine; decide)
  dsimp only at k₆ P₆ k₇ P₇ k₈ P₈ k₉ t₉ F₉ ⊢
  have F₉ : Fx (fun b o => s.heap.get? b = some o ∧ b ≠ L) L h₉ m₅ := F₉.mono fun b o e => .inl e
  have PC₉ : h₉.IsList C cvs.toList.toArray := PC'.at fun o e => F₉.keep _ _ ⟨e, CL⟩
  refine wpAny_BinOp ?_
  refine itemL (c := 3) (fun Q' hq => ldE F₉ mC hq) PC₉ hi rfl (by decide) (by intro _ _; rfl) fun t3 => ?_
  refine wpAny_Constant_int ?_
  refine mod_int (by decide) ?_
  rw [f3]
  obtain ⟨R, rvs, hx, PR, IR, Rn, RL⟩ : ∃ R rvs, (#[Value.ref h₅.objs.size, .ref h₆.objs.size, .ref h₇.objs.size] : Array Value)[k]? = some (.ref R) ∧ h₉.PlainList R rvs ∧ IntsAre rvs.toList (rowOf k a b c) ∧ h₅.get? R = none ∧ R ≠ L := by
    match k, k3 with
    | 0, _ => exact ⟨h₅.objs.size, _, rfl, P₆.at fun o e => k₉ _ _ (k₈ _ _ (k₇ _ _ e)), .cons _ _ (.cons _ _ (.cons _ _ .nil)), gone_of_size (Nat.le_refl _), Nat.ne_of_gt F₅.ltL⟩
    | 1, _ => exact ⟨h₆.objs.size, _, rfl, P₇.at fun o e => k₉ _ _ (k₈ _ _ e), .cons _ _ (.cons _ _ (.cons _ _ (.cons _ _ .nil))), none_of_keeps k₆ (gone_of_size (Nat.le_refl _)), Nat.ne_of_gt F₆.ltL⟩
    | 2, _ => exact ⟨h₇.objs.size, _, rfl, P₈.at fun o e => k₉ _ _ e, .cons _ _ (.cons _ _ (.cons _ _ (.cons _ _ .nil))), none_of_keeps k₆ (none_of_keeps k₇ (gone_of_size (Nat.le_refl _))), Nat.ne_of_gt F₇.ltL⟩
  refine pickT t₉ (by simpa using k3) (by simp) (by simpa using hx) (by with_unfolding_all rfl) ?_
  refine stx F₉ fun h₁₀ F₁₀ s₁₀ => ?_
  dsimp only at F₁₀ s₁₀ ⊢
  have PR₁₀ : h₁₀.PlainList R rvs := PR.at fun o e => (s₁₀.2 R RL).trans e
  have none₁₀ : ∀ b, h₁₀.get? b = none → b ≠ L → h₅.get? b = none := fun b e hb => none_of_keeps (h := h₅) (h' := h₉) (fun b o e => k₉ _ _ (k₈ _ _ (k₇ _ _ (k₆ _ _ e)))) (by
    cases e' : h₉.get? b with
    | none => rfl
    | some o => rw [(s₁₀.2 b hb).trans e'] at e; cases e)
  obtain ⟨m₁₀, F₁₀, mC, mR, ⟨ta, ma⟩, ⟨tb, mb⟩, ⟨tc, mc⟩⟩ : ∃ m₁₀, Fx (fun b o => s.heap.get? b = some o ∧ b ≠ L) L h₁₀ m₁₀ ∧ m₁₀ (Str.ofString "cells") = some (.ref C) ∧ m₁₀ (Str.ofString "row") = some (.ref R) ∧ (∃ t, m₁₀ (Str.ofString "soon") = some (.int (a : Int) t)) ∧ (∃ t, m₁₀ (Str.ofString "then") = some (.int (b : Int) t)) ∧ (∃ t, m₁₀ (Str.ofString "later") = some (.int (c : Int) t)) :=
    ⟨_, F₁₀, mC, rfl, ⟨_, ma⟩, ⟨_, mb⟩, ⟨_, mc⟩⟩
  refine wpAny_execs_cons ?_
  refine wpAny_Assign_Name ?_ ?hs
  case hs => kernel_rfl
  refine Subscript_ ?_
  refine tup3 (by kernel_rfl) ?_
  refine lst3 (by kernel_rfl) ?_
  refine ldE F₁₀ ma ?_
  refine ldE F₁₀ mb ?_
  refine ldE F₁₀ mc ?_
  refine newListP F₁₀ (fun h₁₆ F₁₆ k₁₆ P₁₆ => ?_) (by show 3 ≤ sizeLine; decide)
  refine lst3 (by kernel_rfl) ?_
  refine ldE F₁₆ ma ?_
  refine ldE F₁₆ mb ?_
  refine ldE F₁₆ mb ?_
  refine newListP F₁₆ (fun h₁₇ F₁₇ k₁₇ P₁₇ => ?_) (by show 3 ≤ sizeLine; decide)
  refine lst2 (by kernel_rfl) ?_
  refine ldE F₁₇ ma ?_
  refine ldE F₁₇ mb ?_
  refine newListP F₁₇ (fun h₁₈ F₁₈ k₁₈ P₁₈ => ?_) (by show 2 ≤ sizeLine; decide)
  refine newTupX F₁₈ (fun h₁₉ F₁₉ k₁₉ t₁₉ => ?_) (by show 3 ≤ sizeLine; decide)
  dsimp only at k₁₆ P₁₆ k₁₇ P₁₇ k₁₈ P₁₈ k₁₉ t₁₉ F₁₉ ⊢
  have F₁₉ : Fx (fun b o => s.heap.get? b = some o ∧ b ≠ L) L h₁₉ m₁₀ := F₁₉.mono fun b o e => .inl e
  have PC₁₉ : h₁₉.IsList C cvs.toList.toArray := PC'.at fun o e => F₁₉.keep _ _ ⟨e, CL⟩
  refine wpAny_BinOp ?_
  refine itemL (c := 3) (fun Q' hq => ldE F₁₉ mC hq) PC₁₉ hi rfl (by decide) (by intro _ _; rfl) fun t3 => ?_
  refine wpAny_Constant_int ?_
  refine mod_int (by decide) ?_
  rw [f3]
  obtain ⟨W, wvs, hxW, PW, IW, Wn, WL⟩ : ∃ W wvs, (#[Value.ref h₁₀.objs.size, .ref h₁₆.objs.size, .ref h₁₇.objs.size] : Array Value)[k]? = some (.ref W) ∧ h₁₉.PlainList W wvs ∧ IntsAre wvs.toList (wantOf k a b c) ∧ h₁₀.get? W = none ∧ W ≠ L := by
    match k, k3 with
    | 0, _ => exact ⟨h₁₀.objs.size, _, rfl, P₁₆.at fun o e => k₁₉ _ _ (k₁₈ _ _ (k₁₇ _ _ e)), .cons _ _ (.cons _ _ (.cons _ _ .nil)), gone_of_size (Nat.le_refl _), Nat.ne_of_gt F₁₀.ltL⟩
    | 1, _ => exact ⟨h₁₆.objs.size, _, rfl, P₁₇.at fun o e => k₁₉ _ _ (k₁₈ _ _ e), .cons _ _ (.cons _ _ (.cons _ _ .nil)), none_of_keeps k₁₆ (gone_of_size (Nat.le_refl _)), Nat.ne_of_gt F₁₆.ltL⟩
    | 2, _ => exact ⟨h₁₇.objs.size, _, rfl, P₁₈.at fun o e => k₁₉ _ _ e, .cons _ _ (.cons _ _ .nil), none_of_keeps k₁₆ (none_of_keeps k₁₇ (gone_of_size (Nat.le_refl _))), Nat.ne_of_gt F₁₇.ltL⟩
  refine pickT t₁₉ (by simpa using k3) (by simp) (by simpa using hxW) (by with_unfolding_all rfl) ?_
  refine stx F₁₉ fun h₂₀ F₂₀ s₂₀ => ?_
  dsimp only at F₂₀ s₂₀ ⊢
  have PR₂₀ : h₂₀.PlainList R rvs := PR₁₀.at fun o e => (s₂₀.2 R RL).trans (k₁₉ _ _ (k₁₈ _ _ (k₁₇ _ _ (k₁₆ _ _ e))))
  exact h h₂₀ _ _ R W rvs wvs (fun b o hb e => F₂₀.keep _ _ ⟨e, hb⟩) F₂₀.ns mC mR rfl PR₂₀ IR (PW.at fun o e => (s₂₀.2 W WL).trans e) IW (none₅ R RL Rn) (none₅ W WL (none₁₀ W Wn WL))
end
end Mine
namespace Mine
open PySem PySem.W PySem.Challenge PySem.Calls PyProof.Rows

theorem intsAt : ∀ {vs : List Value} {ns : List Int}, IntsAre vs ns → ∀ {i : Nat} {z : Int}, ns[i]? = some z → ∃ t, vs[i]? = some (Value.int z t)
  | _, _, .nil, i, z, h => by simp at h
  | _, _, .cons n t r, 0, z, h => by simp at h; subst h; exact ⟨t, rfl⟩
  | _, _, .cons n t r, i + 1, z, h => by simpa using intsAt r (i := i) (z := z) (by simpa using h)

theorem gotInts {its : Array Value} {ys : List Int} (g : Got its ys ys.length) : IntsAre its.toList ys := by
  obtain ⟨g1, g2⟩ := g
  obtain ⟨l⟩ := its
  replace g1 : l.length = ys.length := by simpa using g1
  replace g2 : ∀ (i : Nat) (v : Value), l[i]? = some v → ∃ z t, ys[i]? = some z ∧ v = Value.int z t := fun i v h => g2 i v (by simpa using h)
  show IntsAre l ys
  induction l generalizing ys with
  | nil => cases ys with
    | nil => exact .nil
    | cons y ys => simp at g1
  | cons v l ih => cases ys with
    | nil => simp at g1
    | cons y ys =>
      obtain ⟨z, t, e1, rfl⟩ := g2 0 v rfl
      simp at e1
      subst e1
      exact .cons _ t (ih (by simpa using g1) fun i v h => by simpa using g2 (i + 1) v (by simpa using h))

section
variable {w : World} {A : Around} {E : Value → Shared → Prop} {s : Shared} {n : Nat}

theorem neInts {l b : Addr} {xs ys : Array Value} {ns : List Int} {Q : Value → Shared → Prop} (hl : s.heap.IsList l xs) (hb : s.heap.IsList b ys) (hx : IntsAre xs.toList ns) (hy : IntsAre ys.toList ns) (hu : A.units < cLine)
    (h : Q (.bool false) s) : wpAny (model pw w) A (compareOp .NotEq (.ref l) (.ref b)) Q E s := by
  have e1 := intsLen hx; have e2 := intsLen hy
  rw [Array.length_toList] at e1 e2
  have hall : (List.range xs.size).all (fun _ => true) = true := by simp
  refine PySem.EqBoolInt.of_rcne (k := false) ?_ h
  have := SeqAt.RcNeAt.lists (A := A) (e := fun _ => true) hl hb (e1.trans e2.symm) hu (fun j h1 h2 => ?_)
  · rw [hall] at this; exact this
  · obtain ⟨n1, t1, c1, d1⟩ := intsGet hx (i := j) (v := xs[j]) (by simp [h1])
    obtain ⟨n2, t2, c2, d2⟩ := intsGet hy (i := j) (v := ys[j]) (by simp [h2])
    rw [c1] at c2; cases c2
    rw [d1, d2]
    have := SeqAt.EqAt.int_int (A := A.in1) (s := s) n1 t1 n1 t2
    rwa [show (n1 == n1) = true by simp] at this

theorem law4 {L R W : Addr} {rvs wvs : Array Value} {row want : List Int} {m : Str → Option Value} {Q : Flow → Shared → Prop} (T : TopH w s.heap) (hr : Room A (n + 2)) (ns : s.heap.Ns L m) (mR : m (Str.ofString "row") = some (.ref R)) (mW : m (Str.ofString "want") = some (.ref W))
    (PR : s.heap.PlainList R rvs) (IR : IntsAre rvs.toList row) (PW : s.heap.PlainList W wvs) (IW : IntsAre wvs.toList want) (hrow : RowIs row want)
    (h : ∀ h' tk S its gs, (∀ b o, b ≠ L → s.heap.get? b = some o → h'.get? b = some o) → h'.Ns L (fun y => if y = Str.ofString "sizes" then some (.ref S) else m y) → s.heap.get? S = none → S ≠ L → h'.PlainList S its → IntsAre its.toList want → gs.bare = true → s.toks ≤ tk →
      wpAny (model pw w) A (execs ((fBody (stA 26)).drop 7) (envW L)) Q E { s with heap := h', gens := s.gens.push gs, toks := tk }) :
    wpAny (model pw w) A (execs ((fBody (stA 26)).drop 5) (envW L)) Q E s := by
  have F : Fx (fun b o => s.heap.get? b = some o ∧ b ≠ L) L s.heap m := ⟨ns, fun b o e => e.1, fun o e => e.2 rfl⟩
  have WL : W ≠ L := by
    rintro rfl
    obtain ⟨o, _, _, e, d, _⟩ := ns
    obtain ⟨nn, e'⟩ := PW
    rw [e] at e'; cases e'; cases d
  refine wpAny_execs_cons ?_
  refine wpAny_Assign_Name ?_ ?hs
  case hs => kernel_rfl
  refine gcall1 T (fnSizes _) (by kernel_rfl) (by kernel_rfl) ?_ (by kernel_rfl) (by kernel_rfl) (by kernel_rfl) rfl
  refine ldE F mR ⟨T, ?_⟩
  obtain ⟨nR, gR⟩ := id PR
  refine sizes_call hrow T hr gR rfl rfl (fun i z hz => ?_) fun h₁ tk₁ S its gs htk₁ k₁ Sn PS hg hb => ?_
  · obtain ⟨t, e⟩ := intsAt IR hz
    exact ⟨t, by simpa using e⟩
  dsimp only at htk₁ k₁ Sn ⊢
  have F₁ : Fx (fun b o => s.heap.get? b = some o ∧ b ≠ L) L h₁ m := F.keeps k₁
  have SL : S ≠ L := by
    rintro rfl
    obtain ⟨o, _, _, e, _⟩ := ns
    rw [e] at Sn; cases Sn
  refine stx F₁ fun h₂ F₂ s₂ => ?_
  dsimp only at F₂ s₂ ⊢
  have PS₂ : h₂.PlainList S its := PS.at fun o e => (s₂.2 S SL).trans e
  have PW₂ : h₂.PlainList W wvs := PW.at fun o e => F₂.keep _ _ ⟨e, WL⟩
  refine wpAny_execs_cons ?_
  refine wpAny_If ?_
  refine wpAny_isTrue_Compare1 ?_
  refine ldE F₂ rfl ?_
  refine ldE F₂ mW ?_
  refine neInts PS₂.isList PW₂.isList (gotInts hg) IW (by have := hr.units; lia) ?_
  refine wpAny_truthy_bool ?_
  rw [if_neg (by simp)]
  refine wpAny_execs_nil ?_
  exact h h₂ _ S its gs (fun b o hb e => F₂.keep _ _ ⟨e, hb⟩) F₂.ns Sn SL PS₂ (gotInts hg) hb (Nat.le_trans htk₁ (Nat.le_succ _))
end
end Mine
namespace Mine
open PySem PySem.W PySem.Challenge PySem.Calls PyProof.Rows

noncomputable def plainS (lo mi : Nat) : Str := wordI ((mi : Int) + 1) (mi : Int) (lo : Int)
theorem plain_len {lo mi : Nat} (h1 : lo < 2) (h2 : mi < lo + 2) : (plainS lo mi).length = mi + 1 + mi + lo := by
  have : (lo = 0 ∨ lo = 1) ∧ (mi = 0 ∨ mi = 1 ∨ mi = 2) := by lia
  obtain ⟨rfl | rfl, rfl | rfl | rfl⟩ := this <;> first | rfl | decide +kernel

section
variable {w : World} {A : Around} {E : Value → Shared → Prop} {s : Shared} {n : Nat}

theorem law5 {L C : Addr} {cvs : Array Value} {c0 c1 c2 c3 c4 lo mi : Nat} {m : Str → Option Value} {Q : Flow → Shared → Prop} (T : TopH w s.heap) (fL : Free w L) (ns : s.heap.Ns L m) (mC : m (Str.ofString "cells") = some (.ref C))
    (PC : s.heap.PlainList C cvs) (hi : IntsAre cvs.toList (castL [c0, c1, c2, c3, c4])) (hlo : c3 / 3 % 2 = lo) (hmi : lo + c3 / 6 % 2 = mi)
    (h : ∀ h' tk t1 t2 t3 t4, (∀ b o, b ≠ L → s.heap.get? b = some o → h'.get? b = some o) →
      h'.Ns L (fun y => if y = Str.ofString "cut" then some (.int ((c4 % (mi + 1 + mi + lo) : Nat) : Int) t4) else if y = Str.ofString "plain" then some (.str (plainS lo mi) t3) else if y = Str.ofString "mid" then some (.int (mi : Nat) t2) else if y = Str.ofString "low" then some (.int (lo : Nat) t1) else m y) →
      wpAny (model pw w) A (execs ((fBody (stA 26)).drop 11) (envW L)) Q E { s with heap := h', toks := tk }) :
    wpAny (model pw w) A (execs ((fBody (stA 26)).drop 7) (envW L)) Q E s := by
  have F : Fx (fun b o => s.heap.get? b = some o ∧ b ≠ L) L s.heap m := ⟨ns, fun b o e => e.1, fun o e => e.2 rfl⟩
  have fm : ∀ (a b : Nat), 0 < b → (a : Int).fmod (b : Int) = ((a % b : Nat) : Int) := fun a b hb => by
    rw [Int.fmod_eq_emod_of_nonneg _ (by lia)]; lia
  have fd : ∀ (a b : Nat), 0 < b → (a : Int).fdiv (b : Int) = ((a / b : Nat) : Int) := fun a b hb => by
    rw [Int.fdiv_eq_ediv_of_nonneg _ (by lia)]; lia
  have CL : C ≠ L := by
    rintro rfl
    obtain ⟨o, _, _, e, d, _⟩ := ns
    obtain ⟨nn, e'⟩ := PC
    rw [e] at e'; cases e'; cases d
  have PC' : s.heap.IsList C cvs.toList.toArray := by rw [Array.toArray_toList]; exact PC.isList
  have hl2 : lo < 2 := by lia
  have hm2 : mi < lo + 2 := by lia
  have hpl := plain_len hl2 hm2
  have e1 : ((c3 : Int).fdiv 3).fmod 2 = ((lo : Nat) : Int) := by
    have a := fd c3 3 (by decide)
    have b := fm (c3 / 3) 2 (by decide)
    rw [show (3 : Int) = ((3 : Nat) : Int) from rfl, a, show (2 : Int) = ((2 : Nat) : Int) from rfl, b, hlo]
  have e2 : (lo : Int) + ((c3 : Int).fdiv 6).fmod 2 = ((mi : Nat) : Int) := by
    have a := fd c3 6 (by decide)
    have b := fm (c3 / 6) 2 (by decide)
    rw [show (6 : Int) = ((6 : Nat) : Int) from rfl, a, show (2 : Int) = ((2 : Nat) : Int) from rfl, b]; lia
  refine wpAny_execs_cons ?_
  refine wpAny_Assign_Name ?_ ?hs
  case hs => kernel_rfl
  refine wpAny_BinOp ?_
  refine wpAny_BinOp ?_
  refine itemL (c := 3) (fun Q' hq => ldE F mC hq) PC' hi rfl (by decide) (by intro _ _; rfl) fun t0 => ?_
  refine wpAny_Constant_int ?_
  refine floordiv_int (by decide) ?_
  refine wpAny_Constant_int ?_
  refine mod_int (by decide) ?_
  rw [e1]
  refine stx F fun h₁ F₁ s₁ => ?_
  dsimp only at F₁ s₁ ⊢
  have PC₁ : h₁.IsList C cvs.toList.toArray := PC'.at fun o e => F₁.keep _ _ ⟨e, CL⟩
  refine wpAny_execs_cons ?_
  refine wpAny_Assign_Name ?_ ?hs
  case hs => kernel_rfl
  refine wpAny_BinOp ?_
  refine ldE F₁ rfl ?_
  refine wpAny_BinOp ?_
  refine wpAny_BinOp ?_
  refine itemL (c := 3) (fun Q' hq => ldE F₁ mC hq) PC₁ hi rfl (by decide) (by intro _ _; rfl) fun t0 => ?_
  refine wpAny_Constant_int ?_
  refine floordiv_int (by decide) ?_
  refine wpAny_Constant_int ?_
  refine mod_int (by decide) ?_
  refine P.add_int ?_
  rw [e2]
  refine stx F₁ fun h₂ F₂ s₂ => ?_
  dsimp only at F₂ s₂ ⊢
  have PC₂ : h₂.IsList C cvs.toList.toArray := PC'.at fun o e => F₂.keep _ _ ⟨e, CL⟩
  obtain ⟨ma, la⟩ := one_mul (n := (mi : Int) + 1) (x := Str.ofString "a") (by rfl) (by lia) (by lia)
  obtain ⟨mb, lb⟩ := one_mul (n := (mi : Int)) (x := Str.ofString "b") (by rfl) (by lia) (by lia)
  obtain ⟨mc, lc⟩ := one_mul (n := (lo : Int)) (x := Str.ofString "c") (by rfl) (by lia) (by lia)
  refine wpAny_execs_cons ?_
  refine wpAny_Assign_Name ?_ ?hs
  case hs => kernel_rfl
  refine wpAny_BinOp ?_
  refine wpAny_BinOp ?_
  refine wpAny_BinOp ?_
  refine Constant_str ?_
  refine wpAny_BinOp ?_
  refine ldE F₂ rfl ?_
  refine wpAny_Constant_int ?_
  refine P.add_int ?_
  refine SB.mul ma fun t₇ tk₇ => ?_
  refine wpAny_BinOp ?_
  refine Constant_str ?_
  refine ldE F₂ rfl ?_
  refine SB.mul mb fun t₈ tk₈ => ?_
  refine SB.add (fun t₉ tk₉ => ?_) (by rw [sizeLine_eq]; lia)
  refine wpAny_BinOp ?_
  refine Constant_str ?_
  refine ldE F₂ rfl ?_
  refine SB.mul mc fun t₁₀ tk₁₀ => ?_
  refine SB.add (fun t₁₁ tk₁₁ => ?_) (by rw [sizeLine_eq, Str.length_append]; lia)
  refine stx (v := .str (plainS lo mi) t₁₁) F₂ fun h₃ F₃ s₃ => ?_
  dsimp only at F₃ s₃ ⊢
  have PC₃ : h₃.IsList C cvs.toList.toArray := PC'.at fun o e => F₃.keep _ _ ⟨e, CL⟩
  have T₃ : TopH w h₃ := T.but fL fun b o hb e => F₃.keep _ _ ⟨e, hb⟩
  refine wpAny_execs_cons ?_
  refine wpAny_Assign_Name ?_ ?hs
  case hs => kernel_rfl
  refine wpAny_BinOp ?_
  refine itemL (c := 4) (fun Q' hq => ldE F₃ mC hq) PC₃ hi rfl (by decide) (by intro _ _; rfl) fun t0 => ?_
  refine bcall1 (id := "len") T₃ (by kernel_rfl) (by kernel_rfl) (by kernel_rfl) ?_ (by kernel_rfl) (by kernel_rfl) (by kernel_rfl) rfl rfl
  refine ldE F₃ rfl ?_
  refine P.len_str (by rw [hpl]; lia) ?_
  rw [hpl]
  refine mod_int (by lia) ?_
  rw [fm c4 _ (by lia)]
  refine stx F₃ fun h₄ F₄ s₄ => ?_
  dsimp only at F₄ s₄ ⊢
  exact h h₄ _ _ _ _ _ (fun b o hb e => F₄.keep _ _ ⟨e, hb⟩) F₄.ns
end
end Mine
namespace Mine
open PySem PySem.W PySem.Challenge PySem.Calls PyProof.Rows

noncomputable def turnS (x : Str) (cut : Nat) : Str := Txt.slice x (some (cut : Int)) none ++ Txt.slice x none (some (cut : Int))
noncomputable def fileS (name : Str) (seed : Nat) (b : Bool) : Str := (Str.ofString " " ++ written name seed b) ++ Str.ofString "\n"
noncomputable def fileL (l : List Nat) (seed : Nat) (b : Bool) : List Nat := if b then 32 :: 34 :: (sgL l seed ++ [34, 10]) else 32 :: (esc (sgL l seed) ++ [10])
theorem file_is {name : Str} {seed : Nat} {b : Bool} (hl : ∀ c ∈ name.cps.toList, Let c) : fileS name seed b = ⟨(fileL name.cps.toList seed b).toArray⟩ := by
  refine str_ext ?_
  have e : (fileS name seed b).cps.toList = 32 :: ((written name seed b).cps.toList ++ [10]) := by
    unfold fileS
    show ((#[32] ++ (written name seed b).cps) ++ #[10] : Array Nat).toList = _
    rw [Array.toList_append, Array.toList_append]
    rfl
  rw [e]
  cases b with
  | true => rw [written_quoted hl]; simp [fileL]
  | false => rw [written_escaped]; simp [fileL]
theorem written_len {name : Str} {seed : Nat} {b : Bool} (hl : ∀ c ∈ name.cps.toList, Let c) : (written name seed b).length ≤ 4 * name.length + 2 := by
  have e : (written name seed b).length = (written name seed b).cps.toList.length := (Array.length_toList ..).symm
  have e2 : name.length = name.cps.toList.length := (Array.length_toList ..).symm
  rw [e, e2]
  have := sg_len name.cps.toList seed
  cases b with
  | true => rw [written_quoted hl]; simp only [List.length_cons, List.length_append, List.length_nil]; lia
  | false => rw [written_escaped, esc_len]; lia
theorem signs_len {name : Str} {seed : Nat} : (signsOf name seed).length ≤ 2 * name.length := by
  have e : (signsOf name seed).length = (signsOf name seed).cps.toList.length := (Array.length_toList ..).symm
  have e2 : name.length = name.cps.toList.length := (Array.length_toList ..).symm
  rw [e, e2, signs_cps]
  exact sg_len _ _

section
variable {w : World} {A : Around} {E : Value → Shared → Prop} {s : Shared} {n : Nat}

/-- plain[cut:] + plain[:cut] -/
theorem turnE {env : Env} {x : Str} {t u : Tok} {cut : Nat} {K : Addr → Obj → Prop} {m : Str → Option Value} {p1 p2 p3 p4 p5 p6 p7 p8 p9 : Pos} {Q : Value → Shared → Prop} (F : Fx K env.locals s.heap m) (mP : m (Str.ofString "plain") = some (.str x t)) (mU : m (Str.ofString "cut") = some (.int (cut : Nat) u)) (hx : x.length ≤ 1000)
    (hk : env.scope.kind = .function) (l1 : env.kindOf (Str.ofString "plain") = some .local) (l2 : env.kindOf (Str.ofString "cut") = some .local)
    (h : ∀ h' t' tk, Fx K env.locals h' m → (∀ b o, s.heap.get? b = some o → h'.get? b = some o) → s.toks ≤ tk → Q (.str (turnS x cut) t') { s with heap := h', toks := tk }) :
    wpAny (model pw w) A (eval (.BinOp (.Subscript (.Name (Str.ofString "plain") p1) (.Slice (some (.Name (Str.ofString "cut") p2)) none none p3) p4) .Add (.Subscript (.Name (Str.ofString "plain") p5) (.Slice none (some (.Name (Str.ofString "cut") p6)) none p7) p8) p9) env) Q E s := by
  have s1 := Txt.slice_le x (some (cut : Int)) none
  have s2 := Txt.slice_le x none (some (cut : Int))
  refine wpAny_with_toks (n := s.toks) (Nat.le_refl _) ?_
  refine wpAny_BinOp ?_
  refine wpAny_Subscript_str_slice ?_
  refine ldE F mP ?_ hk l1
  rw [evalPart_some, evalPart_none]
  refine ldE F mU ?_ hk l2
  refine wpAny_pure ?_
  refine ⟨x, t, some (_, _), none, rfl, rfl, rfl, ?_⟩
  refine post_val_or_str ⟨Nat.le_trans s1 (by rw [sizeLine_eq]; lia), fun t₂ k₂ => ?_⟩
  obtain ⟨y1, hy1⟩ : ∃ y1, Txt.slice x (some (cut : Int)) none = y1 := ⟨_, rfl⟩
  refine Eq.mpr (congrArg (fun z => wpAny _ _ _ (fun v s' => wpAny _ _ (binaryOp .Add (Value.str z t₂) v) _ _ s') _ _) hy1) ?_
  refine wpAny_Subscript_str_slice ?_
  refine ldE (F.push _) mP ?_ hk l1
  rw [evalPart_some, evalPart_none]
  refine wpAny_pure ?_
  refine ldE (F.push _) mU ?_ hk l2
  refine ⟨x, t, none, some (_, _), rfl, rfl, rfl, ?_⟩
  refine post_val_or_str ⟨Nat.le_trans s2 (by rw [sizeLine_eq]; lia), fun t₃ k₃ => ?_⟩
  obtain ⟨y2, hy2⟩ : ∃ y2, Txt.slice x none (some (cut : Int)) = y2 := ⟨_, rfl⟩
  refine Eq.mpr (congrArg (fun z => wpAny _ _ (binaryOp .Add (Value.str y1 t₂) (Value.str z t₃)) _ _ _) hy2) ?_
  refine SB.add (fun t₄ k₄ => ?_) (by rw [← hy1, ← hy2, sizeLine_eq]; lia)
  rw [← hy1, ← hy2]
  intro htk
  exact h _ t₄ k₄ ((F.push _).push _) (fun b o e => Heap.get?_push_of_some _ (Heap.get?_push_of_some _ e)) htk

theorem law6 {L C : Addr} {cvs : Array Value} {c0 c1 c2 c3 c4 cut : Nat} {x : Str} {tx tc : Tok} {m : Str → Option Value} {Q : Flow → Shared → Prop} (T : TopH w s.heap) (hr : Room A (n + 4)) (fL : Free w L) (ns : s.heap.Ns L m) (mC : m (Str.ofString "cells") = some (.ref C))
    (mP : m (Str.ofString "plain") = some (.str x tx)) (mU : m (Str.ofString "cut") = some (.int (cut : Nat) tc)) (PC : s.heap.PlainList C cvs) (hi : IntsAre cvs.toList (castL [c0, c1, c2, c3, c4])) (h157 : s.heap.get? 157 = some (o157 w.params))
    (hx : x.length ≤ 10) (hlet : ∀ c ∈ (turnS x cut).cps.toList, Let c)
    (h : ∀ h' tk xl dx y g Pb (K : Addr → Obj → Prop), 0 < tk → (∀ b o, b ≠ L → b ≠ 157 → s.heap.get? b = some o → h'.get? b = some o) → h'.Ns L (fun q => if q = Str.ofString "lexer" then some (.ref xl) else m q) → (∀ b o, K b o → h'.get? b = some o) → (∀ o, ¬ K L o) → (∀ o, ¬ K Pb o) →
      LexK K xl dx y g (fileS (turnS x cut) (c3 + c4) (c4 % 2 != 0)) → LexD h' dx g y Pb 0 1 → h'.PlainList Pb #[] → Free w dx → Free w g → Free w Pb → Pb ≠ dx → Pb ≠ g → s.heap.get? dx = none → s.heap.get? g = none → s.heap.get? Pb = none →
      (∃ ps, h'.get? 157 = some { cls := .none, data := .fields ps }) →
      wpAny (model pw w) A (execs ((fBody (stA 26)).drop 12) (envW L)) Q E { s with heap := h', toks := tk }) :
    wpAny (model pw w) A (execs ((fBody (stA 26)).drop 11) (envW L)) Q E s := by
  have F : Fx (fun b o => s.heap.get? b = some o ∧ b ≠ L) L s.heap m := ⟨ns, fun b o e => e.1, fun o e => e.2 rfl⟩
  have L157 : L ≠ 157 := by
    rintro rfl
    obtain ⟨o, _, _, e, d, _⟩ := ns
    rw [h157] at e; cases e; cases d
  have CL : C ≠ L := by
    rintro rfl
    obtain ⟨o, _, _, e, d, _⟩ := ns
    obtain ⟨nn, e'⟩ := PC
    rw [e] at e'; cases e'; cases d
  have fm : (c4 : Int).fmod 2 = ((c4 % 2 : Nat) : Int) := by
    rw [Int.fmod_eq_emod_of_nonneg _ (by lia)]; lia
  have PC' : s.heap.IsList C cvs.toList.toArray := by rw [Array.toArray_toList]; exact PC.isList
  have hnl : (turnS x cut).length ≤ 20 := by
    unfold turnS
    rw [Str.length_append]
    have s1 := Txt.slice_le x (some (cut : Int)) none
    have s2 := Txt.slice_le x none (some (cut : Int))
    lia
  refine wpAny_execs_cons ?_
  refine wpAny_Assign_Name ?_ ?hs
  case hs => kernel_rfl
  refine wpAny_with_toks (n := s.toks) (Nat.le_refl _) ?_
  refine gcall1 T (fnLexer _) (by kernel_rfl) (by kernel_rfl) ?_ (by kernel_rfl) (by kernel_rfl) (by kernel_rfl) rfl
  refine wpAny_BinOp ?_
  refine wpAny_BinOp ?_
  refine Constant_str ?_
  refine gcall3 (s := { s with toks := s.toks + 1 }) T (fnWritten _) (by kernel_rfl) (by kernel_rfl) ?_ (by kernel_rfl) (by kernel_rfl) (by kernel_rfl) rfl
  refine turnE F mP mU (by lia) (by kernel_rfl) (by kernel_rfl) (by kernel_rfl) fun h₁ t₁ tk₁ F₁ k₁ htk₁ => ?_
  dsimp only at k₁ htk₁ ⊢
  have PC₁ : h₁.IsList C cvs.toList.toArray := PC'.at fun o e => k₁ _ _ e
  have T₁ : TopH w h₁ := T.keeps k₁
  refine wpAny_BinOp ?_
  refine itemL (c := 3) (fun Q' hq => ldE F₁ mC hq) PC₁ hi rfl (by decide) (by intro _ _; rfl) fun t3 => ?_
  refine itemL (c := 4) (fun Q' hq => ldE F₁ mC hq) PC₁ hi rfl (by decide) (by intro _ _; rfl) fun t4 => ?_
  refine P.add_int ?_
  refine wpAny_BinOp ?_
  refine itemL (c := 4) (fun Q' hq => ldE F₁ mC hq) PC₁ hi rfl (by decide) (by intro _ _; rfl) fun t5 => ?_
  refine wpAny_Constant_int ?_
  refine mod_int (by decide) ?_
  rw [fm, show (c3 : Int) + (c4 : Int) = ((c3 + c4 : Nat) : Int) from (Int.natCast_add ..).symm]
  dsimp only
  refine ⟨T₁, ?_⟩
  refine written_call (n := n + 1) T₁ ⟨hr.handled, by have := hr.depth; lia, by have := hr.units; lia⟩ (by lia) (fun c hc => by rcases hlet c hc with rfl | rfl | rfl <;> lia) (by have := signs_len (name := turnS x cut) (seed := c3 + c4); lia) fun h₂ t₂ tk₂ k₂ => ?_
  dsimp only at k₂ ⊢
  have e2 : ((((c4 % 2 : Nat) : Int)) != 0) = (c4 % 2 != 0) := by
    have : c4 % 2 = 0 ∨ c4 % 2 = 1 := by lia
    rcases this with e | e <;> rw [e] <;> rfl
  rw [e2]
  have hwl := written_len (seed := c3 + c4) (b := (c4 % 2 != 0)) hlet
  refine SB.add (fun t₆ tk₆ => ?_) (by rw [sizeLine_eq]; show 1 + _ ≤ _; lia)
  refine Constant_str ?_
  refine SB.add (fun t₇ tk₇ => ?_) (by rw [sizeLine_eq, Str.length_append]; show (1 + _) + 1 ≤ _; lia)
  dsimp only
  have k12 : ∀ b o, s.heap.get? b = some o → h₂.get? b = some o := fun b o e => k₂ _ _ (k₁ _ _ e)
  have T₂ : TopH w h₂ := T.keeps k12
  have F₂ := F₁.keeps k₂
  refine ⟨T₂, ?_⟩
  refine lexer_call (n := n + 1) T₂ hr (k12 _ _ h157) fun h₃ tk₃ xl dx y g Pb k₃ LK LD PPb fdx fg Pdx Pg hfresh tb => ?_
  dsimp only at k₃ LK hfresh ⊢
  intro htk
  have ns₃ : h₃.Ns L m := F₂.ns.at fun o e => k₃ _ o L157 e
  have F₃ : Fx (fun b o => h₃.get? b = some o ∧ b ≠ L) L h₃ m := ⟨ns₃, fun b o e => e.1, fun o e => e.2 rfl⟩
  have dict157 : ∀ b, b = dx ∨ b = g ∨ b = Pb → b ≠ 157 := by
    obtain ⟨ps, e157⟩ := tb
    rintro b (rfl | rfl | rfl) rfl
    · obtain ⟨mA, ⟨o, _, _, e, d, _⟩, _⟩ := LD.attrs
      rw [e157] at e; cases e; cases d
    · obtain ⟨its, ⟨nn, e⟩, _⟩ := LD.gone
      rw [e157] at e; cases e
    · obtain ⟨nn, e⟩ := PPb
      rw [e157] at e; cases e
  have new : ∀ b, b = dx ∨ b = g ∨ b = Pb → s.heap.get? b = none := fun b hb => by
    have := (hfresh b (.inr (by rcases hb with rfl | rfl | rfl; exact .inl rfl; exact .inr (.inl rfl); exact .inr (.inr rfl)))).resolve_left (dict157 b hb)
    exact none_of_keeps k12 this
  have sL : s.heap.get? L ≠ none := by obtain ⟨o, _, _, e, _⟩ := ns; rw [e]; simp
  have neL : ∀ b, b = dx ∨ b = g ∨ b = Pb → b ≠ L := fun b hb q => sL (by rw [← q]; exact new b hb)
  refine stx F₃ fun h₄ F₄ s₄ => ?_
  dsimp only at F₄ s₄ ⊢
  have up : ∀ b o, b ≠ L → h₃.get? b = some o → h₄.get? b = some o := fun b o hb e => (s₄.2 b hb).trans e
  refine h h₄ _ xl dx y g Pb (fun b o => h₃.get? b = some o ∧ b ≠ dx ∧ b ≠ g ∧ b ≠ Pb ∧ (b = 157 ∨ h₂.get? b = none)) (Nat.succ_pos _) (fun b o h1 h2 e => up b o h1 (k₃ _ _ h2 (k12 _ _ e))) F₄.ns (fun b o e => up b o (fun q => ?_) e.1) (fun o e => ?_) (fun o e => e.2.2.2.1 rfl) LK
    (LD.but fun b o hb e => up b o (neL b (by rcases hb with rfl | rfl; exact .inl rfl; exact .inr (.inl rfl))) e) (PPb.at fun o e => up _ o (neL _ (.inr (.inr rfl))) e) fdx fg (Free.of T (new _ (.inr (.inr rfl)))) Pdx Pg (new _ (.inl rfl)) (new _ (.inr (.inl rfl))) (new _ (.inr (.inr rfl))) (tb.imp fun ps e => up _ _ L157.symm e)
  · subst q
    rcases e.2.2.2.2 with q | q
    · exact L157 q
    · have sL' : h₂.get? _ ≠ none := fun q => sL (none_of_keeps k12 q)
      exact sL' q
  · rcases e.2.2.2.2 with q | q
    · exact L157 q
    · exact sL (none_of_keeps k12 q)
end
end Mine
namespace Mine
open PySem PySem.W PySem.Challenge PySem.Calls PyProof.Rows

theorem TopH.but2 {w : World} {h h' : Heap} {P R : Addr} (T : TopH w h) (f : Free w P) (f' : Free w R) (k : ∀ b o, b ≠ P → b ≠ R → h.get? b = some o → h'.get? b = some o) : TopH w h' :=
  ⟨fun i o e hn => k _ _ (f.top i o e hn) (f'.top i o e hn) (T.at_ i o e hn), let ⟨kvs, a, b⟩ := T.dict; let ⟨o, es, ep, ho, r⟩ := b; ⟨kvs, a, o, es, ep, k _ _ f.dict f'.dict ho, r⟩⟩

theorem fileL_len (l : List Nat) (seed : Nat) (b : Bool) : (fileL l seed b).length = if b then (sgL l seed).length + 4 else 2 * (sgL l seed).length + 2 := by
  unfold fileL
  cases b <;> simp [esc_len]

theorem ones_sum (l : List Nat) : (l.map fun _ => 1).sum = l.length := by
  induction l with
  | nil => rfl
  | cons x l ih => rw [List.map_cons, List.sum_cons, ih, List.length_cons]; lia

/-- what is left of the file when the word is read -/
noncomputable def Rest (text : Str) (p : Nat) (ln : Int) : Prop := p ≤ text.length ∧ (∀ q, p ≤ q → q < text.length → oneAt text q = ⟨#[10]⟩) ∧ ln + ((text.length - p : Nat) : Int) = 2

section
variable {w : World} {A : Around} {E : Value → Shared → Prop} {s : Shared} {n : Nat}

theorem get_word {K : Addr → Obj → Prop} {x dx y g Pb : Addr} {name : Str} {seed : Nat} {b : Bool} {Q : Value → Shared → Prop} (T : TopH w s.heap) (hr : Room A (n + 4)) (hK : ∀ b o, K b o → s.heap.get? b = some o) (LK : LexK K x dx y g (fileS name seed b)) (D : LexD s.heap dx g y Pb 0 1)
    (fd : Free w dx) (fg : Free w g) (hP : s.heap.PlainList Pb #[]) (hPd : Pb ≠ dx) (hPg : Pb ≠ g) (hl : ∀ c ∈ name.cps.toList, Let c) (h1 : 1 ≤ name.length) (h2 : name.length ≤ 20)
    (h : ∀ h' t tk p ln, s.toks ≤ tk → (∀ b o, b ≠ dx → b ≠ g → s.heap.get? b = some o → h'.get? b = some o) → LexD h' dx g y Pb p ln → Rest (fileS name seed b) p ln → Q (.str (signsOf name seed) t) { s with heap := h', toks := tk }) :
    wpAny (model pw w) A (call (.ref 42) [.ref x]) Q E s := by
  have nl : name.length = name.cps.toList.length := (Array.length_toList ..).symm
  have hs : (⟨(sgL name.cps.toList seed).toArray⟩ : Str) = signsOf name seed := str_ext (signs_cps name seed).symm
  have l1 := sg_len name.cps.toList seed
  have l2 := sg_pos name.cps.toList seed
  have hf := file_is (seed := seed) (b := b) hl
  have fl : (fileS name seed b).length = (fileL name.cps.toList seed b).length := by rw [hf]; show (List.toArray _).size = _; simp
  rw [fileL_len] at fl
  cases b with
  | true =>
    rw [if_pos rfl] at fl
    refine get_quoted T hr hK LK D fd fg hP hPd hPg (hf.trans rfl) (by lia) (fun c hc => ?_) fun h' t tk htk k D' => ?_
    · rcases sg_mem hl hc with u | ⟨_, u⟩ <;> exact ⟨u.n34, u.n92, u.n10⟩
    · rw [hs]
      refine h h' t tk _ 1 htk k D' ⟨by lia, fun q hq1 hq2 => ?_, by lia⟩
      have : q = (sgL name.cps.toList seed).length + 3 := by lia
      subst this
      have e : (fileL name.cps.toList seed true)[(sgL name.cps.toList seed).length + 3]? = some 10 := by
        show (32 :: 34 :: (sgL name.cps.toList seed ++ [34, 10]))[(sgL name.cps.toList seed).length + 3]? = _
        rw [List.getElem?_cons_succ, List.getElem?_cons_succ, List.getElem?_append_right (Nat.le_add_right _ _), Nat.add_sub_cancel_left]
        rfl
      rw [hf]
      unfold oneAt
      have e' : ((⟨(fileL name.cps.toList seed true).toArray⟩ : Str).cps)[(sgL name.cps.toList seed).length + 3]? = some 10 := by simpa using e
      rw [e']
  | false =>
    rw [if_neg (by simp)] at fl
    refine get_escaped T hr hK LK D fd fg hP hPd hPg (hf.trans rfl) (by lia) (by lia) (fun c hc => ?_) fun h' t tk htk k D' => ?_
    · rcases sg_mem hl hc with u | ⟨_, u⟩ <;> exact u.n10
    · rw [hs]
      exact h h' t tk _ _ htk k D' ⟨by lia, fun q hq1 hq2 => by lia, by lia⟩

theorem law7 {L xl dx y g Pb : Addr} {K : Addr → Obj → Prop} {seed cut : Nat} {b : Bool} {x : Str} {tx tc : Tok} {m : Str → Option Value} {Q : Flow → Shared → Prop} (T : TopH w s.heap) (hr : Room A (n + 4)) (fL : Free w L) (ns : s.heap.Ns L m) (mX : m (Str.ofString "lexer") = some (.ref xl))
    (mP : m (Str.ofString "plain") = some (.str x tx)) (mU : m (Str.ofString "cut") = some (.int (cut : Nat) tc))
    (hK : ∀ b o, K b o → s.heap.get? b = some o) (KL : ∀ o, ¬ K L o) (LK : LexK K xl dx y g (fileS (turnS x cut) seed b)) (D : LexD s.heap dx g y Pb 0 1) (hP : s.heap.PlainList Pb #[]) (fd : Free w dx) (fg : Free w g) (hPd : Pb ≠ dx) (hPg : Pb ≠ g)
    (dL : dx ≠ L) (gL : g ≠ L) (hx : x.length ≤ 10) (hn : 1 ≤ (turnS x cut).length) (hlet : ∀ c ∈ (turnS x cut).cps.toList, Let c)
    (h : ∀ h' tk t p ln, s.toks ≤ tk → (∀ b o, b ≠ L → b ≠ dx → b ≠ g → s.heap.get? b = some o → h'.get? b = some o) → h'.Ns L (fun q => if q = Str.ofString "word" then some (.str (turnS x cut) t) else m q) → LexD h' dx g y Pb p ln → Rest (fileS (turnS x cut) seed b) p ln →
      wpAny (model pw w) A (execs ((fBody (stA 26)).drop 14) (envW L)) Q E { s with heap := h', toks := tk }) :
    wpAny (model pw w) A (execs ((fBody (stA 26)).drop 12) (envW L)) Q E s := by
  have F : Fx (fun b o => s.heap.get? b = some o ∧ b ≠ L) L s.heap m := ⟨ns, fun b o e => e.1, fun o e => e.2 rfl⟩
  have hnl : (turnS x cut).length ≤ 20 := by
    unfold turnS
    rw [Str.length_append]
    have s1 := Txt.slice_le x (some (cut : Int)) none
    have s2 := Txt.slice_le x none (some (cut : Int))
    lia
  obtain ⟨mA, nsA, LM⟩ := id D.attrs
  refine wpAny_execs_cons ?_
  refine wpAny_Assign_Name ?_ ?hs
  case hs => kernel_rfl
  refine wpAny_with_toks (n := s.toks) (Nat.le_refl _) ?_
  refine gcall1 T (fnPrepared _) (by kernel_rfl) (by kernel_rfl) ?_ (by kernel_rfl) (by kernel_rfl) (by kernel_rfl) rfl
  refine methN0 T (LK.instOf hK nsA) (LM.none (by decide)) (fnGet _) (cl_get _) ob_get (fun Q' hq => ldE F mX hq) (by kernel_rfl) (by kernel_rfl) (by kernel_rfl) (by kernel_rfl) ?_
  refine get_word T hr hK LK D fd fg hP hPd hPg hlet hn hnl fun h₁ t₁ tk₁ p ln htk₁ k₁ D₁ R₁ => ?_
  dsimp only at htk₁ k₁ ⊢
  have T₁ : TopH w h₁ := T.but2 fd fg k₁
  have ns₁ : h₁.Ns L m := ns.at fun o e => k₁ _ o dL.symm gL.symm e
  refine ⟨T₁, ?_⟩
  have hsl := signs_len (name := turnS x cut) (seed := seed)
  have pl : prepL (signsOf (turnS x cut) seed).cps.toList = (turnS x cut).cps.toList.map fun c => ⟨#[c]⟩ := by rw [signs_cps]; exact prepL_sg hlet
  have cl : (turnS x cut).cps.toList.length = (turnS x cut).length := Array.length_toList ..
  refine prepared_call (n := n + 2) T₁ hr (by lia) (fun c hc hb => ?_) ?_ fun h₂ t₂ tk₂ k₂ => ?_
  · rw [signs_cps] at hc
    rcases sg_mem hlet hc with u | ⟨_, u⟩
    · rw [u.b1] at hb; cases hb
    · exact u.low
  · rw [pl, List.map_map]
    have e : ((turnS x cut).cps.toList.map ((fun z : Str => z.length) ∘ fun c => ⟨#[c]⟩)).sum = (turnS x cut).cps.toList.length := by
      rw [show ((fun z : Str => z.length) ∘ fun c => (⟨#[c]⟩ : Str)) = fun _ => 1 from rfl, ones_sum]
    rw [e, List.length_map, cl]; lia
  rw [prepared_signs hlet]
  dsimp only at k₂ ⊢
  intro htk
  have F₂ : Fx (fun b o => h₂.get? b = some o ∧ b ≠ L) L h₂ m := ⟨ns₁.at fun o e => k₂ _ _ e, fun b o e => e.1, fun o e => e.2 rfl⟩
  refine stx F₂ fun h₃ F₃ s₃ => ?_
  dsimp only at F₃ s₃ ⊢
  refine wpAny_execs_cons ?_
  refine wpAny_If ?_
  refine wpAny_isTrue_Compare1 ?_
  refine ldE F₃ rfl ?_
  refine wpAny_with_toks (n := s.toks) (Nat.le_trans htk (Nat.le_succ _)) ?_
  refine turnE F₃ mP mU (by lia) (by kernel_rfl) (by kernel_rfl) (by kernel_rfl) fun h₄ t₄ tk₄ F₄ k₄ htk₄ => ?_
  dsimp only at k₄ htk₄ ⊢
  intro htk₄'
  refine P.ne_str ?_
  rw [show ((turnS x cut).cps.toList != (turnS x cut).cps.toList) = false by simp]
  refine wpAny_truthy_bool ?_
  rw [if_neg (by simp)]
  refine wpAny_execs_nil ?_
  have up : ∀ b o, b ≠ L → h₁.get? b = some o → h₄.get? b = some o := fun b o hb e => k₄ _ _ ((s₃.2 b hb).trans (k₂ _ _ e))
  exact h h₄ _ t₂ p ln htk₄' (fun b o h1 h2 h3 e => up b o h1 (k₁ _ _ h2 h3 e)) F₄.ns (D₁.but fun b o hb e => up b o (by rcases hb with rfl | rfl; exact dL; exact gL) e) R₁
end
end Mine
namespace Mine
open PySem PySem.W PySem.Challenge PySem.Calls PyProof.Rows

theorem castL_get {ks : List Nat} {i : Nat} {z : Int} (h : (castL ks)[i]? = some z) : ∃ k : Nat, ks[i]? = some k ∧ z = (k : Int) := by
  unfold castL at h
  rw [List.getElem?_map] at h
  cases e : ks[i]? with
  | none => rw [e] at h; cases h
  | some k => rw [e] at h; cases h; exact ⟨k, rfl, rfl⟩
theorem intRow {items : Array Value} {ks : List Nat} (h : IntsAre items.toList (castL ks)) : IntRow items ks := by
  have hl := intsLen h
  refine ⟨by rw [← Array.length_toList, hl]; simp [castL], fun i v hv => ?_⟩
  obtain ⟨z, t, hz, rfl⟩ := intsGet h (i := i) (v := v) (by simpa using hv)
  obtain ⟨k, hk, rfl⟩ := castL_get hz
  exact ⟨k, t, hk, rfl⟩
theorem rev_pick (ks : List Nat) (h : (∃ a b c, ks = [a, b, c]) ∨ ∃ a b, ks = [a, b]) : pickL (castL ks) none none (some (-1)) = castL ks.reverse := by
  have i3 : sliceRange (sliceBounds none none (some (-1)) 3).1 (sliceBounds none none (some (-1)) 3).2.1 (sliceBounds none none (some (-1)) 3).2.2 = [2, 1, 0] := by decide +kernel
  have i2 : sliceRange (sliceBounds none none (some (-1)) 2).1 (sliceBounds none none (some (-1)) 2).2.1 (sliceBounds none none (some (-1)) 2).2.2 = [1, 0] := by decide +kernel
  rcases h with ⟨a, b, c, rfl⟩ | ⟨a, b, rfl⟩
  · show (sliceRange (sliceBounds none none (some (-1)) 3).1 (sliceBounds none none (some (-1)) 3).2.1 (sliceBounds none none (some (-1)) 3).2.2).filterMap _ = _
    rw [i3]; rfl
  · show (sliceRange (sliceBounds none none (some (-1)) 2).1 (sliceBounds none none (some (-1)) 2).2.1 (sliceBounds none none (some (-1)) 2).2.2).filterMap _ = _
    rw [i2]; rfl

section
variable {w : World} {A : Around} {E : Value → Shared → Prop} {s : Shared} {n : Nat}

theorem neStrs {l b : Addr} {xs ys : Array Value} {ns : List Str} {Q : Value → Shared → Prop} (hl : s.heap.IsList l xs) (hb : s.heap.IsList b ys) (hx : StrsAre xs.toList ns) (hy : StrsAre ys.toList ns) (hu : A.units < cLine)
    (h : Q (.bool false) s) : wpAny (model pw w) A (compareOp .NotEq (.ref l) (.ref b)) Q E s := by
  have e1 := hx.len_eq; have e2 := hy.len_eq
  rw [Array.length_toList] at e1 e2
  have hall : (List.range xs.size).all (fun _ => true) = true := by simp
  refine PySem.EqBoolInt.of_rcne (k := false) ?_ h
  have := SeqAt.RcNeAt.lists (A := A) (e := fun _ => true) hl hb (e1.trans e2.symm) hu (fun j h1 h2 => ?_)
  · rw [hall] at this; exact this
  · obtain ⟨n1, t1, d1, c1⟩ := StrsAre.item hx j xs[j] (by simp [h1])
    obtain ⟨n2, t2, d2, c2⟩ := StrsAre.item hy j ys[j] (by simp [h2])
    rw [c1] at c2; cases c2
    rw [d1, d2]
    have := SeqAt.EqAt.str_str (A := A.in1) (s := s) n1 t1 n1 t2
    rwa [show (n1 == n1) = true by simp] at this

theorem law8 {L W : Addr} {wvs : Array Value} {lo mi : Nat} {ks : List Nat} {t1 t2 : Tok} {m : Str → Option Value} {Q : Flow → Shared → Prop} (T : TopH w s.heap) (hr : Room A (n + 2)) (ns : s.heap.Ns L m) (mM : m (Str.ofString "mid") = some (.int (mi : Nat) t2)) (mLo : m (Str.ofString "low") = some (.int (lo : Nat) t1)) (mW : m (Str.ofString "want") = some (.ref W))
    (PW : s.heap.PlainList W wvs) (IW : IntsAre wvs.toList (castL ks)) (OK : LawOK lo mi ks) (SO : Sorting w lo mi ks) (hk : ∀ k ∈ ks, k ≤ 100) (hfull : mi + 1 + mi + lo + ks.sum ≤ 100)
    (h : ∀ h' tk D ys ss t, s.toks ≤ tk → (∀ b o, b ≠ L → s.heap.get? b = some o → h'.get? b = some o) → h'.Ns L (fun q => if q = Str.ofString "told" then some (.ref D) else m q) → s.heap.get? D = none → D ≠ L → t = D → h'.IsList D ys → StrsAre ys.toList ss →
      ss.Perm ((toldT (shared ks) (stOf lo mi) (mi + 1 + mi + lo + ks.sum)).map w3) → sortedS ss = true →
      wpAny (model pw w) A (execs ((fBody (stA 26)).drop 15) (envW L)) Q E { s with heap := h', toks := tk }) :
    wpAny (model pw w) A (execs ((fBody (stA 26)).drop 14) (envW L)) Q E s := by
  have F : Fx (fun b o => s.heap.get? b = some o ∧ b ≠ L) L s.heap m := ⟨ns, fun b o e => e.1, fun o e => e.2 rfl⟩
  refine wpAny_execs_cons ?_
  refine wpAny_Assign_Name ?_ ?hs
  case hs => kernel_rfl
  refine gcall2 T (fnTold _) (by kernel_rfl) (by kernel_rfl) ?_ (by kernel_rfl) (by kernel_rfl) (by kernel_rfl) rfl
  refine wpAny_with_toks (n := s.toks) (Nat.le_refl _) ?_
  refine tup3 (by kernel_rfl) ?_
  refine wpAny_BinOp ?_
  refine ldE F mM ?_
  refine wpAny_Constant_int ?_
  refine P.add_int ?_
  refine ldE F mM ?_
  refine ldE F mLo ?_
  rw [show (mi : Int) + 1 = ((mi + 1 : Nat) : Int) from (Int.natCast_add ..).symm]
  refine newTupX F (fun h₁ F₁ k₁ t₁ => ?_) (by show 3 ≤ sizeLine; decide)
  dsimp only at F₁ k₁ t₁ ⊢
  intro htk
  refine ldE F₁ mW ?_
  have T₁ : TopH w h₁ := T.keeps k₁
  refine ⟨T₁, ?_⟩
  obtain ⟨oT, gT, cT, nT, dT⟩ := t₁
  obtain ⟨nW, gW⟩ := PW
  refine told_call (a := mi + 1) (b := mi) (c := lo) (ks := ks) T₁ hr gT ⟨cT, _, _, _, nT, dT⟩ (k₁ _ _ gW) rfl rfl (intRow IW) hk OK.sh rfl hfull rfl (fun low mid _ _ => OK.of low mid) ?_ ?_ fun h₂ D tk₂ ys ss k₂ Dn PD S₂ hp hs htk₂ => ?_
  · rw [told_T, List.length_map]; exact OK.tl
  · rw [told_T]; exact sorts_of SO.told (by rw [List.length_map]; exact OK.tl)
  dsimp only at k₂ Dn htk₂ ⊢
  rw [told_T] at hp
  have F₂ : Fx (fun b o => s.heap.get? b = some o ∧ b ≠ L) L h₂ m := ⟨F₁.ns.at fun o e => k₂ _ _ e, fun b o e => k₂ _ _ (k₁ _ _ e.1), fun o e => e.2 rfl⟩
  have DL : D ≠ L := by
    rintro rfl
    obtain ⟨o, _, _, e, _⟩ := F₁.ns
    rw [e] at Dn; cases Dn
  refine stx F₂ fun h₃ F₃ s₃ => ?_
  dsimp only at F₃ s₃ ⊢
  obtain ⟨oD, nD, eD, cD, _, dD⟩ := PD
  exact h h₃ _ D ys ss D (by lia) (fun b o hb e => F₃.keep _ _ ⟨e, hb⟩) F₃.ns (none_of_keeps k₁ Dn) DL rfl ⟨oD, (s₃.2 D DL).trans eD, cD, nD, dD⟩ S₂ hp hs
end
end Mine
namespace Mine
open PySem PySem.W PySem.Challenge PySem.Calls PyProof.Rows

section
variable {w : World} {A : Around} {E : Value → Shared → Prop} {s : Shared} {n : Nat}

/-- what stands of the law's things while the words grow -/
structure LJ (w : World) (h : Heap) (m : Str → Option Value) (K : Addr → Obj → Prop) (L xl dx yl g Pb S D : Addr) (text y : Str) (ks : List Nat) (ss : List Str) (p : Nat) (ln : Int) : Prop where
  top : TopH w h
  ns : h.Ns L m
  mX : m (Str.ofString "lexer") = some (.ref xl)
  mY : ∃ t, m (Str.ofString "word") = some (.str y t)
  mS : m (Str.ofString "sizes") = some (.ref S)
  mT : m (Str.ofString "told") = some (.ref D)
  hK : ∀ b o, K b o → h.get? b = some o
  LD : LexD h dx g yl Pb p ln
  PP : h.PlainList Pb #[]
  PS : ∃ its, h.PlainList S its ∧ IntsAre its.toList (castL ks)
  PD : ∃ ys, h.IsList D ys ∧ StrsAre ys.toList ss
/-- and what does not hang on the heap -/
structure LF (w : World) (K : Addr → Obj → Prop) (L xl dx yl g Pb S D : Addr) (text : Str) : Prop where
  fd : Free w dx
  fg : Free w g
  fP : Free w Pb
  KL : ∀ o, ¬ K L o
  KP : ∀ o, ¬ K Pb o
  LK : LexK K xl dx yl g text
  Pd : Pb ≠ dx
  Pg : Pb ≠ g
  LP : L ≠ Pb
  Ld : L ≠ dx
  Lg : L ≠ g
  SP : S ≠ Pb
  DP : D ≠ Pb
theorem LJ.but {h h' : Heap} {m : Str → Option Value} {K : Addr → Obj → Prop} {L xl dx yl g Pb S D : Addr} {text y : Str} {ks : List Nat} {ss : List Str} {p : Nat} {ln : Int} (j : LJ w h m K L xl dx yl g Pb S D text y ks ss p ln) (f : LF w K L xl dx yl g Pb S D text)
    (k : ∀ b o, b ≠ Pb → h.get? b = some o → h'.get? b = some o) (PP : h'.PlainList Pb #[]) : LJ w h' m K L xl dx yl g Pb S D text y ks ss p ln :=
  ⟨j.top.but f.fP k, j.ns.at fun o e => k _ o f.LP e, j.mX, j.mY, j.mS, j.mT, fun b o e => k b o (fun q => f.KP o (q ▸ e)) (j.hK b o e),
    j.LD.but fun b o hb e => k b o (by rcases hb with rfl | rfl; exact f.Pd.symm; exact f.Pg.symm) e, PP,
    let ⟨its, a, b⟩ := j.PS; ⟨its, a.at fun o e => k _ o f.SP e, b⟩, let ⟨ys, a, b⟩ := j.PD; ⟨ys, a.at fun o e => k _ o f.DP e, b⟩⟩

/-- one of the two comparisons with what is told -/
theorem doneNe {m : Str → Option Value} {K : Addr → Obj → Prop} {L xl dx yl g Pb S D z : Addr} {text y : Str} {ty : Tok} {ks kz : List Nat} {ss : List Str} {p : Nat} {ln : Int} {zs : Array Value} {t : T3} {Q : Value → Shared → Prop}
    (J : LJ w s.heap m K L xl dx yl g Pb S D text y ks ss p ln) (f : LF w K L xl dx yl g Pb S D text) (hr : Room A (n + 4)) (hpos : 0 < s.toks)
    (hz : s.heap.PlainList z zs) (hzi : IntsAre zs.toList (castL kz)) (hzP : z ≠ Pb) (hk : ∀ k ∈ kz, k ≤ 100) (cn : Cnts y t) (h0 : kz ≠ []) (hsm : smallTo t kz = true) (hrun : RunOK w ((runT [t] kz).map w3)) (hlen : (runT [t] kz).length ≤ 1000)
    (hss : sortedS ss = true) (hperm : ss.Perm ((runT [t] kz).map w3))
    (h : ∀ h' l tk ys, (∀ b o, b ≠ Pb → s.heap.get? b = some o → h'.get? b = some o) → h'.PlainList Pb #[] → h'.IsList l ys → StrsAre ys.toList ss → s.toks ≤ tk → Q (.ref l) { s with heap := h', toks := tk }) :
    wpAny (model pw w) A (call (.ref 198) [.ref xl, .str y ty, .ref z]) Q E s := by
  obtain ⟨mA, nsA, LM⟩ := id J.LD.attrs
  obtain ⟨nz, gz⟩ := hz
  have e := run_word cn h0
  refine done_call (n := n) J.top f.fP hr hpos ⟨f.LK.instOf J.hK nsA, LM.push⟩ J.PP (LM.none (by decide)) (LM.none (by decide)) gz rfl rfl hzP (intRow hzi) hk (small_to cn hsm) (by rw [e]; exact sortsK_of hrun (by rw [List.length_map]; exact hlen)) fun h₁ l tk₁ ys ss₁ k₁ P₁ ln₁ PL S₁ p₁ s₁ htk₁ => ?_
  rw [e] at p₁
  have : ss₁ = ss := sorted_eq s₁ hss (p₁.trans hperm.symm)
  subst this
  obtain ⟨oD, nD, eD, cD, _, dD⟩ := PL
  exact h h₁ l tk₁ ys k₁ P₁ ⟨oD, eD, cD, nD, dD⟩ S₁ htk₁
end
end Mine
namespace Mine
open PySem PySem.W PySem.Challenge PySem.Calls PyProof.Rows

section
variable {w : World} {A : Around} {E : Value → Shared → Prop} {s : Shared} {n : Nat}

theorem law9 {m : Str → Option Value} {K : Addr → Obj → Prop} {L xl dx yl g Pb S D : Addr} {text y : Str} {lo mi : Nat} {ks : List Nat} {ss : List Str} {p : Nat} {ln : Int} {Q : Flow → Shared → Prop}
    (J : LJ w s.heap m K L xl dx yl g Pb S D text y ks ss p ln) (f : LF w K L xl dx yl g Pb S D text) (hr : Room A (n + 4)) (hpos : 0 < s.toks)
    (hsh : (∃ a b c, ks = [a, b, c]) ∨ ∃ a b, ks = [a, b]) (hk : ∀ k ∈ ks, k ≤ 100) (cn : Cnts y (t0 lo mi)) (OK : LawOK lo mi ks) (SO : Sorting w lo mi ks)
    (hss : sortedS ss = true) (hperm : ss.Perm ((toldT (shared ks) (stOf lo mi) (mi + 1 + mi + lo + ks.sum)).map w3))
    (h : ∀ h' tk, LJ w h' m K L xl dx yl g Pb S D text y ks ss p ln → (∀ b o, b ≠ Pb → s.heap.get? b = some o → h'.get? b = some o) →
      wpAny (model pw w) A (execs ((fBody (stA 26)).drop 16) (envW L)) Q E { s with heap := h', toks := tk }) :
    wpAny (model pw w) A (execs ((fBody (stA 26)).drop 15) (envW L)) Q E s := by
  have kne : ks ≠ [] := by rcases hsh with ⟨_, _, _, rfl⟩ | ⟨_, _, rfl⟩ <;> simp
  have rne : ks.reverse ≠ [] := by rcases hsh with ⟨_, _, _, rfl⟩ | ⟨_, _, rfl⟩ <;> simp
  have ksl : ks.length ≤ 3 := by rcases hsh with ⟨_, _, _, rfl⟩ | ⟨_, _, rfl⟩ <;> simp
  have hu : A.units < cLine := by have := hr.units; lia
  have len1 : (runT [t0 lo mi] ks).length ≤ 1000 := by rw [OK.p1.length_eq]; exact OK.tl
  have len2 : (runT [t0 lo mi] ks.reverse).length ≤ 1000 := by rw [OK.p2.length_eq]; exact len1
  obtain ⟨ty, mY⟩ := J.mY
  obtain ⟨its, PS, IS⟩ := J.PS
  have itl : its.size ≤ 3 := by
    have := intsLen IS
    rw [Array.length_toList] at this
    rw [this]; simpa [castL] using ksl
  have F : Fx (fun b o => s.heap.get? b = some o ∧ b ≠ L) L s.heap m := ⟨J.ns, fun b o e => e.1, fun o e => e.2 rfl⟩
  refine wpAny_execs_cons ?_
  refine wpAny_If ?_
  refine wpAny_isTrue_BoolOp ?_
  refine wpAny_allTrue_Or_cons ?_
  refine wpAny_isTrue_Compare1 ?_
  refine gcall3 J.top (fnDone _) (by kernel_rfl) (by kernel_rfl) ?_ (by kernel_rfl) (by kernel_rfl) (by kernel_rfl) rfl
  refine ldE F J.mX ?_
  refine ldE F mY ?_
  refine ldE F J.mS ?_
  refine ⟨J.top, ?_⟩
  refine doneNe (n := n) J f hr hpos PS IS f.SP hk cn kne OK.s1 SO.fwd len1 hss (hperm.trans (OK.p1.map w3).symm) fun h₁ l₁ tk₁ ys₁ k₁ P₁ PL₁ S₁ htk₁ => ?_
  try dsimp only at k₁ htk₁ ⊢
  have J₁ := J.but f k₁ P₁
  have F₁ : Fx (fun b o => h₁.get? b = some o ∧ b ≠ L) L h₁ m := ⟨J₁.ns, fun b o e => e.1, fun o e => e.2 rfl⟩
  obtain ⟨ysD, PD₁, SD⟩ := J₁.PD
  refine ldE F₁ J.mT ?_
  refine neStrs PL₁ PD₁ S₁ SD hu ?_
  refine wpAny_truthy_bool ?_
  rw [if_neg (by simp)]
  obtain ⟨its₁, PS₁, IS₁⟩ := J₁.PS
  have itl₁ : its₁.size ≤ 3 := by
    have := intsLen IS₁
    rw [Array.length_toList] at this
    rw [this]; simpa [castL] using ksl
  refine wpAny_allTrue_Or_cons ?_
  refine wpAny_isTrue_Compare1 ?_
  refine gcall3 (s := { s with heap := h₁, toks := tk₁ }) J₁.top (fnDone _) (by kernel_rfl) (by kernel_rfl) ?_ (by kernel_rfl) (by kernel_rfl) (by kernel_rfl) rfl
  refine ldE F₁ J.mX ?_
  refine ldE F₁ mY ?_
  refine wpAny_Subscript_Slice_step (T := "list") list_getitem_lookup ?_
  refine ldE F₁ J.mS ?_
  refine wpAny_Slice ?_
  rw [evalPart_none, evalPart_some]
  refine wpAny_pure ?_
  refine wpAny_pure ?_
  refine wpAny_UnaryOp ?_
  refine wpAny_Constant_int ?_
  refine P.neg_int ?_
  dsimp only
  have PI₁ : h₁.IsList S its₁ := PS₁.isList
  refine ⟨(PI₁.push _).typeIs, ?_⟩
  refine wpAny_getItem_list_slice (lo := none) (hi := none) (st := some (-1)) (PI₁.push _) (Heap.IsSliceOf.new ..) .none .none (.int _ _) (by simp) ?_ (by rw [sizeLine_eq]; lia)
  dsimp only
  obtain ⟨h₂, hh₂⟩ : ∃ h₂, (h₁.push { cls := .type "slice", data := .fields #[.none, .none, .int (-1) (tk₁ + 1)] }).push { cls := .type "list", data := .seq (slicePick its₁ none none (some (-1))) } = h₂ := ⟨_, rfl⟩
  have k₂ : ∀ b o, h₁.get? b = some o → h₂.get? b = some o := fun b o e => by rw [← hh₂]; exact Heap.get?_push_of_some _ (Heap.get?_push_of_some _ e)
  rw [hh₂]
  obtain ⟨z, hz⟩ : ∃ z, (h₁.push { cls := .type "slice", data := .fields #[.none, .none, .int (-1) (tk₁ + 1)] }).objs.size = z := ⟨_, rfl⟩
  rw [hz]
  have PZ : h₂.PlainList z (slicePick its₁ none none (some (-1))) := by rw [← hh₂, ← hz]; exact ⟨0, Heap.get?_push_size _ rfl⟩
  have IZ : IntsAre (slicePick its₁ none none (some (-1))).toList (castL ks.reverse) := by rw [← rev_pick ks hsh]; exact intsPick IS₁ none none (some (-1))
  have P₂ : h₂.PlainList Pb #[] := P₁.at fun o e => k₂ _ _ e
  have zP : z ≠ Pb := by
    obtain ⟨np, ep⟩ := P₁
    have := Heap.lt_size ep
    rw [← hz, Heap.size_push]
    exact Nat.ne_of_gt (Nat.lt_succ_of_lt this)
  have J₂ := J₁.but f (fun b o _ e => k₂ b o e) P₂
  refine ⟨J₂.top, ?_⟩
  refine doneNe (n := n) (s := { s with heap := h₂, toks := _ }) J₂ f hr (by dsimp only; lia) PZ IZ zP (fun k hk' => hk k (List.mem_reverse.mp hk')) cn rne OK.s2 SO.bwd len2 hss (hperm.trans ((OK.p2.trans OK.p1).map w3).symm) fun h₃ l₃ tk₃ ys₃ k₃ P₃ PL₃ S₃ htk₃ => ?_
  dsimp only at k₃ ⊢
  have J₃ := J₂.but f k₃ P₃
  have F₃ : Fx (fun b o => h₃.get? b = some o ∧ b ≠ L) L h₃ m := ⟨J₃.ns, fun b o e => e.1, fun o e => e.2 rfl⟩
  obtain ⟨ysD₃, PD₃, SD₃⟩ := J₃.PD
  refine ldE F₃ J.mT ?_
  refine neStrs PL₃ PD₃ S₃ SD₃ hu ?_
  refine wpAny_truthy_bool ?_
  rw [if_neg (by simp)]
  refine wpAny_allTrue_Or_nil ?_
  rw [if_neg (by simp)]
  refine wpAny_execs_nil ?_
  exact h h₃ tk₃ J₃ fun b o hb e => k₃ b o hb (k₂ b o (k₁ b o hb e))

theorem law10 {m : Str → Option Value} {K : Addr → Obj → Prop} {L xl dx yl g Pb S D : Addr} {text y : Str} {ks : List Nat} {ss : List Str} {p : Nat} {ln : Int} {Q : Flow → Shared → Prop}
    (J : LJ w s.heap m K L xl dx yl g Pb S D text y ks ss p ln) (f : LF w K L xl dx yl g Pb S D text) (hr : Room A (n + 4)) (R : Rest text p ln) (htx : text.length ≤ 10000)
    (h : ∀ h' tk, (∀ b o, b ≠ dx → b ≠ g → s.heap.get? b = some o → h'.get? b = some o) → Q (.ret (.bool true)) { s with heap := h', toks := tk }) :
    wpAny (model pw w) A (execs ((fBody (stA 26)).drop 16) (envW L)) Q E s := by
  have F : Fx (fun b o => s.heap.get? b = some o ∧ b ≠ L) L s.heap m := ⟨J.ns, fun b o e => e.1, fun o e => e.2 rfl⟩
  have hu : A.units < cLine := by have := hr.units; lia
  obtain ⟨mA, nsA, LM⟩ := id J.LD.attrs
  obtain ⟨R1, R2, R3⟩ := R
  refine wpAny_execs_cons ?_
  refine wpAny_Return_some ?_
  refine wpAny_Compare1 ?_
  refine tup2 (by kernel_rfl) ?_
  refine methN0 J.top (f.LK.instOf J.hK nsA) (LM.none (by decide)) (fnGet _) (cl_get _) ob_get (fun Q' hq => ldE F J.mX hq) (by kernel_rfl) (by kernel_rfl) (by kernel_rfl) (by kernel_rfl) ?_
  refine get_end (n := n) J.top hr J.hK f.LK J.LD f.fd f.fg J.PP f.Pd f.Pg htx R1 R2 fun h₁ t₁ tk₁ k₁ D₁ => ?_
  rw [R3] at D₁
  dsimp only at k₁ ⊢
  obtain ⟨mA₁, nsA₁, LM₁⟩ := id D₁.attrs
  have hK₁ : ∀ b o, K b o → h₁.get? b = some o := fun b o e => k₁ b o (fun q => f.LK.ndx o (q ▸ e)) (fun q => f.LK.ng o (q ▸ e)) (J.hK b o e)
  have ns₁ : h₁.Ns L m := J.ns.at fun o e => k₁ _ o f.Ld f.Lg e
  have T₁ : TopH w h₁ := J.top.but2 f.fd f.fg k₁
  obtain ⟨tl, hline⟩ := LM₁.line
  refine attrX T₁ (f.LK.instOf hK₁ nsA₁) hline (cl_ln _) no_ln rfl ns₁ J.mX (by kernel_rfl) (by kernel_rfl) (by decide) (by with_unfolding_all rfl) ?_
  have F₁ : Fx (fun b o => h₁.get? b = some o ∧ b ≠ L) L h₁ m := ⟨ns₁, fun b o e => e.1, fun o e => e.2 rfl⟩
  refine newTupX F₁ (fun h₂ F₂ k₂ u₂ => ?_) (by show 2 ≤ sizeLine; decide)
  dsimp only at F₂ k₂ u₂ ⊢
  refine tup2 (by kernel_rfl) ?_
  refine Constant_str ?_
  refine wpAny_Constant_int ?_
  refine newTupX F₂ (fun h₃ F₃ k₃ u₃ => ?_) (by show 2 ≤ sizeLine; decide)
  dsimp only at F₃ k₃ u₃ ⊢
  have v₂ : h₃.IsTuple _ _ := u₂.keeps k₃
  refine PySem.EqBoolInt.of_rc (SeqAt.RcAt.tuples (e := fun _ => true) v₂ u₃ hu fun j h1 h2 => ?_) ?_
  · have j2 : j < 2 := h1
    match j, j2 with
    | 0, _ =>
      have := SeqAt.EqAt.str_str (A := A.in1) (s := { s with heap := h₃, toks := tk₁ + 1 + 1 + 1 }) ⟨#[]⟩ t₁ (Str.ofString "") (tk₁ + 1)
      exact this
    | 1, _ =>
      have := SeqAt.EqAt.int_int (A := A.in1) (s := { s with heap := h₃, toks := tk₁ + 1 + 1 + 1 }) 2 tl 2 (tk₁ + 1 + 1)
      exact this
  · exact h h₃ _ fun b o h1 h2 e => k₃ _ _ (k₂ _ _ (k₁ b o h1 h2 e))
end
end Mine
namespace Mine
open PySem PySem.W PySem.Challenge PySem.Calls PyProof.Rows

/-! the cells, the sizes, the turned word: without the program -/
noncomputable def tChk (lo mi cut : Nat) : Bool :=
  let l := (turnS (plainS lo mi) cut).cps.toList
  l.all (fun c => c == 97 || c == 98 || c == 99) && l.length == mi + 1 + mi + lo && (l.filter (· == 98)).length == mi && (l.filter (· == 99)).length == lo
theorem tChk_all : ([(0, 0), (0, 1), (1, 1), (1, 2)].all fun lm : Nat × Nat => (List.range (lm.2 + 1 + lm.2 + lm.1)).all fun cut => tChk lm.1 lm.2 cut) = true := by kernel_rfl

structure TurnOK (lo mi cut : Nat) : Prop where
  letters : ∀ c ∈ (turnS (plainS lo mi) cut).cps.toList, Let c
  len : (turnS (plainS lo mi) cut).length = mi + 1 + mi + lo
  b : cnt 98 (turnS (plainS lo mi) cut).cps.toList = (mi : Nat)
  c : cnt 99 (turnS (plainS lo mi) cut).cps.toList = (lo : Nat)
theorem turnOK {lo mi cut : Nat} (h1 : lo < 2) (h2 : lo ≤ mi) (h3 : mi < lo + 2) (hc : cut < mi + 1 + mi + lo) : TurnOK lo mi cut := by
  have hm : (lo, mi) ∈ [(0, 0), (0, 1), (1, 1), (1, 2)] := by
    have : (lo = 0 ∧ mi = 0) ∨ (lo = 0 ∧ mi = 1) ∨ (lo = 1 ∧ mi = 1) ∨ (lo = 1 ∧ mi = 2) := by lia
    rcases this with ⟨rfl, rfl⟩ | ⟨rfl, rfl⟩ | ⟨rfl, rfl⟩ | ⟨rfl, rfl⟩ <;> simp
  have h := List.all_eq_true.mp (List.all_eq_true.mp tChk_all (lo, mi) hm) cut (List.mem_range.mpr hc)
  unfold tChk at h
  simp only [Bool.and_eq_true, beq_iff_eq, List.all_eq_true, Bool.or_eq_true] at h
  obtain ⟨⟨⟨a, b⟩, c⟩, d⟩ := h
  refine ⟨fun x hx => (a x hx).elim (fun e => e.elim .inl fun e => .inr (.inl e)) fun e => .inr (.inr e), ?_, ?_, ?_⟩
  · rw [← b]; exact (Array.length_toList ..).symm
  · unfold cnt; rw [c]
  · unfold cnt; rw [d]

theorem pickL_mem {D : List Int} {lo hi st : Option Int} {x : Int} (h : x ∈ pickL D lo hi st) : x ∈ D := by
  unfold pickL at h
  obtain ⟨i, _, e⟩ := List.mem_filterMap.mp h
  exact List.mem_of_getElem? e
theorem sum_nonneg : ∀ {l : List Int}, (∀ x ∈ l, 0 ≤ x) → 0 ≤ l.sum
  | [], _ => by simp
  | x :: l, h => by
    have := sum_nonneg (l := l) fun y hy => h y (List.mem_cons_of_mem _ hy)
    have := h x (List.mem_cons_self ..)
    rw [List.sum_cons]; lia
theorem drawn_nonneg {ns : List Int} : ∀ x ∈ drawnL ns, 0 ≤ x := fun x hx => by
  unfold drawnL at hx
  obtain ⟨n, _, rfl⟩ := List.mem_map.mp hx
  exact Int.fmod_nonneg_of_pos _ (by decide)
theorem cell_nonneg {ns : List Int} {k : Nat} {f : Int} (hf : 0 ≤ f) : 0 ≤ cellAt (drawnL ns) k f := by
  unfold cellAt
  have := sum_nonneg (l := pickL (drawnL ns) (some (k : Int)) none (some 5)) fun x hx => drawn_nonneg x (pickL_mem hx)
  lia
theorem cells_nat (ns : List Int) : ∃ c0 c1 c2 c3 c4 : Nat, cellsL (drawnL ns) = castL [c0, c1, c2, c3, c4] := by
  have e : ∀ {k f}, 0 ≤ f → ∃ c : Nat, cellAt (drawnL ns) k f = (c : Int) := fun {k f} hf => ⟨(cellAt (drawnL ns) k f).toNat, (Int.toNat_of_nonneg (cell_nonneg hf)).symm⟩
  obtain ⟨c0, e0⟩ := e (k := 0) (f := 1) (by decide)
  obtain ⟨c1, e1⟩ := e (k := 1) (f := 0) (by decide)
  obtain ⟨c2, e2⟩ := e (k := 2) (f := 0) (by decide)
  obtain ⟨c3, e3⟩ := e (k := 3) (f := 6) (by decide)
  obtain ⟨c4, e4⟩ := e (k := 4) (f := 31) (by decide)
  refine ⟨c0, c1, c2, c3, c4, ?_⟩
  show [cellAt (drawnL ns) 0 1, cellAt (drawnL ns) 1 0, cellAt (drawnL ns) 2 0, cellAt (drawnL ns) 3 6, cellAt (drawnL ns) 4 31] = _
  rw [e0, e1, e2, e3, e4]; rfl
theorem ints_of (ns : List Int) : IntsAre (ns.map fun z => Value.int z 0) ns := by
  induction ns with
  | nil => exact .nil
  | cons n ns ih => exact .cons n 0 ih
theorem drawn_len {ns : List Int} : (drawnL ns).length ≤ ns.length := by
  unfold drawnL
  rw [List.length_map]
  have h := intsLen (intsPick (items := (ns.map fun z => Value.int z 0).toArray) (ns := ns) (by rw [List.toList_toArray]; exact ints_of ns) none (some 15) none)
  rw [← h, Array.length_toList]
  refine Nat.le_trans (slicePick_size_le _ _ _ _) ?_
  simp

noncomputable def kindKs (k a b c : Nat) : List Nat := match k with | 0 => [a, b, c] | 1 => [a, b, b] | _ => [a, b]
theorem want_is (k a b c : Nat) : wantOf k (a : Int) (b : Int) (c : Int) = castL (kindKs k a b c) := by
  match k with
  | 0 => rfl
  | 1 => rfl
  | k + 2 => rfl
theorem row_is {k a b c : Nat} (a1 : 1 ≤ a) (a3 : a ≤ 3) (b1 : 1 ≤ b) (b2 : b ≤ 2) (c1 : 1 ≤ c) (c2 : c ≤ 2) : RowIs (rowOf k (a : Int) (b : Int) (c : Int)) (wantOf k (a : Int) (b : Int) (c : Int)) := by
  unfold rowOf wantOf
  split
  · exact .plain _ _ _ (by lia) (by lia) (by lia) (by lia) (by lia) (by lia)
  · exact .zero _ _ _ (by lia) (by lia) (by lia) (by lia)
  · exact .stop _ _ _ (by lia) (by lia) (by lia) (by lia)
theorem kinds {k a b c : Nat} (a1 : 1 ≤ a) (a3 : a ≤ 3) (b1 : 1 ≤ b) (b2 : b ≤ 2) (c1 : 1 ≤ c) (c2 : c ≤ 2) :
    ∃ a' b' c' : Nat, 1 ≤ a' ∧ a' ≤ 3 ∧ 1 ≤ b' ∧ b' ≤ 2 ∧ ((1 ≤ c' ∧ c' ≤ 2 ∧ kindKs k a b c = [a', b', c']) ∨ kindKs k a b c = [a', b']) := by
  unfold kindKs
  split
  · exact ⟨a, b, c, a1, a3, b1, b2, .inl ⟨c1, c2, rfl⟩⟩
  · exact ⟨a, b, b, a1, a3, b1, b2, .inl ⟨b1, b2, rfl⟩⟩
  · exact ⟨a, b, c, a1, a3, b1, b2, .inr rfl⟩
end Mine
namespace Mine
open PySem PySem.W PySem.Challenge PySem.Calls PyProof.Rows

theorem TopH.but157 {w : World} {h h' : Heap} {P : Addr} (T : TopH w h) (f : Free w P) (k : ∀ b o, b ≠ P → b ≠ 157 → h.get? b = some o → h'.get? b = some o) : TopH w h' :=
  ⟨fun i o e hn => k _ _ (f.top i o e hn) hn (T.at_ i o e hn), let ⟨kvs, a, b⟩ := T.dict; let ⟨o, es, ep, ho, r⟩ := b; ⟨kvs, a, o, es, ep, k _ _ f.dict (by decide) ho, r⟩⟩
theorem TopH.but3 {w : World} {h h' : Heap} {P R U : Addr} (T : TopH w h) (f : Free w P) (f' : Free w R) (f'' : Free w U) (k : ∀ b o, b ≠ P → b ≠ R → b ≠ U → h.get? b = some o → h'.get? b = some o) : TopH w h' :=
  ⟨fun i o e hn => k _ _ (f.top i o e hn) (f'.top i o e hn) (f''.top i o e hn) (T.at_ i o e hn), let ⟨kvs, a, b⟩ := T.dict; let ⟨o, es, ep, ho, r⟩ := b; ⟨kvs, a, o, es, ep, k _ _ f.dict f'.dict f''.dict ho, r⟩⟩
theorem ne_of_get {h : Heap} {a b : Addr} (h1 : h.get? a ≠ none) (h2 : h.get? b = none) : a ≠ b := fun e => h1 (e ▸ h2)

section
variable {w : World} {A : Around} {E : Value → Shared → Prop} {s : Shared} {n : Nat}

theorem law_walk {l : Addr} {items : Array Value} {ns : List Int} {Q : Value → Shared → Prop} (T : TopH w s.heap) (hr : Room A (n + 5)) (h157 : s.heap.get? 157 = some (o157 w.params)) (hl : s.heap.IsList l items) (hi : IntsAre items.toList ns) (hlen : ns.length ≤ 63)
    (h : ∀ h' tk gs, (∀ b o, b ≠ 157 → s.heap.get? b = some o → h'.get? b = some o) → (∃ ps, h'.get? 157 = some { cls := .none, data := .fields ps }) → gs.bare = true → Q (.bool true) { s with heap := h', gens := s.gens.push gs, toks := tk }) :
    wpAny (model pw w) A (call (.ref 222) [.ref l]) Q E s := by
  refine law1 T hr hl hi (by lia) fun h₁ tk₁ D od dvs htk₁ F₁ g₁ d₁ PD₁ I₁ DL Dn hr₁ => ?_
  obtain ⟨L, hL⟩ : ∃ L, s.heap.objs.size = L := ⟨_, rfl⟩
  have Ln : s.heap.get? L = none := gone_of_size (by rw [hL]; exact Nat.le_refl _)
  rw [hL] at F₁ g₁ DL hr₁ ⊢
  have k₁ : ∀ b o, s.heap.get? b = some o → h₁.get? b = some o := fun b o e => F₁.keep _ _ e
  have T₁ : TopH w h₁ := T.keeps k₁
  have fL : Free w L := Free.of T Ln
  have hh := hr₁.handled
  have L1 : h₁.get? L ≠ none := by obtain ⟨o, _, _, e, _⟩ := F₁.ns; rw [e]; simp
  refine law2 T₁ hh F₁.ns g₁ d₁ PD₁ I₁ (Nat.le_trans drawn_len (by lia)) fun h₂ tk₂ C cvs k₂ ns₂ PC₂ I₂ Cn => ?_
  dsimp only at k₂ Cn ⊢
  have T₂ : TopH w h₂ := T₁.but fL k₂
  have CL : C ≠ L := (ne_of_get L1 Cn).symm
  obtain ⟨c0, c1, c2, c3, c4, hc⟩ := cells_nat ns
  rw [hc] at I₂
  refine law3 T₂ hh ns₂ rfl PC₂ I₂ fun h₃ tk₃ m₃ R W rvs wvs k₃ ns₃ mC₃ mR₃ mW₃ PR IR PW IW Rn Wn => ?_
  dsimp only at k₃ Rn Wn ⊢
  have T₃ : TopH w h₃ := T₂.but fL k₃
  have L2 : h₂.get? L ≠ none := by obtain ⟨o, _, _, e, _⟩ := ns₂; rw [e]; simp
  have WL : W ≠ L := (ne_of_get L2 Wn).symm
  obtain ⟨ks, hks⟩ : ∃ ks, kindKs (c3 % 3) (1 + c0 % 3) (1 + c1 % 2) (1 + c2 % 2) = ks := ⟨_, rfl⟩
  have hw := want_is (c3 % 3) (1 + c0 % 3) (1 + c1 % 2) (1 + c2 % 2)
  have hrow := row_is (k := c3 % 3) (a := 1 + c0 % 3) (b := 1 + c1 % 2) (c := 1 + c2 % 2) (by lia) (by lia) (by lia) (by lia) (by lia) (by lia)
  have hkind := kinds (k := c3 % 3) (a := 1 + c0 % 3) (b := 1 + c1 % 2) (c := 1 + c2 % 2) (by lia) (by lia) (by lia) (by lia) (by lia) (by lia)
  rw [hks] at hw hkind
  rw [hw] at hrow IW
  refine law4 (n := n + 2) T₃ hr₁ ns₃ mR₃ mW₃ PR IR PW IW hrow fun h₄ tk₄ S its gs k₄ ns₄ Sn SL PS IS hb htk₄ => ?_
  dsimp only at k₄ Sn ⊢
  have T₄ : TopH w h₄ := T₃.but fL k₄
  have PC₄ : h₄.PlainList C cvs := PC₂.at fun o e => k₄ _ _ CL (k₃ _ _ CL e)
  obtain ⟨lo, hlo⟩ : ∃ lo, c3 / 3 % 2 = lo := ⟨_, rfl⟩
  obtain ⟨mi, hmi⟩ : ∃ mi, lo + c3 / 6 % 2 = mi := ⟨_, rfl⟩
  have b1 : lo < 2 := by lia
  have b2 : lo ≤ mi := by lia
  have b3 : mi < lo + 2 := by lia
  refine law5 T₄ fL ns₄ mC₃ PC₄ I₂ hlo hmi fun h₅ tk₅ t1 t2 t3 t4 k₅ ns₅ => ?_
  dsimp only at k₅ ⊢
  have T₅ : TopH w h₅ := T₄.but fL k₅
  obtain ⟨cut, hcut⟩ : ∃ cut, c4 % (mi + 1 + mi + lo) = cut := ⟨_, rfl⟩
  rw [hcut] at ns₅
  have TO := turnOK b1 b2 b3 (cut := cut) (by rw [← hcut]; exact Nat.mod_lt _ (by lia))
  have up5 : ∀ b o, b ≠ L → h₂.get? b = some o → h₅.get? b = some o := fun b o hb e => k₅ _ _ hb (k₄ _ _ hb (k₃ _ _ hb e))
  have up15 : ∀ b o, b ≠ L → h₁.get? b = some o → h₅.get? b = some o := fun b o hb e => up5 _ _ hb (k₂ _ _ hb e)
  have up05 : ∀ b o, s.heap.get? b = some o → h₅.get? b = some o := fun b o e => up15 _ _ (ne_of_get (by rw [e]; simp) Ln) (k₁ _ _ e)
  have h157₅ := up05 _ _ h157
  have PC₅ : h₅.PlainList C cvs := PC₄.at fun o e => k₅ _ _ CL e
  have PW₅ : h₅.PlainList W wvs := PW.at fun o e => k₅ _ _ WL (k₄ _ _ WL e)
  have PS₅ : h₅.PlainList S its := PS.at fun o e => k₅ _ _ SL e
  have plen := plain_len b1 b3
  refine law6 (n := n) T₅ hr₁ fL ns₅ mC₃ rfl rfl PC₅ I₂ h157₅ (by rw [plen]; lia) TO.letters fun h₆ tk₆ xl dx yl g Pb K hpos k₆ ns₆ hK KL KP LK LD PP fd fg fP Pd Pg dxn gn Pbn tb => ?_
  dsimp only at k₆ dxn gn Pbn ⊢
  have T₆ : TopH w h₆ := T₅.but157 fL k₆
  have in5 : ∀ b, h₅.get? b ≠ none → b ≠ dx ∧ b ≠ g ∧ b ≠ Pb := fun b hb => ⟨ne_of_get hb dxn, ne_of_get hb gn, ne_of_get hb Pbn⟩
  have L5 := in5 L (by obtain ⟨o, _, _, e, _⟩ := ns₅; rw [e]; simp)
  have W5 := in5 W (by obtain ⟨nn, e⟩ := PW₅; rw [e]; simp)
  have S5 := in5 S (by obtain ⟨nn, e⟩ := PS₅; rw [e]; simp)
  have x5 := in5 157 (by rw [h157₅]; simp)
  have W157 : W ≠ 157 := by
    rintro rfl
    obtain ⟨nn, e⟩ := PW₅
    rw [h157₅] at e; cases e
  have S157 : S ≠ 157 := by
    rintro rfl
    obtain ⟨nn, e⟩ := PS₅
    rw [h157₅] at e; cases e
  have L157 : L ≠ 157 := by
    rintro rfl
    rw [h157] at Ln; cases Ln
  refine law7 (n := n) T₆ hr₁ fL ns₆ rfl rfl rfl hK KL LK LD PP fd fg Pd Pg L5.1.symm L5.2.1.symm (by rw [plen]; lia) (by rw [TO.len]; lia) TO.letters fun h₇ tk₇ tw p ln htk₇ k₇ ns₇ LD₇ RE => ?_
  dsimp only at k₇ htk₇ ⊢
  have T₇ : TopH w h₇ := T₆.but3 fL fd fg k₇
  have hK₇ : ∀ b o, K b o → h₇.get? b = some o := fun b o e => k₇ b o (fun q => KL o (q ▸ e)) (fun q => LK.ndx o (q ▸ e)) (fun q => LK.ng o (q ▸ e)) (hK b o e)
  have up7 : ∀ b o, b ≠ L → b ≠ 157 → h₅.get? b = some o → h₇.get? b = some o := fun b o h1 h2 e => by
    have q := in5 b (by rw [e]; simp)
    exact k₇ b o h1 q.1 q.2.1 (k₆ b o h1 h2 e)
  have PW₇ : h₇.PlainList W wvs := PW₅.at fun o e => up7 _ _ WL W157 e
  have PS₇ : h₇.PlainList S its := PS₅.at fun o e => up7 _ _ SL S157 e
  have PP₇ : h₇.PlainList Pb #[] := PP.at fun o e => k₇ _ _ L5.2.2.symm Pd Pg e
  have OK := lawOK b1 b2 b3 hkind
  have SO := sorting w b1 b2 b3 hkind
  have hk : ∀ k ∈ ks, k ≤ 100 := by
    obtain ⟨a', b', c', e1, e2, e3, e4, ⟨e5, e6, rfl⟩ | rfl⟩ := hkind
    · intro k hk; simp at hk; lia
    · intro k hk; simp at hk; lia
  have hsum : mi + 1 + mi + lo + ks.sum ≤ 100 := by
    obtain ⟨a', b', c', e1, e2, e3, e4, ⟨e5, e6, rfl⟩ | rfl⟩ := hkind
    · simp only [List.sum_cons, List.sum_nil]; lia
    · simp only [List.sum_cons, List.sum_nil]; lia
  have hsh : (∃ a b c, ks = [a, b, c]) ∨ ∃ a b, ks = [a, b] := by
    obtain ⟨a', b', c', _, _, _, _, ⟨_, _, e⟩ | e⟩ := hkind
    · exact .inl ⟨_, _, _, e⟩
    · exact .inr ⟨_, _, e⟩
  refine law8 (n := n + 2) T₇ hr₁ ns₇ rfl rfl mW₃ PW₇ IW OK SO hk hsum fun h₈ tk₈ D₈ ys ss t htk₈ k₈ ns₈ Dn₈ DL₈ _ ID SS hp hs => ?_
  dsimp only at k₈ htk₈ Dn₈ ⊢
  have T₈ : TopH w h₈ := T₇.but fL k₈
  have D8P : D₈ ≠ Pb := by
    obtain ⟨nn, e⟩ := PP₇
    exact (ne_of_get (by rw [e]; simp) Dn₈).symm
  have J : LJ w h₈ _ K L xl dx yl g Pb S D₈ (fileS (turnS (plainS lo mi) cut) (c3 + c4) (c4 % 2 != 0)) (turnS (plainS lo mi) cut) ks ss p ln :=
    ⟨T₈, ns₈, rfl, ⟨_, rfl⟩, rfl, rfl, fun b o e => k₈ b o (fun q => KL o (q ▸ e)) (hK₇ b o e), LD₇.but fun b o hb e => k₈ b o (by rcases hb with rfl | rfl; exact L5.1.symm; exact L5.2.1.symm) e,
      PP₇.at fun o e => k₈ _ _ L5.2.2.symm e, ⟨its, PS₇.at fun o e => k₈ _ _ SL e, IS⟩, ⟨ys, ID, SS⟩⟩
  have f : LF w K L xl dx yl g Pb S D₈ (fileS (turnS (plainS lo mi) cut) (c3 + c4) (c4 % 2 != 0)) :=
    ⟨fd, fg, fP, KL, KP, LK, Pd, Pg, L5.2.2, L5.1, L5.2.1, S5.2.2, D8P⟩
  have cn : Cnts (turnS (plainS lo mi) cut) (t0 lo mi) := ⟨TO.len, TO.b, TO.c⟩
  refine law9 (n := n) J f hr₁ (by dsimp only; lia) hsh hk cn OK SO hs hp fun h₉ tk₉ J₉ k₉ => ?_
  dsimp only at k₉ ⊢
  have tl : (fileS (turnS (plainS lo mi) cut) (c3 + c4) (c4 % 2 != 0)).length ≤ 10000 := by
    unfold fileS
    rw [Str.length_append, Str.length_append]
    have := written_len (seed := c3 + c4) (b := (c4 % 2 != 0)) TO.letters
    rw [TO.len] at this
    show (1 + _) + 1 ≤ _
    lia
  refine law10 (n := n) J₉ f hr₁ RE tl fun h₁₀ tk k₁₀ => ?_
  dsimp only at k₁₀ ⊢
  have up10 : ∀ b o, b ≠ L → b ≠ dx → b ≠ g → b ≠ Pb → h₆.get? b = some o → h₁₀.get? b = some o := fun b o q1 q2 q3 q4 e => k₁₀ b o q2 q3 (k₉ b o q4 (k₈ b o q1 (k₇ b o q1 q2 q3 e)))
  refine h h₁₀ tk gs (fun b o hb e => ?_) (tb.imp fun ps e => up10 _ _ L157.symm x5.1 x5.2.1 x5.2.2 e) hb
  have q := in5 b (by rw [up05 _ _ e]; simp)
  have bL : b ≠ L := ne_of_get (by rw [e]; simp) Ln
  exact up10 b o bL q.1 q.2.1 q.2.2 (k₆ b o bL hb (up05 _ _ e))
end
end Mine
set_option maxHeartbeats 8000000
namespace Mine
open PySem PySem.W PySem.Challenge PySem.Calls PyProof.Rows

noncomputable abbrev rw_ : OpenLaw := rw_tp0041_01
theorem prom : rw_.row.toRowW.promised := ⟨[.list [.int 3, .int 1]], by decide +kernel, by decide +kernel⟩
theorem bare_ : pw.bare := ⟨rfl, rfl, rfl, rfl, rfl, by decide +kernel⟩
theorem opens_ : opensWell pw = true := by decide +kernel
theorem room_ : Room callerA 9 := ⟨rfl, by decide +kernel, by decide +kernel⟩
theorem theDef_ : pw.theDef (Str.ofString "law") = some (fArgs (stA 26), fBody (stA 26), fScope (stA 26)) := by kernel_rfl
theorem frees_ : (frees rw_.row.toRowW && rw_.row.toRowW.within.isEmpty) = true := by decide +kernel

theorem topH_of {w : World} {s : Shared} (R : Rep s (KD w.params)) (kvs : List (Int × Value)) (hc : Carr b3data kvs) (hd : s.heap.DictOf (intKind pw w) 110 kvs) : TopH w s.heap :=
  ⟨fun i o e _ => R.own i o e, ⟨kvs, hc, hd⟩⟩

theorem law_gl (P : Params) : gl P (Str.ofString "law") = some (.ref 222) := by kernel_rfl
theorem noDef : (fArgs (stA 26)).defaults = [] := by kernel_rfl
theorem noKw : kwWritten? (fArgs (stA 26)).kwonlyargs (fArgs (stA 26)).kw_defaults = some [] := by kernel_rfl
theorem pin_ {w : World} {s : Shared} (T : TopH w s.heap) : isTheDefsW pw s.heap (Str.ofString "law") := by
  obtain ⟨o, pm, ho, _, hd⟩ := (fnLaw w.params).obj
  have e3 : s.heap.get? mainNs = some (o3 w.params) := T.at_ 3 _ (TD_at _).2.2 (by decide)
  have hg : globalOf s.heap (Str.ofString "law") = some (.ref 222) := by
    rw [Pin.globalOf_eq (isNs3 e3)]
    have : s.heap.nsMap mainGlobals = gl w.params := by
      funext x
      unfold Heap.nsMap
      rw [show s.heap.get? mainGlobals = some (o3 w.params) from e3]
      rfl
    rw [this]; exact law_gl _
  exact ⟨222, o, _, _, _, _, hg, T.at_ _ _ ho (by decide), hd, theDef_, rfl, rfl, rfl, rfl, rfl, rfl, rfl, rfl, .inl ⟨noDef, rfl⟩, [], noKw, .inl ⟨rfl, rfl⟩⟩

theorem args_ {w : World} {s₀ s₁ : Shared} {args : List WData} {vals : List Value} {as : List Addr} (hpre : rw_.row.toRowW.claim.pre args = true) (hlay : WData.layableAll args = true)
    (hrd : ReadsAllW rw_.row.toRowW.records (classAt s₀.heap) s₁.heap vals args as) (hwl : WellAll w.params s₁.heap vals args) (hlo : ∀ a ∈ as, (a == sysModules) = false) :
    ∃ l items ns, vals = [.ref l] ∧ s₁.heap.IsList l items ∧ IntsAre items.toList ns ∧ ns.length ≤ 63 := by
  wrow_args hpre hlay hrd hwl hlo
  rename_i ns _ _ _ _ _ _ _ l vs _ hL _ _ _ hI _ hc _
  exact ⟨l, vs.toArray, ns, rfl, hL, hI, by omega⟩

theorem post_ {args : List WData} {ds : List WData} : rw_.row.toRowW.claim.post args (.bool true) ds = true := by kernel_rfl

theorem readsTrue (R : WRecords) (cl : Str → Option Addr) (h : Heap) : ReadsW R cl h (.bool true) (.bool true) [] := by
  first | exact .bool true | constructor | rfl
theorem row_holds (said : rw_.row.wellSaid = true) : rw_.row.Holds := by
  obtain ⟨fr, wi⟩ := Bool.and_eq_true_iff.mp frees_
  obtain ⟨hsame, hu, ha, hap, hm⟩ := frees_parts fr
  refine ⟨said, prom, ⟨bare_, opens_, rfl⟩, prom.witness, fun w => ⟨(head w).1, fun s' hs' => ?_⟩⟩
  obtain ⟨s₀, hf, hg0, s, hT, hz, hgens, R, kvs, hc, hd⟩ := (head w).2 s' hs'
  have T := topH_of R kvs hc hd
  have h157 : s.heap.get? 157 = some (o157 w.params) := R.own 157 _ (by kernel_rfl)
  refine ⟨s₀, hf, hg0, s, hT, fun n hn => ?_, (fun x hx => (nomatch hx)), (fun x hx => (nomatch hx)), ?_⟩
  · have : n = Str.ofString "law" := by
      have hn : n ∈ [Str.ofString "law"] := hn
      exact List.mem_singleton.mp hn
    rw [this]; exact pin_ T
  refine ClaimW.callFrom_of_specG (c := rw_.row.toRowW.claim) hz hgens fun args hpre hlay ord hord => ?_
  obtain ⟨⟨vs, s₁⟩, hlaid⟩ := Option.isSome_iff_exists.mp (layAllW_isSome (R := rw_.row.toRowW.records) (cl := classAt s.heap) (P := w.params) (ord := ord) (fun c hc => (nomatch hc)) args rw_.row.toRowW.args s (pre_splitW hpre).1)
  have keeps := layAllW_keeps _ _ _ hlaid
  have hal := layAllW_rest _ _ _ hlaid
  obtain ⟨as, hrd, hin, hold⟩ := reads_layAllW hord _ _ _ hlaid hlay s₁.heap (fun _ _ e => e)
  have L : Laid rw_.row.toRowW.records w s s₁ args vs as := ⟨⟨ord, hord, hlaid⟩, hrd, hin, hold, keeps, hal.1.trans hgens, hal.2.2.1⟩
  have T₁ : TopH w s₁.heap := T.keeps keeps
  have low : sysModules < s.heap.objs.size := by
    have := Heap.lt_size h157
    exact Nat.lt_of_le_of_lt (by decide) this
  obtain ⟨l, items, ns, rfl, hl, hi, hlen⟩ := args_ hpre hlay hrd L.well (L.low low)
  have hii := ident_freeW (r := rw_.row.toRowW) hu ha hap
  have hwi : rw_.row.toRowW.claim.within = [] := List.isEmpty_iff.mp wi
  refine ⟨[.ref l], s₁, hlaid, ?_⟩
  refine wpAny_bind (wpAny_nsGet T₁.g ?_)
  rw [show gl w.params rw_.row.name = some (.ref 222) from law_gl _]
  refine wpAny_bind ?_
  refine law_walk (n := 4) T₁ room_ (keeps _ _ h157) hl hi hlen fun h' tk gs k t157 hb => ?_
  refine wpAny_pure ⟨_, rfl, ?_⟩
  have g : GoodWG rw_.row.toRowW.claim (classAt s.heap) (ExcName.means s.heap) args s₁ (.ok (.ret (.bool true))) { s₁ with heap := h', gens := s₁.gens.push gs, toks := tk } := by
    refine ⟨.inl ⟨.bool true, .bool true, [], rfl, fun cls => rfl, ?_, post_, fun _ => ⟨List.nodup_nil, fun a ha => (nomatch ha)⟩⟩, ?_, rfl, ?_⟩
    · exact readsTrue _ _ _
    · refine ⟨fun b o e => ?_, fun b o e => ?_⟩
      · by_cases hb' : b = 157
        · subst hb'
          rw [keeps _ _ h157] at e; cases e
          obtain ⟨ps, e'⟩ := t157
          exact .inr (.inl ⟨⟨161, o161 w.params, dFields (o161 w.params), T₁.at_ 161 _ (by kernel_rfl) (by decide), rfl, rfl, rfl⟩, rfl, #[], ps, rfl, by rw [e']; simp [o157]⟩)
        · exact .inl (k b o hb' e)
      · by_cases hb' : b = 157
        · subst hb'
          exact t157.imp' (fun ps => _) fun ps e' => e'
        · exact ⟨o, k b o hb' e⟩
    · exact AllBare.push (.of_eq L.gens) hb
  have z := g.laid (c := rw_.row.toRowW.claim) hsame hwi hii L
  exact ⟨z.1, z.2.1, z.2.2, fun q => (nomatch q)⟩
end Mine
set_option maxHeartbeats 4000000
namespace Mine
open PySem PySem.W PySem.Challenge PyProof.Rows PySem.W.Fast
theorem said_looks : looksOpen rw_.row.prog = true := by
  unfold looksOpen
  repeat' (with_reducible refine look_both ?_ ?_)
  · simp only [te11788848310118352699]; kernel_rfl
  · simp only [te9807087744658564304, te12862048085361865435]; kernel_rfl
  · simp only [te8377067652309620493]; as_aux_lemma => kernel_rfl
  · simp only [te18344453789297297638, te14412699480532031325, te3471404346716756564]; kernel_rfl
  · simp only [te8326940854005059898, te5923862056798008813, te17691160309236699985, te13343964577679436407, te3471404346716756564]
    as_aux_lemma => kernel_rfl
  · simp only [te17119622794617984870, te17868728402115742887]; as_aux_lemma => kernel_rfl
theorem said_part : rw_.row.partSaid = true := by
  unfold OpenRow.partSaid
  repeat' (with_reducible refine look_both ?_ ?_)
  · exact said_looks
  · kernel_rfl
  · kernel_rfl
  · kernel_rfl
  · kernel_rfl
  · kernel_rfl
  · kernel_rfl
  · kernel_rfl
  · kernel_rfl
  · kernel_rfl
  · kernel_rfl
  · kernel_rfl
  · kernel_rfl
  · kernel_rfl
theorem said_row : rw_.row.wellSaid = true := by
  unfold OpenRow.wellSaid
  repeat' (with_reducible refine look_both ?_ ?_)
  · exact said_part
  · simp only [te18344453789297297638, te3471404346716756564]; kernel_rfl
  all_goals kernel_rfl
theorem said_all : rw_.wellSaid = true := by
  unfold OpenLaw.wellSaid
  repeat' (with_reducible refine look_both ?_ ?_)
  · exact said_row
  · kernel_rfl
  · simp only [te10501279942588096481]; kernel_rfl
  · simp only [te8179353310426384613]; kernel_rfl
  · kernel_rfl
  · kernel_rfl
  · simp only [te8326940854005059898, te797321630700447069, te9572597257264208301]; as_aux_lemma => kernel_rfl
  · simp only [te9558739934217749035]; kernel_rfl
  · simp only [te16286561074155671207]; kernel_rfl
  · kernel_rfl
  · simp only [te797321630700447069, te6984425678791042302]; kernel_rfl
  · simp only [te17095254045102204799, te12879404354523853263, te6984425678791042302]; kernel_rfl
  · simp only [te17095254045102204799, te12879404354523853263, te6984425678791042302, te482687673346738481]; kernel_rfl
  · simp only [te17119622794617984870, te3471404346716756564]; as_aux_lemma => kernel_rfl
  · simp only [te10792542408131684335, te3471404346716756564]; kernel_rfl
  · simp only [te10792542408131684335, te7723801398212525404]; kernel_rfl
  · simp only [te10792542408131684335]; kernel_rfl
  · simp only [te17119622794617984870, te10792542408131684335, te3471404346716756564]; as_aux_lemma => kernel_rfl
  · simp only [te17119622794617984870]; as_aux_lemma => kernel_rfl
theorem law_holds : rw_.Holds := ⟨said_all, row_holds said_row⟩
end Mine
theorem PySem.Challenge.cw_tp0041_01_holds : PySem.Challenge.rw_tp0041_01.Holds :=
  Mine.law_holds
