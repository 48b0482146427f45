import PyProof.Rows.All
import Wide.All
import OpenK.AllK
import Wide.FinOn
import PySem.Challenge.RW_mq0226_01
open PySem PySem.W PyProof.Rows
set_option Elab.async false
namespace Mine
set_option maxRecDepth 100000 in
set_option maxHeartbeats 8000000 in
open_top hd for PySem.Challenge.rw_mq0226_01
end Mine
section -- B0
theorem Mine.calm_B0 : True := by
  w_top off
  trivial
open PySem PySem.W PySem.Calls PyProof.Rows
set_option Elab.async false
set_option maxRecDepth 100000
namespace Mine

/-- all objects of h but those at X are kept -/
def Kp (X : List Addr) (h h' : Heap) : Prop := ∀ b o, h.get? b = some o → b ∉ X → h'.get? b = some o
theorem Kp.refl {X h} : Kp X h h := fun _ _ e _ => e
theorem Kp.trans {X h h' h''} (a : Kp X h h') (b : Kp X h' h'') : Kp X h h'' := fun c o e n => b c o (a c o e n) n
theorem Kp.mono {X Y h h'} (a : Kp X h h') (hs : ∀ x ∈ X, x ∈ Y) : Kp Y h h' := fun c o e n => a c o e fun q => n (hs _ q)

/-- the around of a contract: no frames told -/
abbrev Ar (d u : Nat) : Around := { handled := none, depth := d, frames := none, guards := none, units := u }
theorem weaken {α : Type} {M : Model} {A : Around} {t : Sem α} {Q : α → Shared → Prop} {E : Value → Shared → Prop} {s : Shared} {d u : Nat}
    (h0 : A.handled = none) (hd : A.depth ≤ d) (hu : A.units ≤ u) (h : wpAny M (Ar d u) t Q E s) : wpAny M A t Q E s := by
  intro Γ p hΓ
  refine h Γ p ⟨hΓ.1.trans h0, Nat.le_trans hΓ.2.1 hd, fun l e => ?_, fun l e => ?_, Nat.le_trans hΓ.2.2.2.2 hu⟩
  · cases e
  · cases e

theorem fr_step {g h h' : Heap} {L : Addr} {m : Str → Option Value} {X : List Addr} (F : Fr g L h m) (k : Kp X h h') (hx : ∀ a ∈ X, g.get? a = none ∧ a ≠ L) : Fr g L h' m := by
  obtain ⟨oL, es, ep, hL, r⟩ := F.ns
  refine ⟨⟨oL, es, ep, k _ _ hL fun q => (hx _ q).2 rfl, r⟩, fun b o e => k _ _ (F.keep b o e) fun q => ?_, F.above⟩
  rw [(hx _ q).1] at e; cases e

/-- the rule for a call of a def that does not raise: news: the objects that it may change -/
theorem call_rule {prog : Program} {w : World} {d u : Nat} {E : Value → Shared → Prop} {s : Shared} {K : Frag} {p : Program} {loose : List Str} {mean : ExcName → Option Value} {mg mb : Str → Option Value}
    {name qual : Str} {params : Arguments} {body : List Stmt} {scope : Scope} {dV kV doc pm cdv ct oc : Value} {an od : Option Addr} {osl : Array (Option Value)} {f : Addr} {args : List Value} {binds : List (Str × Value)}
    {Q : Value → Shared → Prop} {b : Heap} (news : List (Addr × Obj))
    (X : K.In b) (T : Top p loose mean mg mb b) (hb : Kp [] b s.heap) (hN : ∀ q ∈ news, s.heap.get? q.1 = some q.2 ∧ b.get? q.1 = none)
    (ho : K.lookup f = some ⟨oc, od, .func (fnOf name qual params body scope dV kV doc pm an cdv ct), osl⟩) (hcd : codeIn K cdv qual = true) (hroom : d < recursionLimit)
    (hbind : BindsTo s (fnOf name qual params body scope dV kV doc pm an cdv ct) ⟨args, []⟩ binds) (hloc : ∀ y ∈ binds, scope.names.lookup y.1 = some .local)
    (h : ∀ g L' h₁, Fr g L' h₁ (fun y => binds.reverse.lookup y) → News g L' h₁ news → K.In g → Top p loose mean mg mb g →
      (∀ a o, s.heap.get? a = some o → a ∉ news.map (·.1) → g.get? a = some o) → (∀ q ∈ news, q.1 < L') →
      wpAny (model prog w) ((Ar d u).deeper (envOf qual scope L' f cdv)) (execs body (envOf qual scope L' f cdv))
        (fun fl s' => Q (match fl with | .ret v => v | _ => .none) s') (fun _ _ => False) { s with heap := h₁, toks := s.toks + binds.length })
    (hcell : ∀ x ∈ scope.names, x.2 ≠ .cell) (hco : scope.isCoroutine = false) (hgen : scope.isGenerator = false) (hk : scope.kind = .function) :
    wpAny (model prog w) (Ar d u) (call (.ref f) args) Q E s := by
  have hb' : ∀ a o, b.get? a = some o → s.heap.get? a = some o := fun a o e => hb a o e (by simp)
  have nm : ∀ a o, b.get? a = some o → a ∉ news.map (·.1) := fun a o e q => by
    obtain ⟨p, hp, rfl⟩ := List.mem_map.mp q
    rw [(hN p hp).2] at e; cases e
  have st : ∀ a o, b.get? a = some o → (hideAll s.heap (news.map (·.1))).get? a = some o := fun a o e => hideAll_get _ (hb' a o e) (nm a o e)
  refine wpAny_call (codeAny_call_def (fd := fnOf name qual params body scope dV kV doc pm an cdv ct) (body := body) (binds := binds) hroom (hb' _ _ (X _ _ ho)) rfl (T.nolimit.keeps hb') (codeRec_of (X.keeps hb') hcd) rfl hbind hcell hloc (fun h₁ hns hk₁ => ?_) hco hgen hk)
  refine wpAny_mono (h (hideAll s.heap (news.map (·.1))) s.heap.objs.size h₁ ⟨hns, fun a o e => hk₁ a o (of_hideAll _ e), Nat.le_of_eq (hideAll_size _ _)⟩
    (fun p hp => ⟨hk₁ _ _ (hN p hp).1, Nat.ne_of_lt (Heap.lt_size (hN p hp).1), hideAll_none _ (List.mem_map_of_mem hp)⟩)
    (X.keeps st) (T.keeps st) (fun a o e n => hideAll_get _ e n) (fun p hp => Heap.lt_size (hN p hp).1)) (fun fl s' hl => hl) fun _ _ y => y.elim

theorem kp_of {g h h' : Heap} {X : List Addr} (hg : ∀ a o, h.get? a = some o → a ∉ X → g.get? a = some o) {L : Addr} {m : Str → Option Value} (F : Fr g L h' m) : Kp X h h' :=
  fun a o e n => F.keep a o (hg a o e n)

structure Cx (w : World) (mean : ExcName → Option Value) (mg mb : Str → Option Value) (b : Heap) : Prop where
  X : (Mine.hd.heap_39 w.params).In b
  T : Top Mine.hd.view_39 (looseW Mine.hd.view_39 []) mean mg mb b

end Mine
end -- B0
section -- T1
theorem Mine.calm_T1 : True := by
  w_top off
  trivial
open PySem PySem.W PySem.Calls PyProof.Rows
set_option Elab.async false
set_option maxRecDepth 100000
namespace Mine
/-! no run takes a token back -/
theorem runs_toks {M : Model} {Γ : Ctx} {p : Pos} {t : Sem Fin} {fs : List Frame} {s : Shared} {e : End} {s' : Shared} (h : Runs M Γ p t fs s e s') : s.toks ≤ s'.toks := by
  induction h <;> (try simp only [Shared.setGen] at *) <;> (try dsimp only at *) <;> omega
theorem wakes_toks {M : Model} {Γ : Ctx} {p : Pos} {g : Nat} {r : Resume} {s : Shared} {res : GenResult} {s' : Shared} (h : Wakes M Γ p g r s res s') : s.toks ≤ s'.toks := by
  unfold Wakes at h
  split at h
  · exact h.elim
  · split at h
    · obtain ⟨e₁, s₁, hr, _, _, rfl⟩ := h; have := runs_toks hr; exact this
    · obtain ⟨_, rfl⟩ := h; exact Nat.le_refl _
    · obtain ⟨_, rfl⟩ := h; exact Nat.le_refl _
  · obtain ⟨e₁, s₁, hr, _, _, rfl⟩ := h; have := runs_toks hr; exact this
  · obtain ⟨_, rfl⟩ := h; exact Nat.le_refl _
  · obtain ⟨_, rfl⟩ := h; exact Nat.le_refl _
theorem wp_toks {α : Type} {M : Model} {Γ : Ctx} (t : Sem α) {Q : α → Pos → Shared → Prop} {E : Value → Pos → Shared → Prop} {p : Pos} {s : Shared} (h : Sem.wp M Γ t Q E p s) :
    Sem.wp M Γ t (fun a p' s' => s.toks ≤ s'.toks ∧ Q a p' s') (fun e p' s' => s.toks ≤ s'.toks ∧ E e p' s') p s := by
  have up : ∀ (t : Sem α) (p : Pos) (s s₁ : Shared), s.toks ≤ s₁.toks → Sem.wp M Γ t (fun a p' s' => s₁.toks ≤ s'.toks ∧ Q a p' s') (fun e p' s' => s₁.toks ≤ s'.toks ∧ E e p' s') p s₁ →
      Sem.wp M Γ t (fun a p' s' => s.toks ≤ s'.toks ∧ Q a p' s') (fun e p' s' => s.toks ≤ s'.toks ∧ E e p' s') p s₁ := fun t p s s₁ hle hw =>
    Sem.wp_mono M Γ t (fun _ _ _ q => ⟨Nat.le_trans hle q.1, q.2⟩) (fun _ _ _ q => ⟨Nat.le_trans hle q.1, q.2⟩) p s₁ hw
  induction t generalizing p s with
  | pure a => exact ⟨Nat.le_refl _, h⟩
  | raise e => exact ⟨Nat.le_refl _, h⟩
  | unsupported _ => exact h
  | finish _ => exact h
  | rule _ k ih => exact ih () h
  | «at» _ k ih => exact ih () h
  | load a _ k ih => obtain ⟨o, ho, hw⟩ := h; exact ⟨o, ho, ih o hw⟩
  | update a _ f k ih => exact ⟨h.1, ih () h.2⟩
  | alloc o k ih => exact ih _ h
  | loadIfAlive a k ih => exact ih _ h
  | point _ k ih => exact ih () h
  | register _ _ _ => exact h
  | fresh k ih => exact up (k s.toks) p s { s with toks := s.toks + 1 } (Nat.le_succ _) (ih _ h)
  | ask k ih => exact ih _ h
  | choose src n k ih => exact ⟨h.1, ih _ h.2⟩
  | os q l k ih => exact ih _ h
  | call c m g l k ih =>
    obtain ⟨r, s', hr, hw⟩ := h
    exact ⟨r, s', hr, up _ _ s s' (runs_toks hr) (ih r hw)⟩
  | handled own k ih => exact ih _ h
  | newGen c k ih => exact ih _ h
  | genState g k ih => obtain ⟨st, hs, hw⟩ := h; exact ⟨st, hs, ih _ hw⟩
  | resume g r l k ih =>
    obtain ⟨res, s', hr, hw⟩ := h
    exact ⟨res, s', hr, up _ _ s s' (wakes_toks hr) (ih res hw)⟩
  | yield _ _ _ _ _ => exact h
  | stack k ih => exact ih _ h
  | fork _ _ _ => exact h
  | thread k ih => exact ih _ h
  | await _ _ _ _ _ _ => exact h
/-- what comes behind a tree may lean on it that no token was taken back -/
theorem gain {α : Type} {M : Model} {A : Around} {t : Sem α} {Q : α → Shared → Prop} {E : Value → Shared → Prop} {s : Shared} (h : wpAny M A t (fun a s' => s.toks ≤ s'.toks → Q a s') E s) : wpAny M A t Q E s :=
  fun Γ p hΓ => Sem.wp_mono M Γ t (fun _ _ _ q => q.2 q.1) (fun _ _ _ q => q.2) p s (wp_toks t (h Γ p hΓ))
end Mine
end -- T1
section -- B1
theorem Mine.calm_B1 : True := by
  w_top off
  trivial
open PySem PySem.W PySem.Calls PyProof.Rows
set_option Elab.async false
set_option maxRecDepth 100000
namespace Mine
/-! a place where the walk is to stop -/
def Halt (P : Prop) : Prop := P
theorem halt_at {P : Prop} (h : Halt P) : P := h
/-! statements with the tokens kept in sight -/
def TokPost (n : Nat) (P : Flow → Shared → Prop) (f : Flow) (s' : Shared) : Prop := n ≤ s'.toks → P f s'
theorem tokPost_ {n : Nat} {P : Flow → Shared → Prop} {f : Flow} {s' : Shared} (h : n ≤ s'.toks → P f s') : TokPost n P f s' := h
section
variable {M : Model} {A : Around} {E : Value → Shared → Prop} {s : Shared} {env : Env}
theorem execs_T {st : Stmt} {rest : List Stmt} {Q : Flow → Shared → Prop}
    (h : ∀ tk, s.toks ≤ tk → wpAny M A (exec st env) (TokPost tk fun f s' => match f with | .next => wpAny M A (execs rest env) Q E s' | f => Q f s') E { s with toks := tk }) :
    wpAny M A (execs (st :: rest) env) Q E s := wpAny_execs_cons (gain (h s.toks (Nat.le_refl _)))
end
/-! a for over a tuple that raises nothing; the invariant J says all of the state -/
section
variable {prog : Program} {w : World} {A : Around} {s : Shared} {env : Env}
/-- one turn of a for over a tuple -/
def TurnEnd (C : Shared → Prop) (R : Result → Shared → Prop) (f : Flow) (s : Shared) : Prop := match f with
  | .next | .cont => C s
  | .brk => R (.ok .next) s
  | .ret v => R (.ok (.ret v)) s
theorem turn_tuple {target : Expr} {body : List Stmt} {I D : Addr} {i : Nat} {v : Value} {items : Array Value} {R : Result → Shared → Prop} (hit : s.heap.IsTupleIter I D i) (hD : s.heap.IsTuple D items) (hv : items[i]? = some v)
    (h : ∀ h', h'.IsTupleIter I D (i + 1) → Heap.SameBut I s.heap h' →
      wpAny (model prog w) A (assign target env v) (fun _ s₂ => wpAny (model prog w) A (execs body env) (TurnEnd (codeAny (model prog w) A (.forLoop target (.ref I) body [] env) R) R) (fun _ _ => False) s₂) (fun _ _ => False) { s with heap := h' })
    (ht : ∀ v, letOwnedTupleGo target (.ref I) v = pure () := by intro _; rfl) : codeAny (model prog w) A (.forLoop target (.ref I) body [] env) R s := by
  refine codeAny_of_tree ?_
  show wpAny _ A ((forTurn target (.ref I) body [] env).onRaise (fun x => do noteFrame x env; theTreesLotGoes x)) _ _ s
  refine wpAny_noted ?_
  simp only [forTurn]
  refine wpAny_bind (wpAny_standAt (wpAny_bind (wpAny_onRaise ?_)))
  refine wpAny_pyNext_tuple_item hit hD hv fun h' hit' hsb => ?_
  refine wpAny_bind (wpAny_of_eq (ht v) ?_)
  refine wpAny_bind (wpAny_mono (h h' hit' hsb) (fun _ s₂ h₂ => wpAny_bind (wpAny_mono h₂ (fun f s₃ h₃ => ?_) fun _ _ q => q.elim)) fun _ _ q => q.elim)
  cases f with
  | next => exact wpAny_pure ⟨rfl, h₃⟩
  | cont => exact wpAny_pure ⟨rfl, h₃⟩
  | brk => exact wpAny_pure h₃
  | ret v => exact wpAny_pure h₃
theorem end_tuple {target : Expr} {body : List Stmt} {I D : Addr} {i : Nat} {items : Array Value} {R : Result → Shared → Prop} (hh : A.handled = none) (hit : s.heap.IsTupleIter I D i) (hD : s.heap.IsTuple D items) (hv : items[i]? = none)
    (h : ∀ h', Heap.ExtBut I s.heap h' → R (.ok .next) { s with heap := h' }) : codeAny (model prog w) A (.forLoop target (.ref I) body [] env) R s := by
  refine codeAny_of_tree ?_
  show wpAny _ A ((forTurn target (.ref I) body [] env).onRaise (fun x => do noteFrame x env; theTreesLotGoes x)) _ _ s
  refine wpAny_noted ?_
  simp only [forTurn]
  refine wpAny_bind (wpAny_standAt (wpAny_bind (wpAny_onRaise ?_)))
  refine wpAny_pyNext_tuple_end hh hit hD hv fun h' he => ?_
  exact wpAny_pure ⟨rfl, codeAny_block (wpAny_execs_nil (h h' he))⟩
/-- a for over a list, alike -/
theorem for_list {target : Expr} {body : List Stmt} {pos : Pos} {iter : Expr} {Q : Flow → Shared → Prop} {E : Value → Shared → Prop} {items : Array Value} {l : Addr} (hh : A.handled = none)
    (J : Addr → Nat → Shared → Prop) (hl : s.heap.IsList l items)
    (h0 : J s.heap.objs.size 0 { s with heap := s.heap.push { cls := .type "list_iterator", data := .fields #[.ref l, .int 0 0] } })
    (hJ : ∀ I i s', J I i s' → s'.heap.IsListIter I l i ∧ s'.heap.IsList l items)
    (turn : ∀ I i v s' h', J I i s' → items[i]? = some v → h'.IsListIter I l (i + 1) → Heap.SameBut I s'.heap h' →
      wpAny (model prog w) A (assign target env v) (fun _ s₂ => wpAny (model prog w) A (execs body env) (fun f s₃ => match f with
          | .next | .cont => J I (i + 1) s₃ | .brk => Q .next s₃ | .ret v => Q (.ret v) s₃) (notedBy (model prog w) A env (cameBackBy (model prog w) A env E)) s₂) (notedBy (model prog w) A env (cameBackBy (model prog w) A env E)) { s' with heap := h' })
    (done : ∀ I s' h', J I items.size s' → Heap.ExtBut I s'.heap h' → Q .next { s' with heap := h' })
    (ht : ∀ it v, letOwnedTupleGo target it v = pure () := by intro _ _; rfl) :
    wpAny (model prog w) A (pyIter (.ref l)) (fun it s₂ => codeAny (model prog w) A (.forLoop target it body [] env) (fun r s' => match r with | .ok f => Q f s' | .error e => cameBackBy (model prog w) A env E e s') s₂) E s := by
  refine wpAny_pyIter_list hl ?_
  refine codeAny_forLoop (fun n s' => ∃ i, i ≤ items.size ∧ n = items.size - i ∧ J s.heap.objs.size i s') ?_ (items.size - 0) ⟨0, Nat.zero_le _, rfl, h0⟩ (ht _)
  rintro n s' ⟨i, hi, rfl, hj⟩
  obtain ⟨h1, h2⟩ := hJ _ _ _ hj
  cases hv : items[i]? with
  | none =>
    have hsz : i = items.size := Nat.le_antisymm hi (by simpa using hv)
    subst hsz
    exact wpAny_pyNext_list_end hh h1 h2 hv fun h' he' => wpAny_execs_nil (done _ _ _ hj he')
  | some v =>
    have hlt : i < items.size := (Array.getElem?_eq_some_iff.mp hv).1
    refine wpAny_pyNext_list_item h1 h2 hv fun h' hit hsb => ?_
    refine wpAny_mono (turn _ _ _ _ _ hj hv hit hsb) (fun _ s₂ q => wpAny_mono q (fun f s₃ r => ?_) fun _ _ q => q) fun _ _ q => q
    cases f with
    | next => exact ⟨items.size - (i + 1), by omega, i + 1, hlt, rfl, r⟩
    | cont => exact ⟨items.size - (i + 1), by omega, i + 1, hlt, rfl, r⟩
    | brk => exact r
    | ret v => exact r
/-- a while that raises nothing -/
def WTurn (J : Nat → Shared → Prop) (n : Nat) (Q : Flow → Shared → Prop) (f : Flow) (s : Shared) : Prop := match f with
  | .next | .cont => ∃ m, m < n ∧ J m s
  | .brk => Q .next s
  | .ret v => Q (.ret v) s
theorem while_rule {test : Expr} {body : List Stmt} {pos : Pos} {Q : Flow → Shared → Prop} {E : Value → Shared → Prop} (J : Nat → Shared → Prop) (n : Nat) (h0 : J n s)
    (turn : ∀ n s', J n s' → wpAny (model prog w) A (isTrue test env (eval test env)) (fun b s₂ =>
        if b then wpAny (model prog w) A (execs body env) (WTurn J n Q) (fun _ _ => False) s₂
        else Q .next s₂) (fun _ _ => False) s') :
    wpAny (model prog w) A (exec (.While test body [] pos) env) Q E s := by
  refine wpAny_mono (E := fun _ _ => False) ?_ (fun _ _ q => q) (fun _ _ q => q.elim)
  refine wpAny_While (codeAny_whileLoop J (fun n s' hj => ?_) n h0)
  refine wpAny_mono (turn n s' hj) (fun b s₂ q => ?_) fun _ _ q => q.elim
  cases b with
  | false => simp only [Bool.false_eq_true, if_false] at q ⊢; exact wpAny_execs_nil q
  | true =>
    simp only [if_true] at q ⊢
    refine wpAny_mono q (fun f s₃ r => ?_) fun _ _ q => q.elim
    cases f with
    | next => exact r
    | cont => exact r
    | brk => exact r
    | ret v => exact r
end
end Mine
end -- B1
section -- R1
theorem Mine.calm_R1 : True := by
  w_top off
  trivial
open PySem PySem.W PySem.Calls PyProof.Rows
set_option Elab.async false
set_option maxRecDepth 100000
namespace Mine
/-! max and min of three floats -/
def fltAt (xs : Array (UInt64 × Tok)) (i : Nat) : UInt64 := (xs[i]?.getD (0, 0)).1
def fltItems (xs : Array (UInt64 × Tok)) : Array Value := xs.map fun p => .float p.1 p.2
/-- one of three, with its token -/
def OneOf (v : UInt64) (y : Tok) (a : UInt64) (t : Tok) (b : UInt64) (u : Tok) (c : UInt64) (x : Tok) : Prop := (v = a ∧ y = t) ∨ (v = b ∧ y = u) ∨ (v = c ∧ y = x)
theorem fltItems_at {xs : Array (UInt64 × Tok)} {i : Nat} {v : Value} (h : (fltItems xs)[i]? = some v) : ∃ t, v = .float (fltAt xs i) t := by
  unfold fltItems at h
  rw [Array.getElem?_map] at h
  cases hx : xs[i]? with
  | none => rw [hx] at h; cases h
  | some p => rw [hx] at h; cases h; exact ⟨p.2, by unfold fltAt; rw [hx]; rfl⟩
theorem cmpOf_gt {prog : Program} {w : World} {A : Around} {P : Nat → Value → Prop} (val : Nat → UInt64) (hval : ∀ i v, P i v → ∃ t, v = .float (val i) t) :
    CmpOf prog w A .Gt P (fun i j => Float64.cmp (val i) (val j) == some Ordering.gt) := fun i j vi vj s Q E hi hj h => by
  obtain ⟨t, rfl⟩ := hval i vi hi
  obtain ⟨u, rfl⟩ := hval j vj hj
  exact AutoFloatOps.gt_0 h
theorem cmpOf_lt {prog : Program} {w : World} {A : Around} {P : Nat → Value → Prop} (val : Nat → UInt64) (hval : ∀ i v, P i v → ∃ t, v = .float (val i) t) :
    CmpOf prog w A .Lt P (fun i j => Float64.cmp (val i) (val j) == some Ordering.lt) := fun i j vi vj s Q E hi hj h => by
  obtain ⟨t, rfl⟩ := hval i vi hi
  obtain ⟨u, rfl⟩ := hval j vj hj
  exact AutoFloatOps.lt_0 h
def fmax2 (a b : UInt64) : UInt64 := if Float64.cmp b a == some Ordering.gt then b else a
def fmin2 (a b : UInt64) : UInt64 := if Float64.cmp b a == some Ordering.lt then b else a
def fmax3 (a b c : UInt64) : UInt64 := fmax2 (fmax2 a b) c
def fmin3 (a b c : UInt64) : UInt64 := fmin2 (fmin2 a b) c
section
variable {prog : Program} {w : World} {A : Around} {E : Value → Shared → Prop} {s : Shared}
theorem max3_floats {a b c : UInt64} {t u x : Tok} {Q : Value → Shared → Prop} (hh : A.handled = none)
    (h : ∀ y h' tk, OneOf (fmax3 a b c) y a t b u c x → (∀ d o, s.heap.get? d = some o → h'.get? d = some o) → Q (.float (fmax3 a b c) y) { s with heap := h', toks := tk }) :
    wpAny (model prog w) A (call (.builtin "max") [.float a t, .float b u, .float c x]) Q E s := by
  have hT : (s.heap.push { cls := .type "tuple", data := .seq #[.float a t, .float b u, .float c x] }).IsTuple s.heap.objs.size (fltItems #[(a, t), (b, u), (c, x)]) := ⟨_, Heap.get?_push_size _ rfl, rfl, 0, by simp [fltItems]⟩
  refine call_max_three (wpAny_pyIter_tuple hT ?_)
  have hsz : (s.heap.push { cls := .type "tuple", data := .seq #[.float a t, .float b u, .float c x] }).objs.size = s.heap.objs.size + 1 := Heap.size_push ..
  refine ⟨_, [_, s.heap.objs.size], [_], _, _, _, _, rfl, Walks.tuple (A := A.in1) hh _ s.heap.objs.size (by rw [hsz]; exact Nat.ne_of_lt (Nat.lt_succ_self _)) (fltItems #[(a, t), (b, u), (c, x)]),
    ⟨⟨_, Heap.get?_push_size _ rfl, rfl, rfl⟩, hT.push _⟩, fun d hd => ?_, by simp [fltItems], cmpOf_gt (fltAt #[(a, t), (b, u), (c, x)]) (fun _ _ => fltItems_at), fun v h' tk hP hk => ?_⟩
  · show d < ((s.heap.push _).push _).objs.size
    rw [Heap.size_push, hsz]
    rcases List.mem_cons.mp hd with rfl | hd
    · rw [hsz]; exact Nat.lt_succ_self _
    · rcases List.mem_cons.mp hd with rfl | hd
      · exact Nat.lt_succ_of_lt (Nat.lt_succ_self _)
      · cases hd
  · have hold : ∀ d o, s.heap.get? d = some o → h'.get? d = some o := fun d o e => by
      refine hk d o (fun hm => ?_) (Heap.get?_push_of_some _ (Heap.get?_push_of_some _ e))
      rcases List.mem_cons.mp hm with e1 | hm
      · have := Heap.lt_size e; rw [e1, hsz] at this; exact Nat.lt_irrefl _ (Nat.lt_of_succ_lt this)
      · cases hm
    have hv : ∃ y, v = .float (fmax3 a b c) y ∧ OneOf (fmax3 a b c) y a t b u c x := by
      have hP' : (fltItems #[(a, t), (b, u), (c, x)])[argBest (fun i j => Float64.cmp (fltAt #[(a, t), (b, u), (c, x)] i) (fltAt #[(a, t), (b, u), (c, x)] j) == some Ordering.gt) 2]? = some v := by
        have hsz2 : (fltItems #[(a, t), (b, u), (c, x)]).size - 1 = 2 := by simp [fltItems]
        rw [← hsz2]; exact hP
      unfold fmax3 fmax2 OneOf
      simp only [argBest, fltAt] at hP'
      by_cases h1 : (Float64.cmp b a == some Ordering.gt) = true
      · by_cases h2 : (Float64.cmp c b == some Ordering.gt) = true
        · simp [h1, h2, fltItems] at hP' ⊢; exact ⟨x, hP'.symm, by simp⟩
        · simp [h1, h2, fltItems] at hP' ⊢; exact ⟨u, hP'.symm, by simp⟩
      · by_cases h2 : (Float64.cmp c a == some Ordering.gt) = true
        · simp [h1, h2, fltItems] at hP' ⊢; exact ⟨x, hP'.symm, by simp⟩
        · simp [h1, h2, fltItems] at hP' ⊢; exact ⟨t, hP'.symm, by simp⟩
    obtain ⟨y, rfl, hy⟩ := hv
    exact h y h' tk hy hold
theorem min3_floats {a b c : UInt64} {t u x : Tok} {Q : Value → Shared → Prop} (hh : A.handled = none)
    (h : ∀ y h' tk, OneOf (fmin3 a b c) y a t b u c x → (∀ d o, s.heap.get? d = some o → h'.get? d = some o) → Q (.float (fmin3 a b c) y) { s with heap := h', toks := tk }) :
    wpAny (model prog w) A (call (.builtin "min") [.float a t, .float b u, .float c x]) Q E s := by
  have hT : (s.heap.push { cls := .type "tuple", data := .seq #[.float a t, .float b u, .float c x] }).IsTuple s.heap.objs.size (fltItems #[(a, t), (b, u), (c, x)]) := ⟨_, Heap.get?_push_size _ rfl, rfl, 0, by simp [fltItems]⟩
  refine call_min_three (wpAny_pyIter_tuple hT ?_)
  have hsz : (s.heap.push { cls := .type "tuple", data := .seq #[.float a t, .float b u, .float c x] }).objs.size = s.heap.objs.size + 1 := Heap.size_push ..
  refine ⟨_, [_, s.heap.objs.size], [_], _, _, _, _, rfl, Walks.tuple (A := A.in1) hh _ s.heap.objs.size (by rw [hsz]; exact Nat.ne_of_lt (Nat.lt_succ_self _)) (fltItems #[(a, t), (b, u), (c, x)]),
    ⟨⟨_, Heap.get?_push_size _ rfl, rfl, rfl⟩, hT.push _⟩, fun d hd => ?_, by simp [fltItems], cmpOf_lt (fltAt #[(a, t), (b, u), (c, x)]) (fun _ _ => fltItems_at), fun v h' tk hP hk => ?_⟩
  · show d < ((s.heap.push _).push _).objs.size
    rw [Heap.size_push, hsz]
    rcases List.mem_cons.mp hd with rfl | hd
    · rw [hsz]; exact Nat.lt_succ_self _
    · rcases List.mem_cons.mp hd with rfl | hd
      · exact Nat.lt_succ_of_lt (Nat.lt_succ_self _)
      · cases hd
  · have hold : ∀ d o, s.heap.get? d = some o → h'.get? d = some o := fun d o e => by
      refine hk d o (fun hm => ?_) (Heap.get?_push_of_some _ (Heap.get?_push_of_some _ e))
      rcases List.mem_cons.mp hm with e1 | hm
      · have := Heap.lt_size e; rw [e1, hsz] at this; exact Nat.lt_irrefl _ (Nat.lt_of_succ_lt this)
      · cases hm
    have hv : ∃ y, v = .float (fmin3 a b c) y ∧ OneOf (fmin3 a b c) y a t b u c x := by
      have hP' : (fltItems #[(a, t), (b, u), (c, x)])[argBest (fun i j => Float64.cmp (fltAt #[(a, t), (b, u), (c, x)] i) (fltAt #[(a, t), (b, u), (c, x)] j) == some Ordering.lt) 2]? = some v := by
        have hsz2 : (fltItems #[(a, t), (b, u), (c, x)]).size - 1 = 2 := by simp [fltItems]
        rw [← hsz2]; exact hP
      unfold fmin3 fmin2 OneOf
      simp only [argBest, fltAt] at hP'
      by_cases h1 : (Float64.cmp b a == some Ordering.lt) = true
      · by_cases h2 : (Float64.cmp c b == some Ordering.lt) = true
        · simp [h1, h2, fltItems] at hP' ⊢; exact ⟨x, hP'.symm, by simp⟩
        · simp [h1, h2, fltItems] at hP' ⊢; exact ⟨u, hP'.symm, by simp⟩
      · by_cases h2 : (Float64.cmp c a == some Ordering.lt) = true
        · simp [h1, h2, fltItems] at hP' ⊢; exact ⟨x, hP'.symm, by simp⟩
        · simp [h1, h2, fltItems] at hP' ⊢; exact ⟨t, hP'.symm, by simp⟩
    obtain ⟨y, rfl, hy⟩ := hv
    exact h y h' tk hy hold
theorem max3_N {h₀ : Heap} {L : Addr} {m : Str → Option Value} {news : List (Addr × Obj)} {a b c : UInt64} {t u x : Tok} {Q : Value → Shared → Prop} (F : Fr h₀ L s.heap m) (N : News h₀ L s.heap news) (hh : A.handled = none)
    (h : ∀ y h' tk, OneOf (fmax3 a b c) y a t b u c x → Fr h₀ L h' m → News h₀ L h' news → Q (.float (fmax3 a b c) y) { s with heap := h', toks := tk }) :
    wpAny (model prog w) A (call (.builtin "max") [.float a t, .float b u, .float c x]) Q E s :=
  max3_floats hh fun y h' tk hy k => h y h' tk hy (fr_step (X := []) F (fun b o e _ => k b o e) (by simp)) fun p hp => ⟨k _ _ (N p hp).1, (N p hp).2⟩
theorem min3_N {h₀ : Heap} {L : Addr} {m : Str → Option Value} {news : List (Addr × Obj)} {a b c : UInt64} {t u x : Tok} {Q : Value → Shared → Prop} (F : Fr h₀ L s.heap m) (N : News h₀ L s.heap news) (hh : A.handled = none)
    (h : ∀ y h' tk, OneOf (fmin3 a b c) y a t b u c x → Fr h₀ L h' m → News h₀ L h' news → Q (.float (fmin3 a b c) y) { s with heap := h', toks := tk }) :
    wpAny (model prog w) A (call (.builtin "min") [.float a t, .float b u, .float c x]) Q E s :=
  min3_floats hh fun y h' tk hy k => h y h' tk hy (fr_step (X := []) F (fun b o e _ => k b o e) (by simp)) fun p hp => ⟨k _ _ (N p hp).1, (N p hp).2⟩
end
end Mine
end -- R1
section -- R2
theorem Mine.calm_R2 : True := by
  w_top off
  trivial
open PySem PySem.W PySem.Calls PyProof.Rows
set_option Elab.async false
set_option maxRecDepth 100000
namespace Mine
abbrev tupOf (vs : List Value) (n : Nat) : Obj := { cls := .type "tuple", data := .seq vs.toArray n }
abbrev flts (x : UInt64 × UInt64 × UInt64) (t : Tok × Tok × Tok) : List Value := [.float x.1 t.1, .float x.2.1 t.2.1, .float x.2.2 t.2.2]
theorem fresh_of {g h : Heap} {X : List Addr} {D : Addr} (hg : ∀ a o, h.get? a = some o → a ∉ X → g.get? a = some o) (hD : g.get? D = none) (hx : D ∉ X) : h.get? D = none := by
  cases q : h.get? D with
  | none => rfl
  | some o => rw [hg _ _ q hx] at hD; cases hD

/-- a token made between two counts -/
def Fsh (lo hi t : Nat) : Prop := lo ≤ t ∧ t < hi
theorem ret3 {h' : Heap} {D : Addr} {x1 x2 x3 : UInt64} {t1 t2 t3 : Tok} {n : Nat} {x : UInt64 × UInt64 × UInt64} (e : h'.get? D = some (tupOf [.float x1 t1, .float x2 t2, .float x3 t3] n)) (h1 : x.1 = x1) (h2 : x.2.1 = x2) (h3 : x.2.2 = x3) :
    h'.get? D = some (tupOf (flts x (t1, t2, t3)) n) := by subst h1 h2 h3; exact e
def hueOf (r g b M m : UInt64) : UInt64 :=
  let R := Float64.sub M m
  let rc := Float64.div (Float64.sub M r) R
  let gc := Float64.div (Float64.sub M g) R
  let bc := Float64.div (Float64.sub M b) R
  (Float64.divmod (Float64.div (if Float64.cmp r M == some Ordering.eq then Float64.sub bc gc else if Float64.cmp g M == some Ordering.eq then Float64.sub (Float64.add 4611686018427387904 rc) bc else Float64.sub (Float64.add 4616189618054758400 gc) rc) 4618441417868443648) 4607182418800017408).snd
def hsvOf (r g b : UInt64) : UInt64 × UInt64 × UInt64 :=
  (hueOf r g b (fmax3 r g b) (fmin3 r g b), Float64.div (Float64.sub (fmax3 r g b) (fmin3 r g b)) (fmax3 r g b), fmax3 r g b)
theorem nz {b : UInt64} (h : Float64.isZero b = false) : ¬ Float64.isZero b = true := by rw [h]; decide
local macro_rules | `(tactic| walk_at "call builtin:max") => `(tactic| (k_here; (with_reducible show wpAny _ _ (call (Value.builtin "max") [Value.float _ _, Value.float _ _, Value.float _ _]) _ _ _); k_dflt (refine' max3_N ?k1 ?k2 ?k3 ?_; (case k1 => k_asm); (case k2 => k_asm); (case k3 => rfl); k_whole); intro y' h' tk' hy' F' N'; (try k_sweep)))
local macro_rules | `(tactic| walk_at "call builtin:min") => `(tactic| (k_here; (with_reducible show wpAny _ _ (call (Value.builtin "min") [Value.float _ _, Value.float _ _, Value.float _ _]) _ _ _); k_dflt (refine' min3_N ?k1 ?k2 ?k3 ?_; (case k1 => k_asm); (case k2 => k_asm); (case k3 => rfl); k_whole); intro y' h' tk' hy' F' N'; (try k_sweep)))
theorem div_nz {prog : Program} {w : World} {A : Around} {E : Value → Shared → Prop} {s : Shared} {a b : UInt64} {t u : Tok} {Q : Value → Shared → Prop} (hz : Float64.isZero b = false) (h : Q (.float (Float64.div a b) s.toks) { s with toks := s.toks + 1 }) :
    wpAny (model prog w) A (binaryOp .Div (.float a t) (.float b u)) Q E s := AutoFloatOps.truediv_1 (nz hz) h
theorem mod_nz {prog : Program} {w : World} {A : Around} {E : Value → Shared → Prop} {s : Shared} {a b : UInt64} {t u : Tok} {Q : Value → Shared → Prop} (hz : Float64.isZero b = false) (h : Q (.float (Float64.divmod a b).snd s.toks) { s with toks := s.toks + 1 }) :
    wpAny (model prog w) A (binaryOp .Mod (.float a t) (.float b u)) Q E s := AutoFloatOps.mod_1 (nz hz) h
local macro_rules | `(tactic| walk_at "binaryOp Div float float") => `(tactic| ((with_reducible refine div_nz (by first | assumption | decide +kernel) ?_); try dsimp only))
local macro_rules | `(tactic| walk_at "binaryOp Mod float float") => `(tactic| ((with_reducible refine mod_nz (by first | assumption | decide +kernel) ?_); try dsimp only))
local macro_rules | `(tactic| walk_at "execs cons") => `(tactic| (k_here; (with_reducible refine execs_T ?_); intro tk htk; (try dsimp only at htk); (try dsimp only)))
local macro_rules | `(tactic| walk_at "TokPost") => `(tactic| ((with_reducible refine tokPost_ ?_); intro htk; (try dsimp only at htk); (try dsimp only)))
set_option maxHeartbeats 4000000 in
theorem hsv_spec {w : World} {mean : ExcName → Option Value} {mg mb : Str → Option Value} {b : Heap} {s : Shared} {Q E : Value → Shared → Prop} (C : Cx w mean mg mb b) (hb : Kp [] b s.heap) {r g₀ b₀ : UInt64} {t1 t2 t3 : Tok}
  (hne : (Float64.cmp (fmin3 r g₀ b₀) (fmax3 r g₀ b₀) == some Ordering.eq) = false) (hz1 : Float64.isZero (fmax3 r g₀ b₀) = false) (hz2 : Float64.isZero (Float64.sub (fmax3 r g₀ b₀) (fmin3 r g₀ b₀)) = false)
  (hQ : ∀ D h' tk t, Kp [] s.heap h' → h'.get? D = some (tupOf (flts (hsvOf r g₀ b₀) t) 0) → s.heap.get? D = none →
    Fsh s.toks tk t.1 → Fsh s.toks tk t.2.1 → OneOf (hsvOf r g₀ b₀).2.2 t.2.2 r t1 g₀ t2 b₀ t3 → Q (.ref D) { s with heap := h', toks := tk }) :
  wpAny (model PySem.Challenge.rw_mq0226_01.row.prog w) (Ar 400 400) (call (.ref 28) [.float r t1, .float g₀ t2, .float b₀ t3]) Q E s := by
  obtain ⟨X₀, T₀⟩ := C
  refine call_rule [] X₀ T₀ hb (by simp) (by k_dflt k_is) (by k_dflt k_is) (by decide) (BindsTo.of_eq rfl) (locs rfl) ?_ (by decide) rfl rfl rfl
  intro g L h₁ F N X T hg hl
  clear hb X₀ T₀
  (try dsimp only)
  (try k_fold)
  w_strict (k_steps)
  all_goals (
    (with_reducible rename News _ _ _ (_ :: _) => NN)
    (with_reducible rename Fr _ _ _ _ => FF)
    refine hQ _ _ _ _ (kp_of hg FF) (ret3 (NN _ (.head _)).1 ?_ rfl rfl) (fresh_of hg (NN _ (.head _)).2.2 (by simp)) ?_ ?_ (by assumption)
    · simp only [hsvOf, hueOf, *, if_true, if_false, Bool.false_eq_true]
    · constructor <;> dsimp only <;> omega
    · constructor <;> dsimp only <;> omega)
end Mine
end -- R2
section -- R3
theorem Mine.calm_R3 : True := by
  w_top off
  trivial
open PySem PySem.W PySem.Calls PyProof.Rows
set_option Elab.async false
set_option maxRecDepth 100000
namespace Mine
def IsTrunc (x : UInt64) (I : Int) : Prop := ∃ sg m e, Float64.decode x = .fin sg m e ∧ Float64.truncOf sg m e = I
theorem int_trunc {prog : Program} {w : World} {A : Around} {E : Value → Shared → Prop} {s : Shared} {x : UInt64} {u : Tok} {I : Int} {Q : Value → Shared → Prop} (hd : IsTrunc x I) (h : Q (.int I s.toks) { s with toks := s.toks + 1 }) :
    wpAny (model prog w) A (call (.type "int") [.float x u]) Q E s := by
  obtain ⟨sg, m, e, h1, rfl⟩ := hd
  exact call_int_float h1 h
local macro_rules | `(tactic| walk_at "call type:int") => `(tactic| ((with_reducible refine int_trunc (by assumption) ?_); try dsimp only))
/-- hsv_to_rgb, with i the int of h * 6.0 -/
def rgbOf (h s v : UInt64) (I : Int) : UInt64 × UInt64 × UInt64 :=
  let f := Float64.sub (Float64.mul h 4618441417868443648) (Float64.ofInt I)
  let p := Float64.mul v (Float64.sub 4607182418800017408 s)
  let q := Float64.mul v (Float64.sub 4607182418800017408 (Float64.mul s f))
  let t := Float64.mul v (Float64.sub 4607182418800017408 (Float64.mul s (Float64.sub 4607182418800017408 f)))
  if I.fmod 6 = 0 then (v, t, p) else if I.fmod 6 = 1 then (q, v, p) else if I.fmod 6 = 2 then (p, v, t) else if I.fmod 6 = 3 then (p, q, v) else if I.fmod 6 = 4 then (t, p, v) else (v, p, q)
local macro_rules | `(tactic| walk_at "execs cons") => `(tactic| (k_here; (with_reducible refine execs_T ?_); intro tk htk; (try dsimp only at htk); (try dsimp only)))
local macro_rules | `(tactic| walk_at "TokPost") => `(tactic| ((with_reducible refine tokPost_ ?_); intro htk; (try dsimp only at htk); (try dsimp only)))
/-- the level's own, or a fresh one -/
def VorF (lo hi : Nat) (x : UInt64) (y : Nat) (v : UInt64) (t : Nat) : Prop := (x = v ∧ y = t) ∨ Fsh lo hi y
set_option maxHeartbeats 4000000 in
theorem rgb_spec {w : World} {mean : ExcName → Option Value} {mg mb : Str → Option Value} {b : Heap} {s : Shared} {Q E : Value → Shared → Prop} (C : Cx w mean mg mb b) (hb : Kp [] b s.heap) {h₀ s₀ v₀ : UInt64} {t1 t2 t3 : Tok} {I : Int}
  (hI : IsTrunc (Float64.mul h₀ 4618441417868443648) I) (h0 : 0 ≤ I) (h1 : I < 100) (hs : (Float64.cmp s₀ 0 == some Ordering.eq) = false)
  (hQ : ∀ D h' tk t, Kp [] s.heap h' → h'.get? D = some (tupOf (flts (rgbOf h₀ s₀ v₀ I) t) 0) → s.heap.get? D = none →
    VorF s.toks tk (rgbOf h₀ s₀ v₀ I).1 t.1 v₀ t3 → VorF s.toks tk (rgbOf h₀ s₀ v₀ I).2.1 t.2.1 v₀ t3 → VorF s.toks tk (rgbOf h₀ s₀ v₀ I).2.2 t.2.2 v₀ t3 → Q (.ref D) { s with heap := h', toks := tk }) :
  wpAny (model PySem.Challenge.rw_mq0226_01.row.prog w) (Ar 400 400) (call (.ref 35) [.float h₀ t1, .float s₀ t2, .float v₀ t3]) Q E s := by
  obtain ⟨X₀, T₀⟩ := C
  refine call_rule [] X₀ T₀ hb (by simp) (by k_dflt k_is) (by k_dflt k_is) (by decide) (BindsTo.of_eq rfl) (locs rfl) ?_ (by decide) rfl rfl rfl
  intro g L h₁ F N X T hg hl
  clear hb X₀ T₀
  (try dsimp only)
  (try k_fold)
  w_strict (k_steps)
  all_goals (with_reducible rename Int.natAbs _ < _ => hbig)
  all_goals clear hbig
  all_goals first
    | (with_reducible rename News _ _ _ (_ :: _) => NN
       with_reducible rename Fr _ _ _ _ => FF
       refine hQ _ _ _ _ (kp_of hg FF) (ret3 (NN _ (.head _)).1 ?_ ?_ ?_) (fresh_of hg (NN _ (.head _)).2.2 (by simp)) ?_ ?_ ?_ <;>
       first | (simp [rgbOf, *]; done) | exact .inl ⟨by simp [rgbOf, *], rfl⟩ | exact .inr ⟨by dsimp only; omega, by dsimp only; omega⟩)
    | (exfalso; have e := Int.fmod_eq_emod_of_nonneg I (show (0 : Int) ≤ 6 by decide); omega)
end Mine
end -- R3
section -- R4
theorem Mine.calm_R4 : True := by
  w_top off
  trivial
open PySem PySem.W PySem.Calls PyProof.Rows
set_option Elab.async false
set_option maxRecDepth 100000
namespace Mine
local macro_rules | `(tactic| walk_at "call builtin:max") => `(tactic| (k_here; (with_reducible show wpAny _ _ (call (Value.builtin "max") [Value.float _ _, Value.float _ _, Value.float _ _]) _ _ _); k_dflt (refine' max3_N ?k1 ?k2 ?k3 ?_; (case k1 => k_asm); (case k2 => k_asm); (case k3 => rfl); k_whole); intro y' h' tk' hy' F' N'; (try k_sweep)))
local macro_rules | `(tactic| walk_at "call builtin:min") => `(tactic| (k_here; (with_reducible show wpAny _ _ (call (Value.builtin "min") [Value.float _ _, Value.float _ _, Value.float _ _]) _ _ _); k_dflt (refine' min3_N ?k1 ?k2 ?k3 ?_; (case k1 => k_asm); (case k2 => k_asm); (case k3 => rfl); k_whole); intro y' h' tk' hy' F' N'; (try k_sweep)))
local macro_rules | `(tactic| walk_at "binaryOp Div float float") => `(tactic| ((with_reducible refine div_nz (by first | assumption | decide +kernel) ?_); try dsimp only))
local macro_rules | `(tactic| walk_at "binaryOp Mod float float") => `(tactic| ((with_reducible refine mod_nz (by first | assumption | decide +kernel) ?_); try dsimp only))
def lightOf (r g b : UInt64) : UInt64 := Float64.div (Float64.add (fmax3 r g b) (fmin3 r g b)) 4611686018427387904
set_option maxHeartbeats 4000000 in
theorem hls_spec {w : World} {mean : ExcName → Option Value} {mg mb : Str → Option Value} {b : Heap} {s : Shared} {Q E : Value → Shared → Prop} (C : Cx w mean mg mb b) (hb : Kp [] b s.heap) {r g₀ b₀ : UInt64} {t1 t2 t3 : Tok}
  (hne : (Float64.cmp (fmin3 r g₀ b₀) (fmax3 r g₀ b₀) == some Ordering.eq) = false) (hz1 : Float64.isZero (Float64.add (fmax3 r g₀ b₀) (fmin3 r g₀ b₀)) = false) (hz2 : Float64.isZero (Float64.sub (fmax3 r g₀ b₀) (fmin3 r g₀ b₀)) = false)
  (hz3 : Float64.isZero (Float64.sub (Float64.sub 4611686018427387904 (fmax3 r g₀ b₀)) (fmin3 r g₀ b₀)) = false)
  (hQ : ∀ D h' tk v1 v3 t2, Kp [] s.heap h' → h'.get? D = some (tupOf [v1, .float (lightOf r g₀ b₀) t2, v3] 0) → s.heap.get? D = none → Q (.ref D) { s with heap := h', toks := tk }) :
  wpAny (model PySem.Challenge.rw_mq0226_01.row.prog w) (Ar 400 400) (call (.ref 21) [.float r t1, .float g₀ t2, .float b₀ t3]) Q E s := by
  obtain ⟨X₀, T₀⟩ := C
  refine call_rule [] X₀ T₀ hb (by simp) (by k_dflt k_is) (by k_dflt k_is) (by decide) (BindsTo.of_eq rfl) (locs rfl) ?_ (by decide) rfl rfl rfl
  intro g L h₁ F N X T hg hl
  clear hb X₀ T₀
  (try dsimp only)
  (try k_fold)
  w_strict (k_steps)
  all_goals (
    (with_reducible rename News _ _ _ (_ :: _) => NN)
    (with_reducible rename Fr _ _ _ _ => FF)
    refine hQ _ _ _ _ _ _ (kp_of hg FF) (NN _ (.head _)).1 (fresh_of hg (NN _ (.head _)).2.2 (by simp)))
end Mine
end -- R4
section -- R5
theorem Mine.calm_R5 : True := by
  w_top off
  trivial
open PySem PySem.W PySem.Calls PyProof.Rows
set_option Elab.async false
set_option maxRecDepth 100000
namespace Mine
section
variable {prog : Program} {w : World} {A : Around} {E : Value → Shared → Prop} {s : Shared} {a b : Int} {t u : Tok} {Q : Value → Shared → Prop}
theorem fdiv_small (hb : 0 < b) (hb' : b < 1000000000) (h : Q (.int (a / b) s.toks) { s with toks := s.toks + 1 }) : wpAny (model prog w) A (binaryOp .FloorDiv (.int a t) (.int b u)) Q E s :=
  floordiv_int (by omega) (by rw [Int.fdiv_eq_ediv_of_nonneg _ (by omega)]; exact h) (Or.inl (PyProof.noPylong_small (by omega)))
theorem fmod_small (hb : 0 < b) (h : Q (.int (a % b) s.toks) { s with toks := s.toks + 1 }) : wpAny (model prog w) A (binaryOp .Mod (.int a t) (.int b u)) Q E s :=
  mod_int' (by omega) (by rw [Int.fmod_eq_emod_of_nonneg _ (by omega)]; exact h)
theorem div_small (h0 : 0 ≤ a) (h1 : a < 1000000000) (hb : 0 < b) (h : Q (.float (Float64.ofFrac false a.toNat b.toNat) s.toks) { s with toks := s.toks + 1 }) : wpAny (model prog w) A (binaryOp .Div (.int a t) (.int b u)) Q E s := by
  have e1 : decide (a < 0) = false := by simp; omega
  have e2 : decide (b < 0) = false := by simp; omega
  have e : Float64.ofFrac (decide (a < 0) != decide (b < 0)) a.natAbs b.natAbs = Float64.ofFrac false a.toNat b.toNat := by
    rw [e1, e2, show a.natAbs = a.toNat by omega, show b.natAbs = b.toNat by omega]; rfl
  refine AutoIntOps.truediv_2 (by simp; omega) (PySem.Flt.quot_fits (by omega) ?_) ?_
  · refine Nat.lt_trans (show a.natAbs < 1000000000 by omega) (by decide +kernel)
  · rw [e]; exact h
variable {h₀ : Heap} {L : Addr} {m : Str → Option Value} {news : List (Addr × Obj)}
theorem min2_N (F : Fr h₀ L s.heap m) (N : News h₀ L s.heap news) (hh : A.handled = none) (h : ∀ y h' tk, Fr h₀ L h' m → News h₀ L h' news → Q (.int (min a b) y) { s with heap := h', toks := tk }) :
    wpAny (model prog w) A (call (.builtin "min") [.int a t, .int b u]) Q E s :=
  min_two_N hh F N fun h' tk F' N' => by
    rw [show (if b < a then b else a) = min a b by omega]; exact h _ h' tk F' N'
theorem max2_N (F : Fr h₀ L s.heap m) (N : News h₀ L s.heap news) (hh : A.handled = none) (h : ∀ y h' tk, Fr h₀ L h' m → News h₀ L h' news → Q (.int (max a b) y) { s with heap := h', toks := tk }) :
    wpAny (model prog w) A (call (.builtin "max") [.int a t, .int b u]) Q E s :=
  max_two_N hh F N fun h' tk F' N' => by
    rw [show (if b > a then b else a) = max a b by omega]; exact h _ h' tk F' N'
end
theorem col_lo (a b x : Int) : 0 ≤ (a % 8 + 1) * (128 - (b % 8 + 1) * min (max x 0) 16) := by
  refine Int.mul_nonneg (by omega) ?_
  have := Int.mul_le_mul (show b % 8 + 1 ≤ 8 by omega) (show min (max x 0) 16 ≤ 16 by omega) (by omega) (by omega)
  omega
theorem col_hi (a b x : Int) : (a % 8 + 1) * (128 - (b % 8 + 1) * min (max x 0) 16) < 1000000000 := by
  have h2 : 0 ≤ (b % 8 + 1) * min (max x 0) 16 := Int.mul_nonneg (by omega) (by omega)
  have h1 := Int.mul_le_mul (show b % 8 + 1 ≤ 8 by omega) (show min (max x 0) 16 ≤ 16 by omega) (by omega) (by omega)
  have := Int.mul_le_mul (show a % 8 + 1 ≤ 8 by omega) (show 128 - (b % 8 + 1) * min (max x 0) 16 ≤ 128 by omega) (by omega) (by omega)
  omega
local macro_rules | `(tactic| walk_at "binaryOp FloorDiv int int") => `(tactic| ((with_reducible refine fdiv_small (by omega) (by omega) ?_); try dsimp only))
local macro_rules | `(tactic| walk_at "binaryOp Mod int int") => `(tactic| ((with_reducible refine fmod_small (by omega) ?_); try dsimp only))
local macro_rules | `(tactic| walk_at "binaryOp Div int int") => `(tactic| ((with_reducible refine div_small (by first | omega | exact col_lo _ _ _) (by first | omega | exact col_hi _ _ _) (by omega) ?_); try dsimp only))
local macro_rules | `(tactic| walk_at "call builtin:max") => `(tactic| (k_here; (with_reducible show wpAny _ _ (call (Value.builtin "max") [Value.int _ _, Value.int _ _]) _ _ _); k_dflt (refine' max2_N ?k1 ?k2 ?k3 ?_; (case k1 => k_asm); (case k2 => k_asm); (case k3 => rfl); k_whole); intro y' h' tk' F' N'; (try k_sweep)))
local macro_rules | `(tactic| walk_at "call builtin:min") => `(tactic| (k_here; (with_reducible show wpAny _ _ (call (Value.builtin "min") [Value.int _ _, Value.int _ _]) _ _ _); k_dflt (refine' min2_N ?k1 ?k2 ?k3 ?_; (case k1 => k_asm); (case k2 => k_asm); (case k3 => rfl); k_whole); intro y' h' tk' F' N'; (try k_sweep)))

def nm (k : Nat) : UInt64 × UInt64 × UInt64 := (Float64.ofFrac false (k / 64) 16, Float64.ofFrac false (k / 8 % 8 + 1) 8, Float64.ofFrac false (k % 8 + 1) 8)
local macro_rules | `(tactic| walk_at "execs cons") => `(tactic| (k_here; (with_reducible refine execs_T ?_); intro tk htk; (try dsimp only at htk); (try dsimp only)))
local macro_rules | `(tactic| walk_at "execs nil") => `(tactic| ((with_reducible refine wpAny_execs_nil ?_); try dsimp only))
local macro_rules | `(tactic| walk_at "TokPost") => `(tactic| ((with_reducible refine tokPost_ ?_); intro htk; (try dsimp only at htk); (try dsimp only)))
set_option maxHeartbeats 4000000 in
theorem name_spec {w : World} {mean : ExcName → Option Value} {mg mb : Str → Option Value} {b : Heap} {s : Shared} {Q E : Value → Shared → Prop} (C : Cx w mean mg mb b) (hb : Kp [] b s.heap) {n : Int} {t : Tok} (n0 : 0 ≤ n) (n1 : n < 1024)
  (hQ : ∀ D h' tk t, Kp [] s.heap h' → h'.get? D = some (tupOf (flts (nm n.toNat) t) 0) → s.heap.get? D = none → Fsh s.toks tk t.1 → Fsh s.toks tk t.2.1 → Fsh s.toks tk t.2.2 → Q (.ref D) { s with heap := h', toks := tk }) :
  wpAny (model PySem.Challenge.rw_mq0226_01.row.prog w) (Ar 400 400) (call (.ref 84) [.int n t]) Q E s := by
  obtain ⟨X₀, T₀⟩ := C
  refine call_rule [] X₀ T₀ hb (by simp) (by k_dflt k_is) (by k_dflt k_is) (by decide) (BindsTo.of_eq rfl) (locs rfl) ?_ (by decide) rfl rfl rfl
  intro g L h₁ F N X T hg hl
  clear hb X₀ T₀
  (try dsimp only)
  (try k_fold)
  w_strict (k_steps)
  all_goals (
    (with_reducible rename News _ _ _ (_ :: _) => NN)
    (with_reducible rename Fr _ _ _ _ => FF)
    refine hQ _ _ _ _ (kp_of hg FF) (ret3 (NN _ (.head _)).1 ?_ ?_ ?_) (fresh_of hg (NN _ (.head _)).2.2 (by simp)) ⟨by dsimp only; omega, by dsimp only; omega⟩ ⟨by dsimp only; omega, by dsimp only; omega⟩ ⟨by dsimp only; omega, by dsimp only; omega⟩)
  · exact congrArg (fun x => Float64.ofFrac false x 16) (show n.toNat / 64 = (n / 64).toNat by omega)
  · exact congrArg (fun x => Float64.ofFrac false x 8) (show n.toNat / 8 % 8 + 1 = (n / 8 % 8 + 1).toNat by omega)
  · exact congrArg (fun x => Float64.ofFrac false x 8) (show n.toNat % 8 + 1 = (n % 8 + 1).toNat by omega)

def fall (hue corner : Int) : Int := min (max (min ((hue - corner) % 96) (96 - (hue - corner) % 96) - 16) 0) 16
def part (n corner : Int) : UInt64 := Float64.ofFrac false ((n % 8 + 1) * (128 - (n / 8 % 8 + 1) * fall (n / 64 * 6) corner)).toNat 1024
def col (k : Nat) : UInt64 × UInt64 × UInt64 := (part k 0, part k 32, part k 64)
/-! the for over three corners, turn by turn -/
section
variable {prog : Program} {w : World} {A : Around} {s : Shared} {env : Env} {g : Heap} {L : Addr} {m : Str → Option Value} {news : List (Addr × Obj)} {E : Value → Shared → Prop}
theorem pyIter_tupN {D : Addr} {vs : List Value} {n : Nat} {Q : Value → Shared → Prop} (F : Fr g L s.heap m) (N : News g L s.heap news) (hD : (D, tupOf vs n) ∈ news)
    (h : ∀ I o h', o.cls = .type "tuple_iterator" → o.data = .fields #[.ref D, .int 0 0] → Fr g L h' m → News g L h' ((I, o) :: news) → (∀ p ∈ news, p.1 < I) → Q (.ref I) { s with heap := h' }) :
    wpAny (model prog w) A (pyIter (.ref D)) Q E s :=
  wpAny_pyIter_tuple (items := vs.toArray) ⟨_, (N _ hD).1, rfl, n, rfl⟩ (h _ _ _ rfl rfl (F.push _) (N.push F _) fun p hp => Heap.lt_size (N p hp).1)
theorem lt_of_all {d : Addr} : ∀ {l : List (Addr × Obj)}, AllLt d l → ∀ p ∈ l, p.1 < d
  | [], _, _, h => nomatch h
  | _ :: _, a, _, .head _ => a.1
  | _ :: _, a, p, .tail _ h => lt_of_all a.2 p h
theorem newsIter {h h' : Heap} {I : Addr} {o o' : Obj} (F : Fr g L h m) (N : News g L h ((I, o) :: news)) (hne : ∀ p ∈ news, p.1 < I) (hk : Heap.ExtBut I h h') (ho' : h'.get? I = some o') : Fr g L h' m ∧ News g L h' ((I, o') :: news) := by
  have NI := N (I, o) (.head _)
  refine ⟨fr_step (X := [I]) F (fun b o e n => hk b o (fun q => n (by simp [q])) e) (by simp; exact ⟨NI.2.2, NI.2.1⟩), fun p hp => ?_⟩
  rcases List.mem_cons.mp hp with rfl | hp
  · exact ⟨ho', NI.2⟩
  · have P := N p (.tail _ hp)
    exact ⟨hk _ _ (Nat.ne_of_lt (hne p hp)) P.1, P.2⟩
theorem turn_tupN {target : Expr} {body : List Stmt} {I D : Addr} {i : Nat} {v : Value} {vs : List Value} {n : Nat} {o : Obj} {R : Result → Shared → Prop} (F : Fr g L s.heap m) (N : News g L s.heap ((I, o) :: news)) (hD : (D, tupOf vs n) ∈ news)
    (hc : o.cls = .type "tuple_iterator") (hd : o.data = .fields #[.ref D, .int i 0]) (hne : AllLt I news) (hv : vs[i]? = some v)
    (h : ∀ o' h', o'.cls = .type "tuple_iterator" → o'.data = .fields #[.ref D, .int (i + 1 : Nat) 0] → Fr g L h' m → News g L h' ((I, o') :: news) →
      wpAny (model prog w) A (assign target env v) (fun _ s₂ => wpAny (model prog w) A (execs body env) (TurnEnd (codeAny (model prog w) A (.forLoop target (.ref I) body [] env) R) R) (fun _ _ => False) s₂) (fun _ _ => False) { s with heap := h' })
    (ht : ∀ v, letOwnedTupleGo target (.ref I) v = pure () := by intro _; rfl) : codeAny (model prog w) A (.forLoop target (.ref I) body [] env) R s := by
  have NI := N (I, o) (.head _)
  refine turn_tuple (i := i) (items := vs.toArray) ⟨o, NI.1, hc, hd⟩ ⟨_, (N _ (.tail _ hD)).1, rfl, n, rfl⟩ (by simpa using hv) (fun h' hit hsb => ?_) ht
  obtain ⟨o', ho', hc', hd'⟩ := hit
  obtain ⟨F', N'⟩ := newsIter F N (lt_of_all hne) hsb.extBut ho'
  exact h o' h' hc' hd' F' N'
theorem end_tupN {target : Expr} {body : List Stmt} {I D : Addr} {i : Nat} {vs : List Value} {n : Nat} {o : Obj} {R : Result → Shared → Prop} (hh : A.handled = none) (F : Fr g L s.heap m) (N : News g L s.heap ((I, o) :: news)) (hD : (D, tupOf vs n) ∈ news)
    (hc : o.cls = .type "tuple_iterator") (hd : o.data = .fields #[.ref D, .int i 0]) (hne : AllLt I news) (hv : vs[i]? = none)
    (h : ∀ h', Fr g L h' m → News g L h' news → R (.ok .next) { s with heap := h' }) : codeAny (model prog w) A (.forLoop target (.ref I) body [] env) R s := by
  have NI := N (I, o) (.head _)
  refine end_tuple (i := i) (items := vs.toArray) hh ⟨o, NI.1, hc, hd⟩ ⟨_, (N _ (.tail _ hD)).1, rfl, n, rfl⟩ (by simpa using hv) (fun h' hk => ?_)
  refine h h' (fr_step (X := [I]) F (fun b o e n => hk b o (fun q => n (by simp [q])) e) (by simp; exact ⟨NI.2.2, NI.2.1⟩)) fun p hp => ?_
  have P := N p (.tail _ hp)
  exact ⟨hk _ _ (Nat.ne_of_lt (lt_of_all hne p hp)) P.1, P.2⟩
end
local macro_rules | `(tactic| walk_at "exec For") => `(tactic| refine halt_at ?_)
local macro_rules | `(tactic| walk_at "exec For Name Tuple") => `(tactic| refine halt_at ?_)
local macro_rules | `(tactic| walk_at "exec For Name Tuple cons nil") => `(tactic| refine halt_at ?_)
local macro_rules | `(tactic| walk_at "pyIter ref") => `(tactic| refine halt_at ?_)
set_option maxHeartbeats 4000000 in
theorem colour_spec {w : World} {mean : ExcName → Option Value} {mg mb : Str → Option Value} {b : Heap} {s : Shared} {Q E : Value → Shared → Prop} (C : Cx w mean mg mb b) (hb : Kp [] b s.heap) {n : Int} {t : Tok} (n0 : 0 ≤ n) (n1 : n < 1024)
  (hQ : ∀ D h' tk t, Kp [] s.heap h' → h'.get? D = some (tupOf (flts (col n.toNat) t) 0) → s.heap.get? D = none → Fsh s.toks tk t.1 → Fsh s.toks tk t.2.1 → Fsh s.toks tk t.2.2 → Q (.ref D) { s with heap := h', toks := tk }) :
  wpAny (model PySem.Challenge.rw_mq0226_01.row.prog w) (Ar 400 400) (call (.ref 91) [.int n t]) Q E s := by
  obtain ⟨X₀, T₀⟩ := C
  refine call_rule [] X₀ T₀ hb (by simp) (by k_dflt k_is) (by k_dflt k_is) (by decide) (BindsTo.of_eq rfl) (locs rfl) ?_ (by decide) rfl rfl rfl
  intro g L h₁ F N X T hg hl
  clear hb X₀ T₀
  (try dsimp only)
  (try k_fold)
  w_strict (k_steps)
  show wpAny _ _ _ _ _ _
  refine wpAny_mono (E := fun _ _ => False) ?_ (fun _ _ q => q) (fun _ _ q => q.elim)
  refine wpAny_For ?_
  w_strict (k_steps)
  show wpAny _ _ _ _ _ _
  refine pyIter_tupN (by k_asm) (by k_asm) (.head _) ?_
  intro I o0 h' hc hd F' N' l1
  k_lt l1
  iterate 3 (
    refine turn_tupN (by k_asm) (by k_asm) (.head _) (by assumption) (by assumption) (by simp only [AllLt, and_true]; omega) rfl ?_
    clear hc hd
    intro o1 h2 hc hd F2 N2
    (try k_sweep)
    (try dsimp only)
    (try k_fold)
    w_strict (k_steps)
    show codeAny _ _ _ _ _)
  refine end_tupN rfl (by k_asm) (by k_asm) (.head _) (by assumption) (by assumption) (by simp only [AllLt, and_true]; omega) rfl ?_
  intro h3 F3 N3
  (try k_sweep)
  (try dsimp only)
  w_strict (k_steps)
  (with_reducible rename News _ _ _ (_ :: _) => NN)
  (with_reducible rename Fr _ _ _ _ => FF)
  refine hQ _ _ _ _ (kp_of hg FF) (ret3 (NN _ (.head _)).1 ?_ ?_ ?_) (fresh_of hg (NN _ (.head _)).2.2 (by simp)) ⟨by dsimp only; omega, by dsimp only; omega⟩ ⟨by dsimp only; omega, by dsimp only; omega⟩ ⟨by dsimp only; omega, by dsimp only; omega⟩
  all_goals (rw [show col n.toNat = (part n 0, part n 32, part n 64) by unfold col; rw [Int.toNat_of_nonneg n0]]; rfl)
end Mine
end -- R5
section -- P1
theorem Mine.calm_P1 : True := by
  w_top off
  trivial
open PySem PySem.W PySem.Calls PyProof.Rows
set_option Elab.async false
set_option maxRecDepth 100000
namespace Mine
/-! the plain law of the colours: numbers k = 64 j + 8 (a - 1) + (v - 1) -/
def P (v a f : Nat) : UInt64 := Float64.ofFrac false (v * (128 - a * f)) 1024
def Fl (f : Nat) : UInt64 := Float64.ofFrac false f 16
def vB (v : Nat) : UInt64 := Float64.ofFrac false v 8
abbrev one : UInt64 := 4607182418800017408
abbrev six : UInt64 := 4618441417868443648
abbrev half : UInt64 := 4602678819172646912
abbrev two : UInt64 := 4611686018427387904
abbrev four : UInt64 := 4616189618054758400
def all2 (p : Nat → Nat → Bool) : Bool := (List.range 8).all fun a => (List.range 9).all fun f => p (a + 1) (2 * f)
theorem all2_at {p : Nat → Nat → Bool} (h : all2 p = true) {a g f : Nat} (ha : 1 ≤ a) (ha' : a ≤ 8) (hf : f = 2 * g) (hg : g ≤ 8) : p a f = true := by
  have h1 := List.all_eq_true.mp h (a - 1) (List.mem_range.mpr (by omega))
  have h2 := List.all_eq_true.mp h1 g (List.mem_range.mpr (by omega))
  rw [show a - 1 + 1 = a by omega] at h2
  rw [hf]; exact h2
theorem by8 {p : Nat → Bool} (h1 : p 1 = true) (h2 : p 2 = true) (h3 : p 3 = true) (h4 : p 4 = true) (h5 : p 5 = true) (h6 : p 6 = true) (h7 : p 7 = true) (h8 : p 8 = true) {v : Nat} (hv : 1 ≤ v) (hv' : v ≤ 8) : p v = true := by
  have : v = 1 ∨ v = 2 ∨ v = 3 ∨ v = 4 ∨ v = 5 ∨ v = 6 ∨ v = 7 ∨ v = 8 := by omega
  rcases this with rfl | rfl | rfl | rfl | rfl | rfl | rfl | rfl <;> assumption
-- E3: the middle part out of the name
def e3 (v a f : Nat) : Bool := Float64.mul (vB v) (Float64.sub one (Float64.mul (vB a) (Fl f))) == P v a f
theorem e3_1 : all2 (e3 1) = true := by decide +kernel
theorem e3_2 : all2 (e3 2) = true := by decide +kernel
theorem e3_3 : all2 (e3 3) = true := by decide +kernel
theorem e3_4 : all2 (e3 4) = true := by decide +kernel
theorem e3_5 : all2 (e3 5) = true := by decide +kernel
theorem e3_6 : all2 (e3 6) = true := by decide +kernel
theorem e3_7 : all2 (e3 7) = true := by decide +kernel
theorem e3_8 : all2 (e3 8) = true := by decide +kernel
-- E2: the least part, the greatest part, the light
def e2 (v a : Nat) : Bool := Float64.mul (vB v) (Float64.sub one (vB a)) == P v a 16 && vB v == P v a 0 && Float64.div (Float64.sub (P v a 0) (P v a 16)) (P v a 0) == vB a &&
  !Float64.isZero (P v a 0) && !Float64.isZero (Float64.sub (P v a 0) (P v a 16)) && !Float64.isZero (Float64.add (P v a 0) (P v a 16)) && !Float64.isZero (Float64.sub (Float64.sub two (P v a 0)) (P v a 16))
theorem e2_all : ((List.range 8).all fun v => (List.range 8).all fun a => e2 (v + 1) (a + 1)) = true := by decide +kernel
-- E6: the shares of the fall
def e6 (v a f : Nat) : Bool := Float64.div (Float64.sub (P v a 0) (P v a f)) (Float64.sub (P v a 0) (P v a 16)) == Fl f
theorem e6_1 : all2 (e6 1) = true := by decide +kernel
theorem e6_2 : all2 (e6 2) = true := by decide +kernel
theorem e6_3 : all2 (e6 3) = true := by decide +kernel
theorem e6_4 : all2 (e6 4) = true := by decide +kernel
theorem e6_5 : all2 (e6 5) = true := by decide +kernel
theorem e6_6 : all2 (e6 6) = true := by decide +kernel
theorem e6_7 : all2 (e6 7) = true := by decide +kernel
theorem e6_8 : all2 (e6 8) = true := by decide +kernel
-- E9: the mirror
def e9 (v a f : Nat) : Bool := Float64.sub (Float64.mul two (Float64.div (Float64.add (P v a 0) (P v a 16)) two)) (P v a f) == P v a (16 - f)
theorem e9_1 : all2 (e9 1) = true := by decide +kernel
theorem e9_2 : all2 (e9 2) = true := by decide +kernel
theorem e9_3 : all2 (e9 3) = true := by decide +kernel
theorem e9_4 : all2 (e9 4) = true := by decide +kernel
theorem e9_5 : all2 (e9 5) = true := by decide +kernel
theorem e9_6 : all2 (e9 6) = true := by decide +kernel
theorem e9_7 : all2 (e9 7) = true := by decide +kernel
theorem e9_8 : all2 (e9 8) = true := by decide +kernel
theorem two_is : Float64.ofInt 2 = two := by decide +kernel
end Mine
end -- P1
section -- P2
theorem Mine.calm_P2 : True := by
  w_top off
  trivial
open PySem PySem.W PySem.Calls PyProof.Rows
set_option Elab.async false
set_option maxRecDepth 100000
namespace Mine
def D (n : Nat) : UInt64 := Float64.ofFrac false n 1024
def decOk (n : Nat) : Bool := match Float64.decode (D n) with
  | .fin false M e => decide (-1074 ≤ e) && M * 2 ^ (e + 1074).toNat == n * 2 ^ 1064
  | _ => false
def decIn (lo : Nat) : Bool := (List.range 128).all fun i => decOk (lo + i)
theorem dec_0 : decIn 0 = true := by decide +kernel
theorem dec_1 : decIn 128 = true := by decide +kernel
theorem dec_2 : decIn 256 = true := by decide +kernel
theorem dec_3 : decIn 384 = true := by decide +kernel
theorem dec_4 : decIn 512 = true := by decide +kernel
theorem dec_5 : decIn 640 = true := by decide +kernel
theorem dec_6 : decIn 768 = true := by decide +kernel
theorem dec_7 : decIn 896 = true := by decide +kernel
theorem dec_8 : decOk 1024 = true := by decide +kernel
theorem decIn_at {lo n : Nat} (h : decIn lo = true) (h1 : lo ≤ n) (h2 : n < lo + 128) : decOk n = true := by
  have := List.all_eq_true.mp h (n - lo) (List.mem_range.mpr (by omega))
  rwa [show lo + (n - lo) = n by omega] at this
theorem decOk_all {n : Nat} (h : n ≤ 1024) : decOk n = true := by
  by_cases h0 : n < 128; · exact decIn_at dec_0 (by omega) (by omega)
  by_cases h1 : n < 256; · exact decIn_at dec_1 (by omega) (by omega)
  by_cases h2 : n < 384; · exact decIn_at dec_2 (by omega) (by omega)
  by_cases h3 : n < 512; · exact decIn_at dec_3 (by omega) (by omega)
  by_cases h4 : n < 640; · exact decIn_at dec_4 (by omega) (by omega)
  by_cases h5 : n < 768; · exact decIn_at dec_5 (by omega) (by omega)
  by_cases h6 : n < 896; · exact decIn_at dec_6 (by omega) (by omega)
  by_cases h7 : n < 1024; · exact decIn_at dec_7 (by omega) (by omega)
  rw [show n = 1024 by omega]; exact dec_8
theorem dec_at {n : Nat} (h : n ≤ 1024) : ∃ M e, Float64.decode (D n) = .fin false M e ∧ (-1074 : Int) ≤ e ∧ M * 2 ^ (e + 1074).toNat = n * 2 ^ 1064 := by
  have := decOk_all h
  unfold decOk at this
  split at this
  · rename_i M e hd
    rw [Bool.and_eq_true, decide_eq_true_iff, beq_iff_eq] at this
    exact ⟨M, e, hd, this.1, this.2⟩
  · cases this
theorem pow_split {e g : Int} (h1 : (-1074 : Int) ≤ g) (h2 : g ≤ e) : (2 : Nat) ^ (e + 1074).toNat = 2 ^ (e - g).toNat * 2 ^ (g + 1074).toNat := by
  rw [← Nat.pow_add]; congr 1; omega
theorem cmpInt_nat (p q n m : Nat) (hlt : p < q ↔ n < m) (heq : p = q ↔ n = m) : compare (p : Int) (q : Int) = compare n m := by
  rcases Nat.lt_trichotomy n m with h | h | h
  · have := hlt.mpr h
    rw [Nat.compare_eq_lt.mpr h, Int.compare_eq_lt.mpr (by omega)]
  · have := heq.mpr h
    rw [Nat.compare_eq_eq.mpr h, Int.compare_eq_eq.mpr (by omega)]
  · have h1 : ¬ p < q := fun x => by have := hlt.mp x; omega
    have h2 : ¬ p = q := fun x => by have := heq.mp x; omega
    rw [Nat.compare_eq_gt.mpr h, Int.compare_eq_gt.mpr (by omega)]
theorem cmpD {n m : Nat} (hn : n ≤ 1024) (hm : m ≤ 1024) : Float64.cmp (D n) (D m) = some (compare n m) := by
  obtain ⟨M, e, hd, he, hM⟩ := dec_at hn
  obtain ⟨K, f, hd', hf, hK⟩ := dec_at hm
  unfold Float64.cmp
  rw [hd, hd']
  show some (compare (Float64.sgn false (M * 2 ^ (e - min e f).toNat)) (Float64.sgn false (K * 2 ^ (f - min e f).toNat))) = _
  unfold Float64.sgn
  rw [if_neg (by decide), if_neg (by decide)]
  have hg : (-1074 : Int) ≤ min e f := by omega
  have c : (0 : Nat) < 2 ^ (min e f + 1074).toNat := Nat.pow_pos (by decide)
  have c' : (0 : Nat) < 2 ^ 1064 := Nat.pow_pos (by decide)
  have e1 : M * 2 ^ (e - min e f).toNat * 2 ^ (min e f + 1074).toNat = n * 2 ^ 1064 := by
    rw [Nat.mul_assoc, ← pow_split hg (by omega)]; exact hM
  have e2 : K * 2 ^ (f - min e f).toNat * 2 ^ (min e f + 1074).toNat = m * 2 ^ 1064 := by
    rw [Nat.mul_assoc, ← pow_split hg (by omega)]; exact hK
  generalize M * 2 ^ (e - min e f).toNat = p at *
  generalize K * 2 ^ (f - min e f).toNat = q at *
  generalize 2 ^ (min e f + 1074).toNat = x at *
  generalize 2 ^ 1064 = y at *
  congr 1
  refine cmpInt_nat p q n m ?_ ?_
  · constructor
    · intro h; exact Nat.lt_of_mul_lt_mul_right (a := y) (by rw [← e1, ← e2]; exact Nat.mul_lt_mul_of_pos_right h c)
    · intro h; exact Nat.lt_of_mul_lt_mul_right (a := x) (by rw [e1, e2]; exact Nat.mul_lt_mul_of_pos_right h c')
  · constructor
    · intro h; exact Nat.eq_of_mul_eq_mul_right c' (by rw [← e1, ← e2, h])
    · intro h; exact Nat.eq_of_mul_eq_mul_right c (by rw [e1, e2, h])
-- the names' own parts as 1024ths
theorem Fl_D_all : ((List.range 17).all fun j => Fl j == D (64 * j)) = true := by decide +kernel
theorem vB_D_all : ((List.range 9).all fun j => vB j == D (128 * j)) = true := by decide +kernel
theorem Fl_D {j : Nat} (h : j ≤ 16) : Fl j = D (64 * j) := beq_iff_eq.mp (List.all_eq_true.mp Fl_D_all j (List.mem_range.mpr (by omega)))
theorem vB_D {j : Nat} (h : j ≤ 8) : vB j = D (128 * j) := beq_iff_eq.mp (List.all_eq_true.mp vB_D_all j (List.mem_range.mpr (by omega)))
theorem cmpFl {i j : Nat} (hi : i ≤ 16) (hj : j ≤ 16) : Float64.cmp (Fl i) (Fl j) = some (compare i j) := by
  rw [Fl_D hi, Fl_D hj, cmpD (by omega) (by omega)]
  have := cmpInt_nat (64 * i) (64 * j) i j (by omega) (by omega)
  rw [← this]
  exact congrArg some (cmpInt_nat (64 * i) (64 * j) (64 * i) (64 * j) Iff.rfl Iff.rfl).symm
theorem cmpvB {i j : Nat} (hi : i ≤ 8) (hj : j ≤ 8) : Float64.cmp (vB i) (vB j) = some (compare i j) := by
  rw [vB_D hi, vB_D hj, cmpD (by omega) (by omega)]
  have := cmpInt_nat (128 * i) (128 * j) i j (by omega) (by omega)
  rw [← this]
  exact congrArg some (cmpInt_nat (128 * i) (128 * j) (128 * i) (128 * j) Iff.rfl Iff.rfl).symm
theorem cmpP {v a f f' : Nat} (hv : 1 ≤ v) (hv' : v ≤ 8) (ha : 1 ≤ a) (ha' : a ≤ 8) (hf : f ≤ 16) (hf' : f' ≤ 16) : Float64.cmp (P v a f) (P v a f') = some (compare f' f) := by
  have b1 : a * f ≤ 8 * 16 := Nat.mul_le_mul ha' hf
  have b2 : a * f' ≤ 8 * 16 := Nat.mul_le_mul ha' hf'
  have b3 : v * (128 - a * f) ≤ 8 * 128 := Nat.mul_le_mul hv' (by omega)
  have b4 : v * (128 - a * f') ≤ 8 * 128 := Nat.mul_le_mul hv' (by omega)
  show Float64.cmp (D (v * (128 - a * f))) (D (v * (128 - a * f'))) = _
  rw [cmpD (by omega) (by omega)]
  have h1 : v * (128 - a * f) < v * (128 - a * f') ↔ f' < f := by
    rw [Nat.mul_lt_mul_left (by omega)]
    constructor
    · intro h; exact Nat.lt_of_mul_lt_mul_left (a := a) (by omega)
    · intro h; have : a * f' < a * f := (Nat.mul_lt_mul_left (by omega)).mpr h; omega
  have h2 : v * (128 - a * f) = v * (128 - a * f') ↔ f' = f := by
    constructor
    · intro h
      have h3 := Nat.eq_of_mul_eq_mul_left (show 0 < v by omega) h
      exact Nat.eq_of_mul_eq_mul_left (show 0 < a by omega) (by omega)
    · intro h; rw [h]
  rw [← cmpInt_nat _ _ _ _ h1 h2]
  exact congrArg some (cmpInt_nat _ _ _ _ Iff.rfl Iff.rfl).symm
end Mine
end -- P2
section -- P3
theorem Mine.calm_P3 : True := by
  w_top off
  trivial
open PySem PySem.W PySem.Calls PyProof.Rows
set_option Elab.async false
set_option maxRecDepth 100000
namespace Mine
def fN (j : Nat) (c : Int) : Nat := (fall ((j : Int) * 6) c).toNat
def tri (j : Nat) : Nat × Nat × Nat := (fN j 0, fN j 32, fN j 64)
structure Par (v a : Nat) : Prop where
  v1 : 1 ≤ v
  v8 : v ≤ 8
  a1 : 1 ≤ a
  a8 : a ≤ 8
def PP (v a : Nat) (t : Nat × Nat × Nat) : UInt64 × UInt64 × UInt64 := (P v a t.1, P v a t.2.1, P v a t.2.2)
def isEv (f : Nat) : Bool := decide (f = 2 * (f / 2)) && decide (f / 2 ≤ 8)
theorem tri_ok_all : ((List.range 16).all fun j => isEv (tri j).1 && isEv (tri j).2.1 && isEv (tri j).2.2 && (min (min (tri j).1 (tri j).2.1) (tri j).2.2 == 0) && (max (max (tri j).1 (tri j).2.1) (tri j).2.2 == 16) &&
    decide (tri ((j + 8) % 16) = (16 - (tri j).1, 16 - (tri j).2.1, 16 - (tri j).2.2)) && decide (0 ≤ fall ((j : Int) * 6) 0) && decide (0 ≤ fall ((j : Int) * 6) 32) && decide (0 ≤ fall ((j : Int) * 6) 64)) = true := by decide +kernel
theorem ev_of {f : Nat} (h : isEv f = true) : f = 2 * (f / 2) ∧ f / 2 ≤ 8 := by
  unfold isEv at h
  rw [Bool.and_eq_true, decide_eq_true_iff, decide_eq_true_iff] at h
  exact h
structure Tri (j : Nat) : Prop where
  e1 : isEv (tri j).1 = true
  e2 : isEv (tri j).2.1 = true
  e3 : isEv (tri j).2.2 = true
  mn : min (min (tri j).1 (tri j).2.1) (tri j).2.2 = 0
  mx : max (max (tri j).1 (tri j).2.1) (tri j).2.2 = 16
  op : tri ((j + 8) % 16) = (16 - (tri j).1, 16 - (tri j).2.1, 16 - (tri j).2.2)
  p1 : 0 ≤ fall ((j : Int) * 6) 0
  p2 : 0 ≤ fall ((j : Int) * 6) 32
  p3 : 0 ≤ fall ((j : Int) * 6) 64
theorem tri_ok {j : Nat} (h : j < 16) : Tri j := by
  have := List.all_eq_true.mp tri_ok_all j (List.mem_range.mpr h)
  simp only [Bool.and_eq_true, decide_eq_true_iff, beq_iff_eq] at this
  obtain ⟨⟨⟨⟨⟨⟨⟨⟨a, b⟩, c⟩, d⟩, e⟩, f⟩, g⟩, h⟩, i⟩ := this
  exact ⟨a, b, c, d, e, f, g, h, i⟩
section
variable {v a : Nat} (p : Par v a)
include p
theorem e3_at {f : Nat} (hf : isEv f = true) : Float64.mul (vB v) (Float64.sub one (Float64.mul (vB a) (Fl f))) = P v a f :=
  beq_iff_eq.mp (all2_at (p := e3 v) (by8 (p := fun v => all2 (e3 v)) e3_1 e3_2 e3_3 e3_4 e3_5 e3_6 e3_7 e3_8 p.v1 p.v8) p.a1 p.a8 (ev_of hf).1 (ev_of hf).2)
theorem e6_at {f : Nat} (hf : isEv f = true) : Float64.div (Float64.sub (P v a 0) (P v a f)) (Float64.sub (P v a 0) (P v a 16)) = Fl f :=
  beq_iff_eq.mp (all2_at (p := e6 v) (by8 (p := fun v => all2 (e6 v)) e6_1 e6_2 e6_3 e6_4 e6_5 e6_6 e6_7 e6_8 p.v1 p.v8) p.a1 p.a8 (ev_of hf).1 (ev_of hf).2)
theorem e9_at {f : Nat} (hf : isEv f = true) : Float64.sub (Float64.mul two (Float64.div (Float64.add (P v a 0) (P v a 16)) two)) (P v a f) = P v a (16 - f) :=
  beq_iff_eq.mp (all2_at (p := e9 v) (by8 (p := fun v => all2 (e9 v)) e9_1 e9_2 e9_3 e9_4 e9_5 e9_6 e9_7 e9_8 p.v1 p.v8) p.a1 p.a8 (ev_of hf).1 (ev_of hf).2)
theorem e2_at : Float64.mul (vB v) (Float64.sub one (vB a)) = P v a 16 ∧ vB v = P v a 0 ∧ Float64.div (Float64.sub (P v a 0) (P v a 16)) (P v a 0) = vB a ∧ Float64.isZero (P v a 0) = false ∧ Float64.isZero (Float64.sub (P v a 0) (P v a 16)) = false ∧
    Float64.isZero (Float64.add (P v a 0) (P v a 16)) = false ∧ Float64.isZero (Float64.sub (Float64.sub two (P v a 0)) (P v a 16)) = false := by
  have h1 := List.all_eq_true.mp e2_all (v - 1) (List.mem_range.mpr (by have := p.v1; have := p.v8; omega))
  have h2 := List.all_eq_true.mp h1 (a - 1) (List.mem_range.mpr (by have := p.a1; have := p.a8; omega))
  rw [show v - 1 + 1 = v by have := p.v1; omega, show a - 1 + 1 = a by have := p.a1; omega] at h2
  unfold e2 at h2
  simp only [Bool.and_eq_true, beq_iff_eq, Bool.not_eq_true'] at h2
  obtain ⟨⟨⟨⟨⟨⟨a, b⟩, c⟩, d⟩, e⟩, f⟩, g⟩ := h2
  exact ⟨a, b, c, d, e, f, g⟩
theorem cmpP' {f f' : Nat} (hf : f ≤ 16) (hf' : f' ≤ 16) : Float64.cmp (P v a f) (P v a f') = some (compare f' f) := cmpP p.v1 p.v8 p.a1 p.a8 hf hf'
theorem fmax2P {f f' : Nat} (hf : f ≤ 16) (hf' : f' ≤ 16) : fmax2 (P v a f) (P v a f') = P v a (min f f') := by
  unfold fmax2
  rw [cmpP' p hf' hf]
  rcases Nat.lt_trichotomy f f' with h | h | h
  · rw [Nat.compare_eq_lt.mpr h, if_neg (by decide), Nat.min_eq_left (by omega)]
  · rw [Nat.compare_eq_eq.mpr h, if_neg (by decide), Nat.min_eq_left (by omega)]
  · rw [Nat.compare_eq_gt.mpr h, if_pos (by decide), Nat.min_eq_right (by omega)]
theorem fmin2P {f f' : Nat} (hf : f ≤ 16) (hf' : f' ≤ 16) : fmin2 (P v a f) (P v a f') = P v a (max f f') := by
  unfold fmin2
  rw [cmpP' p hf' hf]
  rcases Nat.lt_trichotomy f f' with h | h | h
  · rw [Nat.compare_eq_lt.mpr h, if_pos (by decide), Nat.max_eq_right (by omega)]
  · rw [Nat.compare_eq_eq.mpr h, if_neg (by decide), Nat.max_eq_left (by omega)]
  · rw [Nat.compare_eq_gt.mpr h, if_neg (by decide), Nat.max_eq_left (by omega)]
theorem le_ev {f : Nat} (h : isEv f = true) : f ≤ 16 := by have := ev_of h; omega
theorem maxT {j : Nat} (hj : j < 16) : fmax3 (P v a (tri j).1) (P v a (tri j).2.1) (P v a (tri j).2.2) = P v a 0 := by
  have T := tri_ok hj
  have h1 := le_ev p T.e1
  have h2 := le_ev p T.e2
  have h3 := le_ev p T.e3
  unfold fmax3
  rw [fmax2P p h1 h2, fmax2P p (by omega) h3, T.mn]
theorem minT {j : Nat} (hj : j < 16) : fmin3 (P v a (tri j).1) (P v a (tri j).2.1) (P v a (tri j).2.2) = P v a 16 := by
  have T := tri_ok hj
  have h1 := le_ev p T.e1
  have h2 := le_ev p T.e2
  have h3 := le_ev p T.e3
  unfold fmin3
  rw [fmin2P p h1 h2, fmin2P p (by omega) h3, T.mx]
end
def hueF (t : Nat × Nat × Nat) : UInt64 :=
  (Float64.divmod (Float64.div (if t.1 = 0 then Float64.sub (Fl t.2.2) (Fl t.2.1) else if t.2.1 = 0 then Float64.sub (Float64.add two (Fl t.1)) (Fl t.2.2) else Float64.sub (Float64.add four (Fl t.2.1)) (Fl t.1)) six) one).snd
theorem hueF_all : ((List.range 16).all fun j => hueF (tri j) == Fl j) = true := by decide +kernel
theorem eq_test {f : Nat} : (some (compare 0 f) == some Ordering.eq) = decide (f = 0) := by
  rcases Nat.eq_zero_or_pos f with h | h
  · subst h; rfl
  · rw [Nat.compare_eq_lt.mpr h, decide_eq_false (by omega)]; rfl
theorem hsv_tri {v a : Nat} (p : Par v a) {j : Nat} (hj : j < 16) : hsvOf (P v a (tri j).1) (P v a (tri j).2.1) (P v a (tri j).2.2) = (Fl j, vB a, vB v) := by
  have T := tri_ok hj
  have h1 := le_ev p T.e1
  have h2 := le_ev p T.e2
  have h3 := le_ev p T.e3
  obtain ⟨_, b, c, _⟩ := e2_at p
  unfold hsvOf hueOf
  rw [maxT p hj, minT p hj, c, ← b]
  congr 1
  rw [b]
  dsimp only
  rw [e6_at p T.e1, e6_at p T.e2, e6_at p T.e3, cmpP' p h1 (by omega), cmpP' p h2 (by omega), eq_test, eq_test]
  refine Eq.trans ?_ (beq_iff_eq.mp (List.all_eq_true.mp hueF_all j (List.mem_range.mpr hj)))
  unfold hueF
  simp only [decide_eq_true_eq]
theorem okHsv_tri {v a : Nat} (p : Par v a) {j : Nat} (hj : j < 16) :
    (Float64.cmp (fmin3 (P v a (tri j).1) (P v a (tri j).2.1) (P v a (tri j).2.2)) (fmax3 (P v a (tri j).1) (P v a (tri j).2.1) (P v a (tri j).2.2)) == some Ordering.eq) = false ∧
    Float64.isZero (fmax3 (P v a (tri j).1) (P v a (tri j).2.1) (P v a (tri j).2.2)) = false ∧
    Float64.isZero (Float64.sub (fmax3 (P v a (tri j).1) (P v a (tri j).2.1) (P v a (tri j).2.2)) (fmin3 (P v a (tri j).1) (P v a (tri j).2.1) (P v a (tri j).2.2))) = false ∧
    Float64.isZero (Float64.add (fmax3 (P v a (tri j).1) (P v a (tri j).2.1) (P v a (tri j).2.2)) (fmin3 (P v a (tri j).1) (P v a (tri j).2.1) (P v a (tri j).2.2))) = false ∧
    Float64.isZero (Float64.sub (Float64.sub two (fmax3 (P v a (tri j).1) (P v a (tri j).2.1) (P v a (tri j).2.2))) (fmin3 (P v a (tri j).1) (P v a (tri j).2.1) (P v a (tri j).2.2))) = false := by
  rw [maxT p hj, minT p hj, cmpP' p (by omega) (by omega)]
  obtain ⟨_, _, _, d, e, f, g⟩ := e2_at p
  exact ⟨by decide, d, e, f, g⟩
-- hsv_to_rgb
def truncB (x : UInt64) (I : Int) : Bool := match Float64.decode x with | .fin sg m e => Float64.truncOf sg m e == I | _ => false
theorem trunc_of {x : UInt64} {I : Int} (h : truncB x I = true) : IsTrunc x I := by
  unfold truncB at h
  split at h
  · rename_i sg m e hd; exact ⟨sg, m, e, hd, beq_iff_eq.mp h⟩
  · cases h
def iOf (J : Nat) : Int := ((J * 6 / 16 : Nat) : Int)
def gOf (J : Nat) : Nat := J * 6 % 16
def patF (J : Nat) : Nat × Nat × Nat :=
  if (iOf J).fmod 6 = 0 then (0, 16 - gOf J, 16) else if (iOf J).fmod 6 = 1 then (gOf J, 0, 16) else if (iOf J).fmod 6 = 2 then (16, 0, 16 - gOf J) else if (iOf J).fmod 6 = 3 then (16, gOf J, 0) else if (iOf J).fmod 6 = 4 then (16 - gOf J, 16, 0) else (0, 16, gOf J)
theorem rgb_all : ((List.range 24).all fun J => truncB (Float64.mul (Fl J) six) (iOf J) && (Float64.sub (Float64.mul (Fl J) six) (Float64.ofInt (iOf J)) == Fl (gOf J)) && (Float64.sub one (Fl (gOf J)) == Fl (16 - gOf J)) && isEv (gOf J) && isEv (16 - gOf J) && decide (patF J = tri (J % 16))) = true := by decide +kernel
theorem half_all : ((List.range 16).all fun j => Float64.add (Fl j) half == Fl (j + 8)) = true := by decide +kernel
theorem rgb_tri {v a : Nat} (p : Par v a) {J : Nat} (hJ : J < 24) : IsTrunc (Float64.mul (Fl J) six) (iOf J) ∧ rgbOf (Fl J) (vB a) (vB v) (iOf J) = PP v a (tri (J % 16)) := by
  have h := List.all_eq_true.mp rgb_all J (List.mem_range.mpr hJ)
  simp only [Bool.and_eq_true, decide_eq_true_iff, beq_iff_eq] at h
  obtain ⟨⟨⟨⟨⟨t, x⟩, y⟩, e⟩, e'⟩, q⟩ := h
  refine ⟨trunc_of t, ?_⟩
  obtain ⟨m, b, _⟩ := e2_at p
  rw [← q]
  unfold rgbOf
  dsimp only
  rw [x, y, e3_at p e, e3_at p e', m, b]
  unfold patF PP
  (repeat' split) <;> rfl
theorem half_at {j : Nat} (h : j < 16) : Float64.add (Fl j) half = Fl (j + 8) := beq_iff_eq.mp (List.all_eq_true.mp half_all j (List.mem_range.mpr h))
end Mine
end -- P3
section -- P4
theorem Mine.calm_P4 : True := by
  w_top off
  trivial
open PySem PySem.W PySem.Calls PyProof.Rows
set_option Elab.async false
set_option maxRecDepth 100000
namespace Mine
theorem par (k : Nat) : Par (k % 8 + 1) (k / 8 % 8 + 1) := ⟨by omega, by omega, by omega, by omega⟩
theorem nm_eq (k : Nat) : nm k = (Fl (k / 64), vB (k / 8 % 8 + 1), vB (k % 8 + 1)) := rfl
theorem part_eq {k : Nat} {c : Int} (h0 : 0 ≤ fall (((k / 64 : Nat) : Int) * 6) c) (h1 : fall (((k / 64 : Nat) : Int) * 6) c ≤ 16) : part k c = P (k % 8 + 1) (k / 8 % 8 + 1) (fN (k / 64) c) := by
  unfold part P fN
  have e1 : (k : Int) / 64 = ((k / 64 : Nat) : Int) := rfl
  rw [e1]
  generalize hf : fall (((k / 64 : Nat) : Int) * 6) c = f at *
  obtain ⟨f', rfl⟩ := Int.eq_ofNat_of_zero_le h0
  have hf' : f' ≤ 16 := by omega
  have b : (k / 8 % 8 + 1) * f' ≤ 8 * 16 := Nat.mul_le_mul (by omega) hf'
  congr 1
  have e2 : (k : Int) % 8 + 1 = ((k % 8 + 1 : Nat) : Int) := rfl
  have e3 : (k : Int) / 8 % 8 + 1 = ((k / 8 % 8 + 1 : Nat) : Int) := rfl
  rw [e2, e3]
  rw [show (128 : Int) - ((k / 8 % 8 + 1 : Nat) : Int) * (f' : Int) = ((128 - (k / 8 % 8 + 1) * f' : Nat) : Int) from by
    rw [Int.ofNat_sub (by omega)]; simp [Int.natCast_mul]]
  rw [← Int.natCast_mul, Int.toNat_natCast]
  rfl
theorem fall_le (h c : Int) : fall h c ≤ 16 := by unfold fall; omega
theorem col_eq {k : Nat} (h : k < 1024) : col k = PP (k % 8 + 1) (k / 8 % 8 + 1) (tri (k / 64)) := by
  have T := tri_ok (show k / 64 < 16 by omega)
  unfold col
  rw [part_eq T.p1 (fall_le _ _), part_eq T.p2 (fall_le _ _), part_eq T.p3 (fall_le _ _)]
  rfl
def opp (k : Nat) : Nat := (k + 512) % 1024
theorem opp_v {k : Nat} : opp k % 8 = k % 8 := by unfold opp; omega
theorem opp_a {k : Nat} : opp k / 8 % 8 = k / 8 % 8 := by unfold opp; omega
theorem opp_j {k : Nat} (h : k < 1024) : opp k / 64 = (k / 64 + 8) % 16 := by unfold opp; omega
theorem opp_lt {k : Nat} : opp k < 1024 := by unfold opp; omega
theorem col_opp {k : Nat} (h : k < 1024) : col (opp k) = PP (k % 8 + 1) (k / 8 % 8 + 1) (tri ((k / 64 + 8) % 16)) := by
  rw [col_eq opp_lt, opp_v, opp_a, opp_j h]
/-- the name out of the colour -/
theorem hsv_col {k : Nat} (h : k < 1024) : hsvOf (col k).1 (col k).2.1 (col k).2.2 = nm k := by
  rw [col_eq h, nm_eq]; exact hsv_tri (par k) (by omega)
theorem ok_col {k : Nat} (h : k < 1024) : (Float64.cmp (fmin3 (col k).1 (col k).2.1 (col k).2.2) (fmax3 (col k).1 (col k).2.1 (col k).2.2) == some Ordering.eq) = false ∧
    Float64.isZero (fmax3 (col k).1 (col k).2.1 (col k).2.2) = false ∧ Float64.isZero (Float64.sub (fmax3 (col k).1 (col k).2.1 (col k).2.2) (fmin3 (col k).1 (col k).2.1 (col k).2.2)) = false ∧
    Float64.isZero (Float64.add (fmax3 (col k).1 (col k).2.1 (col k).2.2) (fmin3 (col k).1 (col k).2.1 (col k).2.2)) = false ∧
    Float64.isZero (Float64.sub (Float64.sub two (fmax3 (col k).1 (col k).2.1 (col k).2.2)) (fmin3 (col k).1 (col k).2.1 (col k).2.2)) = false := by
  rw [col_eq h]; exact okHsv_tri (par k) (by omega)
/-- the colour out of the name -/
theorem rgb_nm {k : Nat} (h : k < 1024) : IsTrunc (Float64.mul (nm k).1 six) (iOf (k / 64)) ∧ rgbOf (nm k).1 (nm k).2.1 (nm k).2.2 (iOf (k / 64)) = col k := by
  have := rgb_tri (par k) (show k / 64 < 24 by omega)
  rw [col_eq h]
  rw [show k / 64 % 16 = k / 64 by omega] at this
  exact this
/-- half a turn on -/
theorem rgb_half {k : Nat} (h : k < 1024) : IsTrunc (Float64.mul (Float64.add (nm k).1 half) six) (iOf (k / 64 + 8)) ∧ rgbOf (Float64.add (nm k).1 half) (nm k).2.1 (nm k).2.2 (iOf (k / 64 + 8)) = col (opp k) := by
  rw [col_opp h]
  rw [show Float64.add (nm k).1 half = Fl (k / 64 + 8) from half_at (by omega)]
  exact rgb_tri (par k) (by omega)
theorem iOf_bd {J : Nat} (h : J < 24) : 0 ≤ iOf J ∧ iOf J < 100 := by unfold iOf; omega
theorem D0 : (0 : UInt64) = D 0 := by decide +kernel
theorem share_ne (k : Nat) : (Float64.cmp (nm k).2.1 0 == some Ordering.eq) = false := by
  show (Float64.cmp (vB (k / 8 % 8 + 1)) 0 == some Ordering.eq) = false
  rw [vB_D (by omega), D0, cmpD (by omega) (by omega), Nat.compare_eq_gt.mpr (by omega)]; rfl
def feq (a b : UInt64) : Bool := Float64.cmp a b == some Ordering.eq
theorem feqP {v a f : Nat} (p : Par v a) (hf : f ≤ 16) : feq (P v a f) (P v a f) = true := by
  unfold feq; rw [cmpP' p hf hf, Nat.compare_eq_eq.mpr rfl]; rfl
theorem feq_col {k : Nat} (h : k < 1024) : feq (col k).1 (col k).1 = true ∧ feq (col k).2.1 (col k).2.1 = true ∧ feq (col k).2.2 (col k).2.2 = true := by
  have T := tri_ok (show k / 64 < 16 by omega)
  rw [col_eq h]
  exact ⟨feqP (par k) (le_ev (par k) T.e1), feqP (par k) (le_ev (par k) T.e2), feqP (par k) (le_ev (par k) T.e3)⟩
theorem feq_Fl {i j : Nat} (hi : i ≤ 16) (hj : j ≤ 16) : feq (Fl i) (Fl j) = decide (i = j) := by
  unfold feq; rw [cmpFl hi hj]
  rcases Nat.lt_trichotomy i j with h | h | h
  · rw [Nat.compare_eq_lt.mpr h, decide_eq_false (by omega)]; rfl
  · rw [Nat.compare_eq_eq.mpr h, decide_eq_true h]; rfl
  · rw [Nat.compare_eq_gt.mpr h, decide_eq_false (by omega)]; rfl
theorem feq_vB {i j : Nat} (hi : i ≤ 8) (hj : j ≤ 8) : feq (vB i) (vB j) = decide (i = j) := by
  unfold feq; rw [cmpvB hi hj]
  rcases Nat.lt_trichotomy i j with h | h | h
  · rw [Nat.compare_eq_lt.mpr h, decide_eq_false (by omega)]; rfl
  · rw [Nat.compare_eq_eq.mpr h, decide_eq_true h]; rfl
  · rw [Nat.compare_eq_gt.mpr h, decide_eq_false (by omega)]; rfl
theorem flt_Fl {i j : Nat} (hi : i ≤ 16) (hj : j ≤ 16) : (Float64.cmp (Fl i) (Fl j) == some Ordering.lt) = decide (i < j) := by
  rw [cmpFl hi hj]
  rcases Nat.lt_trichotomy i j with h | h | h
  · rw [Nat.compare_eq_lt.mpr h, decide_eq_true h]; rfl
  · rw [Nat.compare_eq_eq.mpr h, decide_eq_false (by omega)]; rfl
  · rw [Nat.compare_eq_gt.mpr h, decide_eq_false (by omega)]; rfl
theorem flt_vB {i j : Nat} (hi : i ≤ 8) (hj : j ≤ 8) : (Float64.cmp (vB i) (vB j) == some Ordering.lt) = decide (i < j) := by
  rw [cmpvB hi hj]
  rcases Nat.lt_trichotomy i j with h | h | h
  · rw [Nat.compare_eq_lt.mpr h, decide_eq_true h]; rfl
  · rw [Nat.compare_eq_eq.mpr h, decide_eq_false (by omega)]; rfl
  · rw [Nat.compare_eq_gt.mpr h, decide_eq_false (by omega)]; rfl
theorem feq_nm {k : Nat} (h : k < 1024) : feq (nm k).1 (nm k).1 = true ∧ feq (nm k).2.1 (nm k).2.1 = true ∧ feq (nm k).2.2 (nm k).2.2 = true := by
  rw [nm_eq]
  refine ⟨?_, ?_, ?_⟩
  · rw [feq_Fl (by omega) (by omega)]; simp
  · rw [feq_vB (by omega) (by omega)]; simp
  · rw [feq_vB (by omega) (by omega)]; simp
/-- Python's < of two tuples of three floats, by first parts that are not equal -/
def tlt (x y : UInt64 × UInt64 × UInt64) : Bool :=
  if feq x.1 y.1 then (if feq x.2.1 y.2.1 then (if feq x.2.2 y.2.2 then false else Float64.cmp x.2.2 y.2.2 == some Ordering.lt) else Float64.cmp x.2.1 y.2.1 == some Ordering.lt) else Float64.cmp x.1 y.1 == some Ordering.lt
theorem tlt_nm {i j : Nat} (hi : i < 1024) (hj : j < 1024) : tlt (nm i) (nm j) = decide (i < j) := by
  rw [nm_eq, nm_eq]
  unfold tlt
  dsimp only
  rw [feq_Fl (by omega) (by omega), feq_vB (by omega) (by omega), feq_vB (by omega) (by omega), flt_Fl (by omega) (by omega), flt_vB (by omega) (by omega), flt_vB (by omega) (by omega)]
  by_cases h1 : i / 64 = j / 64
  · rw [decide_eq_true h1, if_pos rfl]
    by_cases h2 : i / 8 % 8 + 1 = j / 8 % 8 + 1
    · rw [decide_eq_true h2, if_pos rfl]
      by_cases h3 : i % 8 + 1 = j % 8 + 1
      · rw [decide_eq_true h3, if_pos rfl]; exact (decide_eq_false (by omega)).symm
      · rw [decide_eq_false h3, if_neg (by decide)]; exact decide_eq_decide.mpr (by omega)
    · rw [decide_eq_false h2, if_neg (by decide)]; exact decide_eq_decide.mpr (by omega)
  · rw [decide_eq_false h1, if_neg (by decide)]; exact decide_eq_decide.mpr (by omega)
/-- the mirror at the light -/
def mirr (k : Nat) (x : UInt64) : UInt64 := Float64.sub (Float64.mul (Float64.ofInt 2) (lightOf (col k).1 (col k).2.1 (col k).2.2)) x
theorem mirr_col {k : Nat} (h : k < 1024) : (mirr k (col k).1, mirr k (col k).2.1, mirr k (col k).2.2) = col (opp k) := by
  have T := tri_ok (show k / 64 < 16 by omega)
  rw [col_opp h, T.op]
  unfold mirr lightOf
  rw [col_eq h, two_is]
  show (Float64.sub (Float64.mul two (Float64.div (Float64.add (fmax3 (P _ _ (tri (k / 64)).1) (P _ _ (tri (k / 64)).2.1) (P _ _ (tri (k / 64)).2.2)) (fmin3 (P _ _ (tri (k / 64)).1) (P _ _ (tri (k / 64)).2.1) (P _ _ (tri (k / 64)).2.2))) two)) (P _ _ (tri (k / 64)).1), _, _) = _
  simp only [PP]
  rw [maxT (par k) (by omega), minT (par k) (by omega), e9_at (par k) T.e1, e9_at (par k) T.e2, e9_at (par k) T.e3]
end Mine
end -- P4
section -- C1
theorem Mine.calm_C1 : True := by
  w_top off
  trivial
open PySem PySem.W PySem.Calls PyProof.Rows
set_option Elab.async false
set_option maxRecDepth 100000
namespace Mine
/-- two floats that == may be asked of: their tokens are Python's, and one token is one value -/
structure Apt (a : UInt64) (t : Tok) (b : UInt64) (u : Tok) : Prop where
  t0 : t ≠ 0
  u0 : u ≠ 0
  one : t = u → feq a b = true
  same : a = b → feq a b = true
section
variable {prog : Program} {w : World} {A : Around} {E : Value → Shared → Prop} {s : Shared}
theorem eqB_float {a b : UInt64} {t u : Tok} {Q : Bool → Shared → Prop} (c : Apt a t b u) (nb : NoneBooked s.heap) (h : Q (feq a b) s) : wpAny (model prog w) A (eqBool (.float a t) (.float b u)) Q E s := by
  unfold eqBool
  refine wpAny_holding ?_
  show wpAny _ _ (if (Value.float a t == Value.float b u) = true then _ else _) Q E s
  by_cases hab : (Value.float a t == Value.float b u) = true
  · rw [if_pos hab]
    have e : a = b := by have := eq_of_beq hab; injection this
    rw [c.same e] at h
    exact wpAny_bind (wpAny_rule (wpAny_pure h))
  · rw [if_neg hab]
    show wpAny _ _ (isSame (.float a t) (.float b u) >>= _) Q E s
    refine wpAny_bind ?_
    show wpAny _ _ (isSame.created (a == b && !Float64.isNaN a) t u) _ E s
    have fin : wpAny (model prog w) A (if (false : Bool) = true then pure true else (do truthOfDropped (← richCompare .Eq (.float a t) (.float b u)))) Q E s := by
      rw [if_neg (by decide)]
      exact wpAny_bind (AutoFloatOps.eq_0 (wpAny_truthy_bool h))
    have yes : feq a b = true → wpAny (model prog w) A (if (true : Bool) = true then pure true else (do truthOfDropped (← richCompare .Eq (.float a t) (.float b u)))) Q E s := fun e => by
      rw [if_pos rfl]
      rw [e] at h
      exact wpAny_pure h
    unfold isSame.created
    refine wpAny_ite ?_
    rw [if_neg (by simp [c.t0, c.u0])]
    refine wpAny_ite ?_
    by_cases htu : (t == u) = true
    · rw [if_pos htu]; exact wpAny_pure (yes (c.one (eq_of_beq htu)))
    rw [if_neg htu]
    refine wpAny_ite ?_
    by_cases hc : (a == b && !Float64.isNaN a) = true
    · rw [if_neg (by simpa using hc)]
      have e : a = b := by rw [Bool.and_eq_true] at hc; exact beq_iff_eq.mp hc.1
      refine wpAny_bind (wpAny_sharingNotTold_none nb ?_)
      rw [if_neg Bool.false_ne_true]
      refine wpAny_bind (wpAny_sharingNotTold_none nb ?_)
      rw [if_neg Bool.false_ne_true]
      refine wpAny_bind (wpAny_rule (wpAny_bind (wpAny_askSetting (wpAny_pure ?_))))
      cases hm : ((Setting.params { program := (model prog w).prog, params := (model prog w).w.params }).mergeTok t == (Setting.params { program := (model prog w).prog, params := (model prog w).w.params }).mergeTok u) with
      | true => exact yes (c.same e)
      | false => exact fin
    · rw [if_pos (by rw [Bool.not_eq_true] at hc; rw [hc]; rfl)]; exact wpAny_pure fin
end
abbrev T3 := UInt64 × UInt64 × UInt64
abbrev K3 := Tok × Tok × Tok
structure Apt3 (x : T3) (t : K3) (y : T3) (u : K3) : Prop where
  a : Apt x.1 t.1 y.1 u.1
  b : Apt x.2.1 t.2.1 y.2.1 u.2.1
  c : Apt x.2.2 t.2.2 y.2.2 u.2.2
section
variable {prog : Program} {w : World} {A : Around} {E : Value → Shared → Prop} {s : Shared} {a b : Addr} {x y : T3} {t u : K3} {n k : Nat}
theorem tup_typeIs (hx : s.heap.get? a = some (tupOf (flts x t) n)) : s.TypeIs (.ref a) "tuple" := ⟨_, hx, rfl⟩
theorem tup_lt_tree {R : Fin → Shared → Prop} (c : Apt3 x t y u) (nb : NoneBooked s.heap) (hx : s.heap.get? a = some (tupOf (flts x t) n)) (hy : s.heap.get? b = some (tupOf (flts y u) k)) (h : R (.done (.ret (.bool (tlt x y)))) s) :
    wpAny (model prog w) A (Builtin.«tuple.__lt__» ⟨[.ref a, .ref b], []⟩) R E s := by
  show wpAny _ _ (isInstance (.ref b) (.type "tuple") >>= _) _ _ s
  refine wpAny_bind (wpAny_isInstance (tup_typeIs hy) isSubtype_tuple_tuple ?_)
  simp only [Bool.not_true, Bool.false_eq_true, if_false]
  refine wpAny_bind (wpAny_tupleItemsOf hx rfl ?_)
  refine wpAny_bind (wpAny_tupleItemsOf hy rfl ?_)
  refine wpAny_bind ?_
  simp only [List.zip_cons_cons, List.zip_nil_right, List.forIn_cons, List.forIn_nil]
  unfold tlt at h
  refine wpAny_bind (wpAny_bind (eqB_float c.a nb ?_))
  cases h1 : feq x.1 y.1 with
  | false =>
    rw [h1, if_neg Bool.false_ne_true] at h
    simp only [Bool.not_false, if_true]
    exact wpAny_bind (wpAny_rule (wpAny_bind (AutoFloatOps.lt_0 (wpAny_bind (wpAny_pure (wpAny_pure (wpAny_pure (wpAny_pure h))))))))
  | true =>
    rw [h1, if_pos rfl] at h
    simp only [Bool.not_true, Bool.false_eq_true, if_false]
    refine wpAny_pure ?_
    dsimp only
    refine wpAny_bind (wpAny_bind (eqB_float c.b nb ?_))
    cases h2 : feq x.2.1 y.2.1 with
    | false =>
      rw [h2, if_neg Bool.false_ne_true] at h
      simp only [Bool.not_false, if_true]
      exact wpAny_bind (wpAny_rule (wpAny_bind (AutoFloatOps.lt_0 (wpAny_bind (wpAny_pure (wpAny_pure (wpAny_pure (wpAny_pure h))))))))
    | true =>
      rw [h2, if_pos rfl] at h
      simp only [Bool.not_true, Bool.false_eq_true, if_false]
      refine wpAny_pure ?_
      dsimp only
      refine wpAny_bind (wpAny_bind (eqB_float c.c nb ?_))
      cases h3 : feq x.2.2 y.2.2 with
      | false =>
        rw [h3, if_neg Bool.false_ne_true] at h
        simp only [Bool.not_false, if_true]
        exact wpAny_bind (wpAny_rule (wpAny_bind (AutoFloatOps.lt_0 (wpAny_bind (wpAny_pure (wpAny_pure (wpAny_pure (wpAny_pure h))))))))
      | true =>
        rw [h3, if_pos rfl] at h
        simp only [Bool.not_true, Bool.false_eq_true, if_false]
        refine wpAny_pure ?_
        dsimp only
        exact wpAny_pure (wpAny_pure h)
/-- three floats that are == -/
def teq (x y : T3) : Prop := feq x.1 y.1 = true ∧ feq x.2.1 y.2.1 = true ∧ feq x.2.2 y.2.2 = true
theorem tup_eq_tree {R : Fin → Shared → Prop} (c : Apt3 x t y u) (nb : NoneBooked s.heap) (hx : s.heap.get? a = some (tupOf (flts x t) n)) (hy : s.heap.get? b = some (tupOf (flts y u) k)) (he : teq x y) (h : R (.done (.ret (.bool true))) s) :
    wpAny (model prog w) A (Builtin.«tuple.__eq__» ⟨[.ref a, .ref b], []⟩) R E s := by
  show wpAny _ _ (isInstance (.ref b) (.type "tuple") >>= _) _ _ s
  refine wpAny_bind (wpAny_isInstance (tup_typeIs hy) isSubtype_tuple_tuple ?_)
  simp only [Bool.not_true, Bool.false_eq_true, if_false]
  refine wpAny_bind (wpAny_tupleItemsOf hx rfl ?_)
  refine wpAny_bind (wpAny_tupleItemsOf hy rfl ?_)
  refine wpAny_bind ?_
  simp only [List.zip_cons_cons, List.zip_nil_right, List.forIn_cons, List.forIn_nil]
  refine wpAny_bind (wpAny_bind (eqB_float c.a nb ?_))
  rw [he.1]
  simp only [Bool.not_true, Bool.false_eq_true, if_false]
  refine wpAny_pure ?_
  dsimp only
  refine wpAny_bind (wpAny_bind (eqB_float c.b nb ?_))
  rw [he.2.1]
  simp only [Bool.not_true, Bool.false_eq_true, if_false]
  refine wpAny_pure ?_
  dsimp only
  refine wpAny_bind (wpAny_bind (eqB_float c.c nb ?_))
  rw [he.2.2]
  simp only [Bool.not_true, Bool.false_eq_true, if_false]
  refine wpAny_pure ?_
  dsimp only
  exact wpAny_pure (wpAny_pure h)
theorem tup_ne_tree {R : Fin → Shared → Prop} (c : Apt3 x t y u) (nb : NoneBooked s.heap) (hx : s.heap.get? a = some (tupOf (flts x t) n)) (hy : s.heap.get? b = some (tupOf (flts y u) k)) (he : teq x y) (h : R (.done (.ret (.bool false))) s) :
    wpAny (model prog w) A (Builtin.«tuple.__ne__» ⟨[.ref a, .ref b], []⟩) R E s := by
  show wpAny _ _ (isInstance (.ref b) (.type "tuple") >>= _) _ _ s
  refine wpAny_bind (wpAny_isInstance (tup_typeIs hy) isSubtype_tuple_tuple ?_)
  simp only [Bool.not_true, Bool.false_eq_true, if_false]
  refine wpAny_bind (wpAny_tupleItemsOf hx rfl ?_)
  refine wpAny_bind (wpAny_tupleItemsOf hy rfl ?_)
  refine wpAny_bind ?_
  simp only [List.zip_cons_cons, List.zip_nil_right, List.forIn_cons, List.forIn_nil]
  refine wpAny_bind (wpAny_bind (eqB_float c.a nb ?_))
  rw [he.1]
  simp only [Bool.not_true, Bool.false_eq_true, if_false]
  refine wpAny_pure ?_
  dsimp only
  refine wpAny_bind (wpAny_bind (eqB_float c.b nb ?_))
  rw [he.2.1]
  simp only [Bool.not_true, Bool.false_eq_true, if_false]
  refine wpAny_pure ?_
  dsimp only
  refine wpAny_bind (wpAny_bind (eqB_float c.c nb ?_))
  rw [he.2.2]
  simp only [Bool.not_true, Bool.false_eq_true, if_false]
  refine wpAny_pure ?_
  dsimp only
  exact wpAny_pure (wpAny_pure h)
variable {Q : Value → Shared → Prop}
theorem tup_lt (hu : A.units < cLine) (c : Apt3 x t y u) (nb : NoneBooked s.heap) (hx : s.heap.get? a = some (tupOf (flts x t) n)) (hy : s.heap.get? b = some (tupOf (flts y u) k)) (h : Q (.bool (tlt x y)) s) :
    wpAny (model prog w) A (compareOp .Lt (.ref a) (.ref b)) Q E s :=
  cmp_ofLt (wpAny_richCompare_same_room (op := .Lt) (tup_typeIs hx) (tup_typeIs hy) F.slot_tuple_lt (wpAny_call_entry F.slot_tuple_lt (tup_typeIs hx) F.entry_tuple_lt (tup_lt_tree c nb hx hy ⟨_, rfl, (fun e => nomatch e), h⟩) (F.args_tuple_lt_2 _ _)) hu)
theorem tup_eq (hu : A.units < cLine) (c : Apt3 x t y u) (nb : NoneBooked s.heap) (hx : s.heap.get? a = some (tupOf (flts x t) n)) (hy : s.heap.get? b = some (tupOf (flts y u) k)) (he : teq x y) (h : Q (.bool true) s) :
    wpAny (model prog w) A (compareOp .Eq (.ref a) (.ref b)) Q E s :=
  cmp_ofEq (wpAny_richCompare_same_room (op := .Eq) (tup_typeIs hx) (tup_typeIs hy) F.slot_tuple_eq (wpAny_call_entry F.slot_tuple_eq (tup_typeIs hx) F.entry_tuple_eq (tup_eq_tree c nb hx hy he ⟨_, rfl, (fun e => nomatch e), h⟩) (F.args_tuple_eq_2 _ _)) hu)
theorem tup_ne (hu : A.units < cLine) (c : Apt3 x t y u) (nb : NoneBooked s.heap) (hx : s.heap.get? a = some (tupOf (flts x t) n)) (hy : s.heap.get? b = some (tupOf (flts y u) k)) (he : teq x y) (h : Q (.bool false) s) :
    wpAny (model prog w) A (compareOp .NotEq (.ref a) (.ref b)) Q E s :=
  cmp_ofNotEq (wpAny_richCompare_same_room (op := .NotEq) (tup_typeIs hx) (tup_typeIs hy) F.slot_tuple_ne (wpAny_call_entry F.slot_tuple_ne (tup_typeIs hx) F.entry_tuple_ne (tup_ne_tree c nb hx hy he ⟨_, rfl, (fun e => nomatch e), h⟩) (F.args_tuple_ne_2 _ _)) hu)
end
/-- equal ones are apt whatever their tokens -/
theorem apt_of_teq {x y : T3} {t u : K3} (he : teq x y) (h1 : t.1 ≠ 0) (h2 : t.2.1 ≠ 0) (h3 : t.2.2 ≠ 0) (h4 : u.1 ≠ 0) (h5 : u.2.1 ≠ 0) (h6 : u.2.2 ≠ 0) : Apt3 x t y u :=
  ⟨⟨h1, h4, fun _ => he.1, fun _ => he.1⟩, ⟨h2, h5, fun _ => he.2.1, fun _ => he.2.1⟩, ⟨h3, h6, fun _ => he.2.2, fun _ => he.2.2⟩⟩
/-- nothing is booked where the written part stands -/
theorem booked_of {w : World} {h : Heap} (X : (Mine.hd.heap_39 w.params).In h) : NoneBooked h := by
  have e : (Mine.hd.heap_39 w.params).lookup cStatics = some { cls := .none, data := .dict #[] } := by kernel_rfl
  exact ⟨fun _ => none, ⟨_, #[], 0, X _ _ e, rfl, fun _ h => absurd h (by simp), fun _ => rfl⟩, rfl⟩
end Mine
end -- C1
section -- U1
theorem Mine.calm_U1 : True := by
  w_top off
  trivial
open PySem PySem.W PySem.Calls PyProof.Rows
set_option Elab.async false
set_option maxRecDepth 100000
namespace Mine
noncomputable def AllNeq (d : Nat) : List (Addr × Obj) → Prop
  | [] => True
  | p :: r => @Ne Nat p.1 d ∧ AllNeq d r
theorem allNeq_of {d : Addr} : ∀ {l : List (Addr × Obj)}, (∀ p ∈ l, p.1 ≠ d) → AllNeq d l
  | [], _ => trivial
  | p :: _, h => ⟨h p (.head _), allNeq_of fun q hq => h q (.tail _ hq)⟩
theorem news_more {g h h' : Heap} {L D : Addr} {m : Str → Option Value} {news : List (Addr × Obj)} {o : Obj} (F : Fr g L h m) (N : News g L h news) (k : Kp [] h h') (hD : h'.get? D = some o) (hf : h.get? D = none) :
    Fr g L h' m ∧ News g L h' ((D, o) :: news) ∧ AllNeq D news := by
  obtain ⟨oL, es, ep, hL, _⟩ := F.ns
  refine ⟨fr_step (X := []) F k (by simp), fun p hp => ?_, allNeq_of fun p hp e => ?_⟩
  · rcases List.mem_cons.mp hp with rfl | hp
    · refine ⟨hD, fun e => ?_, ?_⟩
      · dsimp only at e; rw [e, hL] at hf; cases hf
      · cases q : g.get? D with
        | none => rfl
        | some o' => rw [F.keep _ _ q] at hf; cases hf
    · have P := N p hp
      exact ⟨k _ _ P.1 (by simp), P.2⟩
  · have P := (N p hp).1
    rw [e, hf] at P; cases P
theorem kp_fr {g h : Heap} {L : Addr} {m : Str → Option Value} (F : Fr g L h m) : Kp [] g h := fun b o e _ => F.keep b o e
section
variable {w : World} {mean : ExcName → Option Value} {mg mb : Str → Option Value} {s : Shared} {Q E : Value → Shared → Prop} {A : Around} {g : Heap} {L : Addr} {m : Str → Option Value} {news : List (Addr × Obj)} {k : Nat} {t1 t2 t3 : Tok}
variable (X : (Mine.hd.heap_39 w.params).In g) (T : Top Mine.hd.view_39 (looseW Mine.hd.view_39 []) mean mg mb g) (F : Fr g L s.heap m) (N : News g L s.heap news) (hh : A.handled = none) (hd : A.depth ≤ 400) (hu : A.units ≤ 400)
include X T F N hh hd hu
/-- hsv_to_rgb of a number's name -/
theorem rgb_use (hk : k < 1024) (h : ∀ D h' tk t, s.toks ≤ tk → Fr g L h' m → News g L h' ((D, tupOf (flts (col k) t) 0) :: news) → AllNeq D news →
      VorF s.toks tk (col k).1 t.1 (nm k).2.2 t3 → VorF s.toks tk (col k).2.1 t.2.1 (nm k).2.2 t3 → VorF s.toks tk (col k).2.2 t.2.2 (nm k).2.2 t3 → Q (.ref D) { s with heap := h', toks := tk }) :
    wpAny (model PySem.Challenge.rw_mq0226_01.row.prog w) A (call (.ref 35) [.float (nm k).1 t1, .float (nm k).2.1 t2, .float (nm k).2.2 t3]) Q E s := by
  obtain ⟨ht, he⟩ := rgb_nm hk
  obtain ⟨i0, i1⟩ := iOf_bd (show k / 64 < 24 by omega)
  refine weaken hh hd hu (gain (rgb_spec ⟨X, T⟩ (kp_fr F) ht i0 i1 (share_ne k) fun D h' tk t kp hD hf v1 v2 v3 hle => ?_))
  rw [he] at hD v1 v2 v3
  obtain ⟨F', N', ne⟩ := news_more F N kp hD hf
  exact h D h' tk t hle F' N' ne v1 v2 v3
/-- hsv_to_rgb half a turn on -/
theorem rgbH_use (hk : k < 1024) (h : ∀ D h' tk t, s.toks ≤ tk → Fr g L h' m → News g L h' ((D, tupOf (flts (col (opp k)) t) 0) :: news) → AllNeq D news →
      VorF s.toks tk (col (opp k)).1 t.1 (nm k).2.2 t3 → VorF s.toks tk (col (opp k)).2.1 t.2.1 (nm k).2.2 t3 → VorF s.toks tk (col (opp k)).2.2 t.2.2 (nm k).2.2 t3 → Q (.ref D) { s with heap := h', toks := tk }) :
    wpAny (model PySem.Challenge.rw_mq0226_01.row.prog w) A (call (.ref 35) [.float (Float64.add (nm k).1 4602678819172646912) t1, .float (nm k).2.1 t2, .float (nm k).2.2 t3]) Q E s := by
  obtain ⟨ht, he⟩ := rgb_half hk
  obtain ⟨i0, i1⟩ := iOf_bd (show k / 64 + 8 < 24 by omega)
  refine weaken hh hd hu (gain (rgb_spec ⟨X, T⟩ (kp_fr F) ht i0 i1 (share_ne k) fun D h' tk t kp hD hf v1 v2 v3 hle => ?_))
  rw [he] at hD v1 v2 v3
  obtain ⟨F', N', ne⟩ := news_more F N kp hD hf
  exact h D h' tk t hle F' N' ne v1 v2 v3
/-- rgb_to_hsv of a number's colour -/
theorem hsv_use (hk : k < 1024) (h : ∀ D h' tk t, s.toks ≤ tk → Fr g L h' m → News g L h' ((D, tupOf (flts (nm k) t) 0) :: news) → AllNeq D news →
      Fsh s.toks tk t.1 → Fsh s.toks tk t.2.1 → OneOf (nm k).2.2 t.2.2 (col k).1 t1 (col k).2.1 t2 (col k).2.2 t3 → Q (.ref D) { s with heap := h', toks := tk }) :
    wpAny (model PySem.Challenge.rw_mq0226_01.row.prog w) A (call (.ref 28) [.float (col k).1 t1, .float (col k).2.1 t2, .float (col k).2.2 t3]) Q E s := by
  obtain ⟨o1, o2, o3, _⟩ := ok_col hk
  refine weaken hh hd hu (gain (hsv_spec ⟨X, T⟩ (kp_fr F) o1 o2 o3 fun D h' tk t kp hD hf v1 v2 v3 hle => ?_))
  rw [hsv_col hk] at hD v3
  obtain ⟨F', N', ne⟩ := news_more F N kp hD hf
  exact h D h' tk t hle F' N' ne v1 v2 v3
/-- rgb_to_hls of a number's colour: its light -/
theorem hls_use (hk : k < 1024) (h : ∀ D h' tk v1 v3 t2, s.toks ≤ tk → Fr g L h' m → News g L h' ((D, tupOf [v1, .float (lightOf (col k).1 (col k).2.1 (col k).2.2) t2, v3] 0) :: news) → AllNeq D news → Q (.ref D) { s with heap := h', toks := tk }) :
    wpAny (model PySem.Challenge.rw_mq0226_01.row.prog w) A (call (.ref 21) [.float (col k).1 t1, .float (col k).2.1 t2, .float (col k).2.2 t3]) Q E s := by
  obtain ⟨o1, o2, o3, o4, o5⟩ := ok_col hk
  refine weaken hh hd hu (gain (hls_spec ⟨X, T⟩ (kp_fr F) o1 o4 o3 o5 fun D h' tk v1 v3 t2 kp hD hf hle => ?_))
  obtain ⟨F', N', ne⟩ := news_more F N kp hD hf
  exact h D h' tk v1 v3 t2 hle F' N' ne
/-- _law_name -/
theorem name_use {n : Int} (hn : n = (k : Int)) (hk : k < 1024) (h : ∀ D h' tk t, s.toks ≤ tk → Fr g L h' m → News g L h' ((D, tupOf (flts (nm k) t) 0) :: news) → AllNeq D news →
      Fsh s.toks tk t.1 → Fsh s.toks tk t.2.1 → Fsh s.toks tk t.2.2 → Q (.ref D) { s with heap := h', toks := tk }) :
    wpAny (model PySem.Challenge.rw_mq0226_01.row.prog w) A (call (.ref 84) [.int n t1]) Q E s := by
  subst hn
  refine weaken hh hd hu (gain (name_spec ⟨X, T⟩ (kp_fr F) (by omega) (by omega) fun D h' tk t kp hD hf v1 v2 v3 hle => ?_))
  obtain ⟨F', N', ne⟩ := news_more F N kp hD hf
  exact h D h' tk t hle F' N' ne v1 v2 v3
/-- _law_colour -/
theorem colour_use {n : Int} (hn : n = (k : Int)) (hk : k < 1024) (h : ∀ D h' tk t, s.toks ≤ tk → Fr g L h' m → News g L h' ((D, tupOf (flts (col k) t) 0) :: news) → AllNeq D news →
      Fsh s.toks tk t.1 → Fsh s.toks tk t.2.1 → Fsh s.toks tk t.2.2 → Q (.ref D) { s with heap := h', toks := tk }) :
    wpAny (model PySem.Challenge.rw_mq0226_01.row.prog w) A (call (.ref 91) [.int n t1]) Q E s := by
  subst hn
  refine weaken hh hd hu (gain (colour_spec ⟨X, T⟩ (kp_fr F) (by omega) (by omega) fun D h' tk t kp hD hf v1 v2 v3 hle => ?_))
  obtain ⟨F', N', ne⟩ := news_more F N kp hD hf
  exact h D h' tk t hle F' N' ne v1 v2 v3
end
end Mine
end -- U1
section -- B2
theorem Mine.calm_B2 : True := by
  w_top off
  trivial
open PySem PySem.W PySem.Calls PyProof.Rows
set_option Elab.async false
set_option maxRecDepth 100000
namespace Mine
/-- a call of a def with cells that changes nothing and raises nothing -/
theorem call_ruleC {prog : Program} {w : World} {d u : Nat} {E : Value → Shared → Prop} {s : Shared} {K : Frag} {p : Program} {loose : List Str} {mean : ExcName → Option Value} {mg mb : Str → Option Value}
    {name qual : Str} {params : Arguments} {body : List Stmt} {scope : Scope} {dV kV doc pm cdv ct oc : Value} {an od : Option Addr} {osl : Array (Option Value)} {f : Addr} {args : List Value} {binds : List (Str × Value)}
    {Q : Value → Shared → Prop} {b : Heap} (news : List (Addr × Obj))
    (X : K.In b) (T : Top p loose mean mg mb b) (hb : Kp [] b s.heap) (hN : ∀ q ∈ news, s.heap.get? q.1 = some q.2 ∧ b.get? q.1 = none)
    (ho : K.lookup f = some ⟨oc, od, .func (fnOf name qual params body scope dV kV doc pm an cdv ct), osl⟩) (hcd : codeIn K cdv qual = true) (hroom : d < recursionLimit)
    (hbind : BindsTo s (fnOf name qual params body scope dV kV doc pm an cdv ct) ⟨args, []⟩ binds)
    (hkind : (binds.all fun y => scope.names.lookup y.1 == some .local || scope.names.lookup y.1 == some .cell) = true) (hnd : ((cellsFrom 0 scope.names []).map (·.1)).Nodup)
    (h : ∀ g L' h₁ tk cells, s.toks ≤ tk → Fr g L' h₁ (bindL (envOfC qual scope L' f cdv).kindOf binds fun _ => none) → News g L' h₁ (cells ++ news) →
      CellsAre (bindC (envOfC qual scope L' f cdv).kindOf binds fun _ => none) (cellsFrom (L' + 1) scope.names []) cells → K.In g → Top p loose mean mg mb g →
      (∀ a o, s.heap.get? a = some o → a ∉ news.map (·.1) → g.get? a = some o) → (∀ q ∈ news, q.1 < L') →
      wpAny (model prog w) ((Ar d u).deeper (envOfC qual scope L' f cdv)) (execs body (envOfC qual scope L' f cdv))
        (fun fl s' => Q (match fl with | .ret v => v | _ => .none) s') (fun _ _ => False) { s with heap := h₁, toks := tk })
    (hco : scope.isCoroutine = false) (hgen : scope.isGenerator = false) (hk : scope.kind = .function) :
    wpAny (model prog w) (Ar d u) (call (.ref f) args) Q E s := by
  have hb' : ∀ a o, b.get? a = some o → s.heap.get? a = some o := fun a o e => hb a o e (by simp)
  have nm : ∀ a o, b.get? a = some o → a ∉ news.map (·.1) := fun a o e q => by
    obtain ⟨p, hp, rfl⟩ := List.mem_map.mp q
    rw [(hN p hp).2] at e; cases e
  have st : ∀ a o, b.get? a = some o → (hideAll s.heap (news.map (·.1))).get? a = some o := fun a o e => hideAll_get _ (hb' a o e) (nm a o e)
  refine wpAny_call (codeAny_call_function (fd := fnOf name qual params body scope dV kV doc pm an cdv ct) hroom (hb' _ _ (X _ _ ho)) rfl hco hgen rfl (codeRec_of (X.keeps hb') hcd) (hbind _ _ _ _ ?_))
  refine gain (wpAny_newFunctionEnv_cells hk (kindsX hkind _) fun env' he s' x hle => ?_)
  subst he
  refine ⟨(T.nolimit.keeps hb').keeps x.toInCall.keep, codeAny_func ?_⟩
  obtain ⟨h₁, tk, rfl, _⟩ := x.done
  have hk₁ := x.toInCall.keep
  obtain ⟨cells, NC, Y⟩ := Cl.news (h₀ := s.heap) (Nat.le_refl _) fun n c hm => ⟨x.cell n c (lookup_of_mem_nodup (cellsFrom_names scope.names 0 (s.heap.objs.size + 1) [] [] rfl ▸ hnd) hm), x.above n c hm⟩
  refine wpAny_mono (h (hideAll s.heap (news.map (·.1))) s.heap.objs.size h₁ tk cells hle ⟨x.toInCall.ns, fun b o e => hk₁ b o (of_hideAll _ e), Nat.le_of_eq (hideAll_size _ _)⟩ (fun p hp => ?_) Y (X.keeps st) (T.keeps st) (fun a o e n => hideAll_get _ e n) (fun p hp => Heap.lt_size (hN p hp).1)) (fun fl s' hl => hl) fun _ _ y => y.elim
  rcases List.mem_append.mp hp with hp | hp
  · refine ⟨(NC p hp).1, (NC p hp).2.1, ?_⟩
    cases q : (hideAll s.heap (news.map (·.1))).get? p.1 with
    | none => rfl
    | some o => have := of_hideAll _ q; rw [(NC p hp).2.2] at this; cases this
  · exact ⟨hk₁ _ _ (hN p hp).1, Nat.ne_of_lt (Heap.lt_size (hN p hp).1), hideAll_none _ (List.mem_map_of_mem hp)⟩
/-- what was tracked and stands as it stood is kept -/
theorem kp_back {g h h' : Heap} {L : Addr} {m : Str → Option Value} {news : List (Addr × Obj)} (hg : ∀ a o, h.get? a = some o → a ∉ news.map (·.1) → g.get? a = some o) (F : Fr g L h' m) (hN : ∀ q ∈ news, h.get? q.1 = some q.2) (hN' : ∀ q ∈ news, h'.get? q.1 = some q.2) : Kp [] h h' := by
  intro a o e _
  by_cases ha : a ∈ news.map (·.1)
  · obtain ⟨q, hq, rfl⟩ := List.mem_map.mp ha
    rw [hN q hq] at e; cases e; exact hN' q hq
  · exact F.keep a o (hg a o e ha)
end Mine
end -- B2
section -- B3
theorem Mine.calm_B3 : True := by
  w_top off
  trivial
open PySem PySem.W PySem.Calls PyProof.Rows
set_option Elab.async false
set_option maxRecDepth 100000
namespace Mine
/-! a list comprehension over a tuple of the ledger -/
def SrcTu (ax : Addr) (its : Array Value) (news : List (Addr × Obj)) : Prop := False ∨ ∃ o, (ax, o) ∈ news ∧ o.cls = .type "tuple" ∧ ∃ n, o.data = .seq its n
theorem SrcTu.tup {h₀ h : Heap} {L ax : Addr} {its : Array Value} {news : List (Addr × Obj)} (x : SrcTu ax its news) (N : News h₀ L h news) : h.IsTuple ax its := by
  rcases x with x | ⟨o, hm, hc, hd⟩
  · exact x.elim
  · exact ⟨o, (N _ hm).1, hc, hd⟩
def CompTu (prog : Program) (w : World) (A : Around) (h₀ : Heap) (L : Addr) (m : Str → Option Value) (env : Env) (elt : Expr) (x : Str) (scope : Scope) (cl : List (Str × Addr)) (Fin : Shared → List Value → List (Addr × Obj) → Prop) (xv : Value) (s₁ : Shared) : Prop :=
  ∃ ax its news, xv = .ref ax ∧ A.handled = none ∧ Fr h₀ L s₁.heap m ∧ News h₀ L s₁.heap news ∧ SrcTu ax its news ∧ its.size ≤ sizeLine ∧
    ∀ s₂ : Shared, (∃ h, s₂ = { s₁ with heap := h }) → LCg.CompRest prog w A h₀ L m env elt x scope cl s₂ (SrcTu ax its) (fun i v => its[i]? = some v) (Fin s₂) its.size 0 [] news
section
variable {prog : Program} {w : World} {A : Around} {E : Value → Shared → Prop} {s : Shared} {h₀ : Heap} {L : Addr} {m : Str → Option Value} {env : Env}
theorem CompTu.ledger {elt : Expr} {x : Str} {scope : Scope} {cl : List (Str × Addr)} {Fin : Shared → List Value → List (Addr × Obj) → Prop} {ax : Addr} {vs : List Value} {k : Nat} {news : List (Addr × Obj)} {s₁ : Shared}
    (hh : A.handled = none) (F : Fr h₀ L s₁.heap m) (N : News h₀ L s₁.heap news) (hm : (ax, tupOf vs k) ∈ news) (hsz : vs.toArray.size ≤ sizeLine)
    (h : ∀ g, LCg.CompRest prog w A h₀ L m env elt x scope cl { s₁ with heap := g } (SrcTu ax vs.toArray) (fun i v => vs.toArray[i]? = some v) (Fin { s₁ with heap := g }) vs.toArray.size 0 [] news) :
    CompTu prog w A h₀ L m env elt x scope cl Fin (.ref ax) s₁ := ⟨ax, vs.toArray, news, rfl, hh, F, N, .inr ⟨_, hm, rfl, _, rfl⟩, hsz, fun _ ⟨g, e⟩ => e ▸ h g⟩
theorem tup_st {ax I : Addr} {its : Array Value} : ∀ i (h h' : Heap) (o : Obj) (nw : List (Addr × Obj)), (h.IsTupleIter I ax i ∧ h.IsTuple ax its) → h.get? I = some o → h'.get? I = some o → (∀ b o, h₀.get? b = some o → h'.get? b = some o) → News h₀ L h' nw → SrcTu ax its nw → (h'.IsTupleIter I ax i ∧ h'.IsTuple ax its) :=
  fun i h h' o nw st e e' _ N S => ⟨by obtain ⟨o', q, r⟩ := st.1; rw [e] at q; cases q; exact ⟨o, e', r⟩, S.tup N⟩
theorem ListComp_Tu {elt iter : Expr} {x : Str} {px : Pos} {scope : Scope} {cl : List (Str × Addr)} {pos : Pos} {Q : Value → Shared → Prop} (_F : Fr h₀ L s.heap m)
    (hclos : closureFor scope env = pure cl) (hcell : ∀ y ∈ scope.names, y.2 ≠ .cell) (hkind : scope.kind = .function)
    (hnames : ∀ y ∈ scope.names, y.2 = .local → scope.names.lookup y.1 = some .local) (hx : scope.names.lookup x = some .local)
    (h : wpAny (model prog w) A (eval iter env) (CompTu prog w A h₀ L m env elt x scope cl (fun s₂ => LCg.FinE h₀ L m s₂ Q)) E s)
    (hs : ∀ x, foldedSetIterable iter env x = pure x := by intro _; rfl) :
    wpAny (model prog w) A (eval (.ListComp elt [⟨.Name x px, iter, [], 0⟩] scope pos) env) Q E s := by
  rw [eval_ListComp]
  refine wpAny_comprehension_free (use := none) rfl hs hclos hkind hnames (wpAny_mono h (fun xv s₁ h₁ => ?_) fun _ _ e => e)
  obtain ⟨ax, its, news, rfl, hh, F, N, S, hsz, R⟩ := h₁
  have hl := S.tup N
  have hlt : ax < s₁.heap.objs.size := by obtain ⟨_, e, _⟩ := hl; exact Heap.lt_size e
  refine wpAny_pyIter_tuple hl ?_
  have up : ∀ b o, s₁.heap.get? b = some o → (s₁.heap.push { cls := .type "tuple_iterator", data := .fields #[.ref ax, .int 0 0] }).get? b = some o := fun b o e => Heap.get?_push_of_some _ e
  refine LCg.block_U (Walks.tuple hh s₁.heap.objs.size ax (Nat.ne_of_lt hlt) its) hsz (fun i h st => by obtain ⟨o, e, _⟩ := st.1; exact ⟨o, e⟩) tup_st hcell hkind hx ⟨⟨_, Heap.get?_push_size _ rfl, rfl, rfl⟩, hl.push _⟩ (fun b hb => ?_)
    (F.keeps up) (N.grown up) (Nat.ne_of_lt F.ns.lt) (next_is_new F) (fun p hp => Nat.ne_of_lt (Heap.lt_size (N p hp).1)) S (R _ ⟨_, rfl⟩) ?_
  · show b < (s₁.heap.push _).objs.size
    rw [Heap.size_push]
    rcases List.mem_cons.mp hb with rfl | hb
    · exact Nat.lt_succ_self _
    · rw [List.mem_singleton.mp hb]; exact Nat.lt_succ_of_lt hlt
  · intro D C h tk m' ys news' F' N' o1 hn hC₀ hD₀ hCL hDL hCD offC fin
    refine ⟨m', hn, fun h'' hs'' => fin D h'' tk (F'.change hs'' hCL hC₀) (fun p hp => ?_) o1⟩
    refine ⟨hs''.extBut _ _ ?_ (N' p hp).1, (N' p hp).2⟩
    rcases List.mem_cons.mp hp with rfl | hp
    · exact Ne.symm hCD
    · exact offC p hp
end
end Mine
end -- B3
section -- G1
theorem Mine.calm_G1 : True := by
  w_top off
  trivial
open PySem PySem.W PySem.Calls PyProof.Rows
set_option Elab.async false
set_option maxRecDepth 100000
namespace Mine
def NZ (t : K3) : Prop := t.1 ≠ 0 ∧ t.2.1 ≠ 0 ∧ t.2.2 ≠ 0
theorem nz_vor {lo hi : Nat} {x v : T3} {t : K3} {q : UInt64} {y : Nat} (v1 : VorF lo hi x.1 t.1 q y) (v2 : VorF lo hi x.2.1 t.2.1 q y) (v3 : VorF lo hi x.2.2 t.2.2 q y) (h : y ≠ 0) (hl : 1 ≤ lo) : NZ t :=
  ⟨fun e => v1.elim (fun r => h (r.2.symm.trans e)) fun r => by have := r.1; rw [e] at this; omega, fun e => v2.elim (fun r => h (r.2.symm.trans e)) fun r => by have := r.1; rw [e] at this; omega, fun e => v3.elim (fun r => h (r.2.symm.trans e)) fun r => by have := r.1; rw [e] at this; omega⟩
theorem nz_fsh {lo hi : Nat} {t : K3} (v1 : Fsh lo hi t.1) (v2 : Fsh lo hi t.2.1) (v3 : Fsh lo hi t.2.2) (hl : 1 ≤ lo) : NZ t :=
  ⟨fun e => by have := v1.1; rw [e] at this; omega, fun e => by have := v2.1; rw [e] at this; omega, fun e => by have := v3.1; rw [e] at this; omega⟩
theorem nz_one {lo hi : Nat} {t u : K3} {p : UInt64} {x : T3} (v1 : Fsh lo hi t.1) (v2 : Fsh lo hi t.2.1) (v3 : OneOf p t.2.2 x.1 u.1 x.2.1 u.2.1 x.2.2 u.2.2) (h : NZ u) (hl : 1 ≤ lo) : NZ t :=
  ⟨fun e => by have := v1.1; rw [e] at this; omega, fun e => by have := v2.1; rw [e] at this; omega, fun e => by
    rcases v3 with ⟨_, r⟩ | ⟨_, r⟩ | ⟨_, r⟩
    · exact h.1 (r.symm.trans e)
    · exact h.2.1 (r.symm.trans e)
    · exact h.2.2 (r.symm.trans e)⟩
section
variable {w : World} {prog : Program} {s : Shared} {Q E : Value → Shared → Prop} {A : Around} {g : Heap} {L a b : Addr} {m : Str → Option Value} {news : List (Addr × Obj)} {x y : T3} {t u : K3} {n k : Nat}
theorem tup_neN (X : (Mine.hd.heap_39 w.params).In g) (F : Fr g L s.heap m) (N : News g L s.heap news) (ma : (a, tupOf (flts x t) n) ∈ news) (mb : (b, tupOf (flts y u) k) ∈ news) (he : teq x y) (h1 : NZ t) (h2 : NZ u) (hu : A.units < cLine) (h : Q (.bool false) s) :
    wpAny (model prog w) A (compareOp .NotEq (.ref a) (.ref b)) Q E s :=
  tup_ne hu (apt_of_teq he h1.1 h1.2.1 h1.2.2 h2.1 h2.2.1 h2.2.2) (booked_of (X.keeps F.keep)) (N _ ma).1 (N _ mb).1 he h
theorem tup_neM {y1 y2 y3 : UInt64} {u1 u2 u3 : Tok} (X : (Mine.hd.heap_39 w.params).In g) (F : Fr g L s.heap m) (N : News g L s.heap news) (ma : (a, tupOf (flts x t) n) ∈ news) (mb : (b, tupOf [.float y1 u1, .float y2 u2, .float y3 u3] k) ∈ news) (he : teq x (y1, y2, y3)) (h1 : NZ t) (h2 : u1 ≠ 0) (h3 : u2 ≠ 0) (h4 : u3 ≠ 0) (hu : A.units < cLine) (h : Q (.bool false) s) :
    wpAny (model prog w) A (compareOp .NotEq (.ref a) (.ref b)) Q E s :=
  tup_neN (y := (y1, y2, y3)) (u := (u1, u2, u3)) X F N ma mb he h1 ⟨h2, h3, h4⟩ hu h
theorem tup_eqN (X : (Mine.hd.heap_39 w.params).In g) (F : Fr g L s.heap m) (N : News g L s.heap news) (ma : (a, tupOf (flts x t) n) ∈ news) (mb : (b, tupOf (flts y u) k) ∈ news) (he : teq x y) (h1 : NZ t) (h2 : NZ u) (hu : A.units < cLine) (h : Q (.bool true) s) :
    wpAny (model prog w) A (compareOp .Eq (.ref a) (.ref b)) Q E s :=
  tup_eq hu (apt_of_teq he h1.1 h1.2.1 h1.2.2 h2.1 h2.2.1 h2.2.2) (booked_of (X.keeps F.keep)) (N _ ma).1 (N _ mb).1 he h
end
theorem mul_two {prog : Program} {w : World} {A : Around} {E Q : Value → Shared → Prop} {s : Shared} {x : UInt64} {t u : Tok} (hA : A.handled = none) (h : Q (.float (Float64.mul (Float64.ofInt 2) x) s.toks) { s with toks := s.toks + 1 }) :
    wpAny (model prog w) A (binaryOp .Mult (.int 2 u) (.float x t)) Q E s := mul_if_sharp hA (fun q => absurd q (by decide +kernel)) fun _ => h
local macro_rules | `(tactic| walk_at "binaryOp Mult int float") => `(tactic| ((with_reducible refine mul_two ?kA ?_); (case kA => k_dflt exact rfl); try dsimp only))
local macro_rules | `(tactic| walk_at "compareOp NotEq ref ref") => `(tactic| (k_here; (with_reducible show wpAny _ _ (compareOp CmpOp.NotEq (Value.ref _) (Value.ref _)) _ _ _); first
  | k_dflt (refine' tup_neN ?k1 ?k2 ?k3 ?ka ?kb ?ke ?n1 ?n2 (Nat.le_of_ble_eq_true rfl) ?_; (case k1 => k_asm); (case k2 => k_asm); (case k3 => k_asm); (case ka => k_mem); (case kb => k_mem); (case ke => with_reducible assumption); (case n1 => with_reducible assumption); (case n2 => with_reducible assumption); k_whole)
  | k_dflt (refine' tup_neM ?k1 ?k2 ?k3 ?ka ?kb ?ke ?n1 ?n2 ?n3 ?n4 (Nat.le_of_ble_eq_true rfl) ?_; (case k1 => k_asm); (case k2 => k_asm); (case k3 => k_asm); (case ka => k_mem); (case kb => k_mem); (case ke => with_reducible assumption); (case n1 => with_reducible assumption); (case n2 => exact Nat.succ_ne_zero _); (case n3 => exact Nat.succ_ne_zero _); (case n4 => exact Nat.succ_ne_zero _); k_whole)
  | refine halt_at ?_))
local macro_rules | `(tactic| walk_at "compareOp Eq ref ref") => `(tactic| (k_here; (with_reducible show wpAny _ _ (compareOp CmpOp.Eq (Value.ref _) (Value.ref _)) _ _ _); first
  | k_dflt (refine' tup_eqN ?k1 ?k2 ?k3 ?ka ?kb ?ke ?n1 ?n2 (Nat.le_of_ble_eq_true rfl) ?_; (case k1 => k_asm); (case k2 => k_asm); (case k3 => k_asm); (case ka => k_mem); (case kb => k_mem); (case ke => with_reducible assumption); (case n1 => with_reducible assumption); (case n2 => with_reducible assumption); k_whole)
  | refine halt_at ?_))
local macro_rules | `(tactic| walk_at "execs cons") => `(tactic| (k_here; (with_reducible refine execs_T ?_); intro tk htk; (try dsimp only at htk); (try dsimp only)))
local macro_rules | `(tactic| walk_at "execs nil") => `(tactic| ((with_reducible refine wpAny_execs_nil ?_); try dsimp only))
local macro_rules | `(tactic| walk_at "TokPost") => `(tactic| ((with_reducible refine tokPost_ ?_); intro htk; (try dsimp only at htk); (try dsimp only)))
local macro_rules | `(tactic| walk_at "call ref") => `(tactic| (k_here; (with_reducible show wpAny _ _ (call (Value.ref 28) [Value.float _ _, Value.float _ _, Value.float _ _]) _ _ _); k_dflt (refine' hsv_use ?k1 ?k2 ?k3 ?k4 rfl (Nat.le_of_ble_eq_true rfl) (Nat.le_of_ble_eq_true rfl) ?k5 ?_; (case k1 => k_asm); (case k2 => k_asm); (case k3 => k_asm); (case k4 => k_asm); (case k5 => with_reducible assumption); k_whole); intro D' h' tk' t' hle' F' N' l1 v1' v2' v3'; clear l1; (try dsimp only at hle' v1' v2' v3'); (have nz' := nz_one v1' v2' v3' (by with_reducible assumption) (by omega)); clear v1' v2' v3'; (try k_sweep)))
local macro_rules | `(tactic| walk_at "call ref") => `(tactic| (k_here; (with_reducible show wpAny _ _ (call (Value.ref 21) [Value.float _ _, Value.float _ _, Value.float _ _]) _ _ _); k_dflt (refine' hls_use ?k1 ?k2 ?k3 ?k4 rfl (Nat.le_of_ble_eq_true rfl) (Nat.le_of_ble_eq_true rfl) ?k5 ?_; (case k1 => k_asm); (case k2 => k_asm); (case k3 => k_asm); (case k4 => k_asm); (case k5 => with_reducible assumption); k_whole); intro D' h' tk' v1' v3' t' hle' F' N' l1; clear l1; (try dsimp only at hle'); (try k_sweep)))
local macro_rules | `(tactic| walk_at "call ref") => `(tactic| (k_here; (with_reducible show wpAny _ _ (call (Value.ref 35) [Value.float (Float64.add _ _) _, Value.float _ _, Value.float _ _]) _ _ _); k_dflt (refine' rgbH_use ?k1 ?k2 ?k3 ?k4 rfl (Nat.le_of_ble_eq_true rfl) (Nat.le_of_ble_eq_true rfl) ?k5 ?_; (case k1 => k_asm); (case k2 => k_asm); (case k3 => k_asm); (case k4 => k_asm); (case k5 => with_reducible assumption); k_whole); intro D' h' tk' t' hle' F' N' l1 v1' v2' v3'; clear l1; (try dsimp only at hle' v1' v2' v3'); (have nz' := nz_vor (v := (0, 0, 0)) v1' v2' v3' (by with_reducible assumption) (by omega)); clear v1' v2' v3'; (try k_sweep)))
local macro_rules | `(tactic| walk_at "call ref") => `(tactic| (k_here; (with_reducible show wpAny _ _ (call (Value.ref 35) [Value.float (Prod.fst _) _, Value.float _ _, Value.float _ _]) _ _ _); k_dflt (refine' rgb_use ?k1 ?k2 ?k3 ?k4 rfl (Nat.le_of_ble_eq_true rfl) (Nat.le_of_ble_eq_true rfl) ?k5 ?_; (case k1 => k_asm); (case k2 => k_asm); (case k3 => k_asm); (case k4 => k_asm); (case k5 => with_reducible assumption); k_whole); intro D' h' tk' t' hle' F' N' l1 v1' v2' v3'; clear l1; (try dsimp only at hle' v1' v2' v3'); (have nz' := nz_vor (v := (0, 0, 0)) v1' v2' v3' (by with_reducible assumption) (by omega)); clear v1' v2' v3'; (try k_sweep)))
local macro_rules | `(tactic| walk_at "call ref") => `(tactic| (k_here; (with_reducible show wpAny _ _ (call (Value.ref 84) [Value.int _ _]) _ _ _); k_dflt (refine' name_use ?k1 ?k2 ?k3 ?k4 rfl (Nat.le_of_ble_eq_true rfl) (Nat.le_of_ble_eq_true rfl) ?k6 ?k5 ?_; (case k1 => k_asm); (case k2 => k_asm); (case k3 => k_asm); (case k4 => k_asm); (case k6 => first | with_reducible rfl | with_reducible assumption); (case k5 => with_reducible assumption); k_whole); intro D' h' tk' t' hle' F' N' l1 v1' v2' v3'; clear l1; (try dsimp only at hle' v1' v2' v3'); (have nz' := nz_fsh v1' v2' v3' (by omega)); clear v1' v2' v3'; (try k_sweep)))
local macro_rules | `(tactic| walk_at "call ref") => `(tactic| (k_here; (with_reducible show wpAny _ _ (call (Value.ref 91) [Value.int _ _]) _ _ _); k_dflt (refine' colour_use ?k1 ?k2 ?k3 ?k4 rfl (Nat.le_of_ble_eq_true rfl) (Nat.le_of_ble_eq_true rfl) ?k6 ?k5 ?_; (case k1 => k_asm); (case k2 => k_asm); (case k3 => k_asm); (case k4 => k_asm); (case k6 => first | with_reducible rfl | with_reducible assumption); (case k5 => with_reducible assumption); k_whole); intro D' h' tk' t' hle' F' N' l1 v1' v2' v3'; clear l1; (try dsimp only at hle' v1' v2' v3'); (have nz' := nz_fsh v1' v2' v3' (by omega)); clear v1' v2' v3'; (try k_sweep)))
local macro_rules | `(tactic| walk_at "eval ListComp") => `(tactic| (k_here; k_dflt (refine ListComp_Tu (by k_asm) (by with_unfolding_all rfl) (by decide) (by rfl) (by decide) (by rfl) ?_)))
local macro_rules | `(tactic| walk_at "CompTu") => `(tactic| (k_here; (try ((with_reducible rename News _ _ _ _ => NN'); (simp only [List.cons_append, List.nil_append] at NN'))); k_dflt (refine CompTu.ledger (by rfl) (by k_asm) (by k_asm) (by k_mem) (Nat.le_of_ble_eq_true rfl) ?_; intro g'; lcg_lit)))
local macro_rules | `(tactic| walk_at "CompRest") => `(tactic| (with_unfolding_all first
  | (refine LCg.CompRest.succ ?_; intro v' I' oI' C' oC' D' m' h' tk' E' hv' hC' hx' F' N' off' ne'; (lcg_open hv'); clear ne')
  | refine LCg.CompRest.zero ?_))
local macro_rules | `(tactic| walk_at "CompEnd") => `(tactic| k_dflt (refine LCg.CompEnd.intro (by k_asm) (by k_asm) _ (fun p hp => hp) (by assumption) ?kS ?_; (case kS => exact Or.inr ⟨_, by k_mem, rfl, _, rfl⟩)))
local macro_rules | `(tactic| walk_at "FinE") => `(tactic| ((unfold LCg.FinE); intro D' h' tk' F' N' o1'; clear o1'; (try simp only [List.nil_append, List.cons_append] at N'); (try dsimp only)))
set_option maxHeartbeats 4000000 in
theorem fair_spec {w : World} {mean : ExcName → Option Value} {mg mb : Str → Option Value} {b : Heap} {s : Shared} {Q E : Value → Shared → Prop} (C : Cx w mean mg mb b) (hb : Kp [] b s.heap) {k : Nat} {a : Addr} {t : K3} {n : Nat} {tn : Tok} (hk : k < 1024)
  (ha : s.heap.get? a = some (tupOf (flts (nm k) t) n)) (ht1 : t.1 ≠ 0) (ht2 : t.2.1 ≠ 0) (ht3 : t.2.2 ≠ 0) (hs : 1 ≤ s.toks) (hba : b.get? a = none)
  (hQ : ∀ h' tk, Kp [] s.heap h' → Q (.bool true) { s with heap := h', toks := tk }) :
  wpAny (model PySem.Challenge.rw_mq0226_01.row.prog w) (Ar 380 350) (call (.ref 96) [.ref a, .int (k : Int) tn]) Q E s := by
  obtain ⟨X₀, T₀⟩ := C
  refine call_ruleC [(a, tupOf (flts (nm k) t) n)] X₀ T₀ hb (by simp; exact ⟨ha, hba⟩) (by k_dflt k_is) (by k_dflt k_is) (by decide) (BindsTo.of_eq rfl) rfl (by decide +kernel) ?_ rfl rfl rfl
  intro g L h₁ tk0 cells htk0 F N Y X T hg hl
  k_cells Y
  (simp only [List.cons_append, List.nil_append] at N)
  (k_lt hl)
  clear hb X₀ T₀
  have hk' : opp k < 1024 := opp_lt
  have nz0 : NZ t := ⟨ht1, ht2, ht3⟩
  have hn2 : ((k : Int) + 512).fmod 1024 = ((opp k : Nat) : Int) := by
    rw [Int.fmod_eq_emod_of_nonneg _ (by decide)]; unfold opp; omega
  have q1 : teq (nm k) (nm k) := feq_nm hk
  have q2 : teq (col k) (col k) := feq_col hk
  have q3 : teq (nm (opp k)) (nm (opp k)) := feq_nm hk'
  have q4 : teq (col (opp k)) (Float64.sub (Float64.mul (Float64.ofInt 2) (lightOf (col k).1 (col k).2.1 (col k).2.2)) (col k).1, Float64.sub (Float64.mul (Float64.ofInt 2) (lightOf (col k).1 (col k).2.1 (col k).2.2)) (col k).2.1, Float64.sub (Float64.mul (Float64.ofInt 2) (lightOf (col k).1 (col k).2.1 (col k).2.2)) (col k).2.2) := by
    have := mirr_col hk
    unfold mirr at this
    rw [this]; exact feq_col hk'
  (try dsimp only)
  (try k_fold)
  w_strict (k_steps)
  all_goals (
    (with_reducible rename News _ _ _ (_ :: _) => NN)
    (with_reducible rename Fr _ _ _ _ => FF)
    refine hQ _ _ (kp_back hg FF (fun q hq => ?_) fun q hq => ?_)
    · rw [List.mem_singleton.mp hq]; exact ha
    · rw [List.mem_singleton.mp hq]; exact (NN _ (by k_mem)).1)
end Mine
end -- G1
section -- S1
theorem Mine.calm_S1 : True := by
  w_top off
  trivial
open PySem PySem.W PySem.Calls PyProof.Rows
set_option Elab.async false
set_option maxRecDepth 100000
namespace Mine
/-! the heap's items -/
structure It where
  a : Addr
  k : Nat
  t : K3
  n : Nat
def it0 : It := ⟨0, 0, (0, 0, 0), 0⟩
def vals (xs : List It) : List Value := xs.map fun x => .ref x.a
def gd (xs : List It) (i : Nat) : It := xs.getD i it0
structure ItOk (h : Heap) (x : It) : Prop where
  at_ : h.get? x.a = some (tupOf (flts (nm x.k) x.t) x.n)
  lt : x.k < 1024
  n1 : x.t.1 ≠ 0
  n2 : x.t.2.1 ≠ 0
  n3 : x.t.2.2 ≠ 0
/-- one token is one value -/
structure Cst (x y : It) : Prop where
  c1 : x.t.1 = y.t.1 → (nm x.k).1 = (nm y.k).1
  c2 : x.t.2.1 = y.t.2.1 → (nm x.k).2.1 = (nm y.k).2.1
  c3 : x.t.2.2 = y.t.2.2 → (nm x.k).2.2 = (nm y.k).2.2
theorem gd_mem {xs : List It} {i : Nat} (h : i < xs.length) : gd xs i ∈ xs := by
  unfold gd; rw [List.getD_eq_getElem?_getD, List.getElem?_eq_getElem h]; exact List.getElem_mem h
theorem vals_at {xs : List It} {i : Nat} (h : i < xs.length) : (vals xs)[i]? = some (.ref (gd xs i).a) := by
  unfold vals gd; rw [List.getElem?_map, List.getD_eq_getElem?_getD, List.getElem?_eq_getElem h]; rfl
theorem vals_len (xs : List It) : (vals xs).length = xs.length := List.length_map ..
theorem vals_set (xs : List It) (i : Nat) (x : It) : (vals xs).set i (.ref x.a) = vals (xs.set i x) := by unfold vals; rw [List.map_set]
theorem apt_it {h : Heap} {x y : It} (hx : ItOk h x) (hy : ItOk h y) (c : Cst x y) : Apt3 (nm x.k) x.t (nm y.k) y.t := by
  have f := feq_nm hx.lt
  exact ⟨⟨hx.n1, hy.n1, fun e => by rw [← c.c1 e]; exact f.1, fun e => by rw [← e]; exact f.1⟩,
    ⟨hx.n2, hy.n2, fun e => by rw [← c.c2 e]; exact f.2.1, fun e => by rw [← e]; exact f.2.1⟩,
    ⟨hx.n3, hy.n3, fun e => by rw [← c.c3 e]; exact f.2.2, fun e => by rw [← e]; exact f.2.2⟩⟩
section
variable {prog : Program} {w : World} {A : Around} {E : Value → Shared → Prop} {s : Shared} {g : Heap} {L l : Addr} {m : Str → Option Value} {xs : List It} {e : Nat} {k : Int} {u : Tok}
theorem item_it {value slice : PySem.Expr} {Q : Value → Shared → Prop} (N : News g L s.heap [(l, W.listOf (vals xs).toArray e)]) (h0 : 0 ≤ k) (h1 : k.toNat < xs.length) (hb : xs.length < 1000) (h : Q (.ref (gd xs k.toNat).a) s)
    (hs : subscripted slice false (.ref l) (.int k u) = operate [.ref l, .int k u] (getItem (.ref l) (.int k u)) := by with_unfolding_all rfl) (hg : ∀ r, letTemporaryGo value (.ref l) r = pure () := by intro _; with_unfolding_all rfl) :
    wpAny (model prog w) A (subscriptTail value slice (.ref l) (.int k u)) Q E s :=
  item_listL ⟨_, (N _ (.head _)).1, rfl, e, rfl⟩ h0 (by omega) (vals_at h1) h hs hg
theorem set_it {x : It} {Q : Unit → Shared → Prop} (F : Fr g L s.heap m) (N : News g L s.heap [(l, W.listOf (vals xs).toArray e)]) (h0 : 0 ≤ k) (h1 : k.toNat < xs.length) (hb : xs.length < 1000)
    (h : ∀ h', Fr g L h' m → News g L h' [(l, W.listOf (vals (xs.set k.toNat x)).toArray e)] → Q () { s with heap := h' }) :
    wpAny (model prog w) A (setItem (.ref l) (.int k u) (.ref x.a)) Q E s := by
  have z := N (l, W.listOf (vals xs).toArray e) (.head _)
  have hl := vals_len xs
  refine ki_setAt z.1 h0 (by omega) (by rw [List.size_toArray]; omega) (h _ (F.change (Heap.SameBut.update ..) z.2.1 z.2.2) (ki_turn (pre := []) (post := []) _ N (by simp) (by simp) ?_ ?_))
  · show (vals xs).toArray.setIfInBounds k.toNat (.ref x.a) = (vals (xs.set k.toNat x)).toArray
    rw [← vals_set]
    apply Array.toList_inj.mp
    simp
  · simp [vals]
theorem lt_it {x y : It} {Q : Value → Shared → Prop} (X : (Mine.hd.heap_39 w.params).In g) (F : Fr g L s.heap m) (hx : ItOk g x) (hy : ItOk g y) (c : Cst x y) (hu : A.units < cLine) (h : Q (.bool (decide (x.k < y.k))) s) :
    wpAny (model prog w) A (compareOp .Lt (.ref x.a) (.ref y.a)) Q E s :=
  tup_lt hu (apt_it hx hy c) (booked_of (X.keeps F.keep)) (F.keep _ _ hx.at_) (F.keep _ _ hy.at_) (by rw [tlt_nm hx.lt hy.lt]; exact h)
theorem rshift_1 {a : Int} {t : Tok} {Q : Value → Shared → Prop} (h : Q (.int (a / 2) s.toks) { s with toks := s.toks + 1 }) : wpAny (model prog w) A (binaryOp .RShift (.int a t) (.int 1 u)) Q E s :=
  rshift_int (by decide) (by rw [show (2 : Int) ^ (1 : Int).toNat = 2 from rfl, Int.fdiv_eq_ediv_of_nonneg _ (by decide)]; exact h)
end
/-- _siftdown's loop and end -/
noncomputable def sdown (xs : List It) (new : It) (pos : Nat) : List It :=
  if pos = 0 then xs.set 0 new
  else if new.k < (gd xs ((pos - 1) / 2)).k then sdown (xs.set pos (gd xs ((pos - 1) / 2))) new ((pos - 1) / 2)
  else xs.set pos new
termination_by pos
decreasing_by omega
end Mine
end -- S1
section -- S2
theorem Mine.calm_S2 : True := by
  w_top off
  trivial
open PySem PySem.W PySem.Calls PyProof.Rows
set_option Elab.async false
set_option maxRecDepth 100000
namespace Mine
theorem it_ne {h : Heap} {x : It} {l : Addr} {its : Array Value} {e : Nat} (hx : ItOk h x) (hl : h.get? l = some (W.listOf its e)) : x.a ≠ l := fun q => by
  have := hx.at_
  rw [q, hl] at this
  have := congrArg Obj.cls (Option.some.inj this)
  simp at this
theorem itOk_g {g h : Heap} {x : It} {l : Addr} {its : Array Value} {e : Nat} (hg : ∀ a o, h.get? a = some o → a ∉ [l] → g.get? a = some o) (hx : ItOk h x) (hl : h.get? l = some (W.listOf its e)) : ItOk g x :=
  ⟨hg _ _ hx.at_ (by simp; exact it_ne hx hl), hx.lt, hx.n1, hx.n2, hx.n3⟩
theorem sdown_step {xs : List It} {new : It} {p : Nat} (h0 : p ≠ 0) (h : new.k < (gd xs ((p - 1) / 2)).k) : sdown xs new p = sdown (xs.set p (gd xs ((p - 1) / 2))) new ((p - 1) / 2) := by
  rw [sdown, if_neg h0, if_pos h]
theorem sdown_end {xs : List It} {new : It} {p : Nat} (h : p = 0 ∨ ¬ new.k < (gd xs ((p - 1) / 2)).k) : sdown xs new p = xs.set p new := by
  rw [sdown]
  by_cases h0 : p = 0
  · rw [if_pos h0, h0]
  · rw [if_neg h0, if_neg (h.resolve_left h0)]
theorem half_eq {p : Nat} (h : p ≠ 0) : ((p : Int) - 1) / 2 = (((p - 1) / 2 : Nat) : Int) := by omega
local macro_rules | `(tactic| walk_at "eval Name") => `(tactic| (k_here; k_dflt (refine' ld ?k1 ?k2 ?_; (case k1 => k_asm); (case k2 => first | exact rfl | assumption); k_whole)))
local macro_rules | `(tactic| walk_at "binaryOp RShift int int") => `(tactic| ((with_reducible refine rshift_1 ?_); try dsimp only))
local macro_rules | `(tactic| walk_at "exec While") => `(tactic| refine halt_at ?_)
local macro_rules | `(tactic| walk_at "exec While Compare cons nil") => `(tactic| refine halt_at ?_)
local macro_rules | `(tactic| walk_at "subscriptTail") => `(tactic| (k_here; (with_reducible show wpAny _ _ (subscriptTail _ _ (Value.ref _) (Value.int _ _)) _ _ _); k_dflt (refine' item_it ?k1 ?k2 ?k3 ?k4 ?_ ?k5 ?k6; (case k1 => k_asm); (case k2 => omega); (case k3 => omega); (case k4 => assumption); (case k5 => with_unfolding_all rfl); (case k6 => intro _; with_unfolding_all rfl); k_whole)))
local macro_rules | `(tactic| walk_at "setItem ref int") => `(tactic| (k_here; k_dflt (refine' set_it ?k1 ?k2 ?k3 ?k4 ?k5 ?_; (case k1 => k_asm); (case k2 => k_asm); (case k3 => omega); (case k4 => omega); (case k5 => assumption); k_whole); intro h' F' N'; (try k_sweep)))
local macro_rules | `(tactic| walk_at "compareOp Lt ref ref") => `(tactic| (k_here; (with_reducible show wpAny _ _ (compareOp CmpOp.Lt (Value.ref _) (Value.ref _)) _ _ _); first
  | k_dflt (refine' lt_it ?k1 ?k2 ?k3 ?k4 ?k5 (Nat.le_of_ble_eq_true rfl) ?_; (case k1 => k_asm); (case k2 => k_asm); (case k3 => assumption); (case k4 => assumption); (case k5 => assumption); k_whole)
  | refine halt_at ?_))
set_option maxHeartbeats 4000000 in
theorem siftdown_spec {w : World} {mean : ExcName → Option Value} {mg mb : Str → Option Value} {b : Heap} {s : Shared} {Q E : Value → Shared → Prop} (C : Cx w mean mg mb b) (hb : Kp [] b s.heap) {xs : List It} {l : Addr} {e p : Nat} {t0 t1 : Tok}
  (hl : s.heap.get? l = some (W.listOf (vals xs).toArray e)) (hbl : b.get? l = none) (hOK : ∀ x ∈ xs, ItOk s.heap x) (hC : ∀ x ∈ xs, ∀ y ∈ xs, Cst x y) (hp : p < xs.length) (hlen : xs.length < 1000)
  (hQ : ∀ h' tk, Kp [l] s.heap h' → h'.get? l = some (W.listOf (vals (sdown xs (gd xs p) p)).toArray e) → Q .none { s with heap := h', toks := tk }) :
  wpAny (model PySem.Challenge.rw_mq0226_01.row.prog w) (Ar 390 380) (call (.ref 70) [.ref l, .int 0 t0, .int (p : Int) t1]) Q E s := by
  obtain ⟨X₀, T₀⟩ := C
  refine call_rule [(l, W.listOf (vals xs).toArray e)] X₀ T₀ hb (by simp; exact ⟨hl, hbl⟩) (by k_dflt k_is) (by k_dflt k_is) (by decide) (BindsTo.of_eq rfl) (locs rfl) ?_ (by decide) rfl rfl rfl
  intro g L h₁ F N X T hg hl'
  clear hb X₀ T₀
  have gOK : ∀ x ∈ xs, ItOk g x := fun x hx => itOk_g hg (hOK x hx) hl
  (try dsimp only)
  (try k_fold)
  w_strict (k_steps)
  show wpAny _ _ _ _ _ _
  refine while_rule (J := fun n s' => ∃ h' tk m' ys p', s' = { s with heap := h', toks := tk } ∧ Fr g L h' m' ∧ News g L h' [(l, W.listOf (vals ys).toArray e)] ∧ m' (Str.ofString "heap") = some (.ref l) ∧ m' (Str.ofString "newitem") = some (.ref (gd xs p).a) ∧
    (∃ t, m' (Str.ofString "startpos") = some (.int 0 t)) ∧ (∃ t, m' (Str.ofString "pos") = some (.int ((p' : Nat) : Int) t)) ∧ n = p' ∧ ys.length = xs.length ∧ p' < xs.length ∧ (∀ y ∈ ys, y ∈ xs) ∧ sdown ys (gd xs p) p' = sdown xs (gd xs p) p) p ?_ ?_
  · exact ⟨_, _, _, xs, p, rfl, by k_asm, by k_asm, rfl, rfl, ⟨_, rfl⟩, ⟨_, rfl⟩, rfl, rfl, hp, fun _ h => h, rfl⟩
  rintro n s' ⟨h', tk, m', ys, p', rfl, F', N', m1, m2, ⟨t2, m3⟩, ⟨t3, m4⟩, rfl, hle, hp', hsub, heq⟩
  k_sweep
  have hlen' : ys.length < 1000 := by omega
  have hq1 : ItOk g (gd xs p) := gOK _ (gd_mem hp)
  have hI : (((n : Nat) : Int) - 1) / 2 < ys.length := by omega
  have hq2 : ItOk g (gd ys (((n : Int) - 1) / 2).toNat) := gOK _ (hsub _ (gd_mem (by omega)))
  have hq3 : Cst (gd xs p) (gd ys (((n : Int) - 1) / 2).toNat) := hC _ (gd_mem hp) _ (hsub _ (gd_mem (by omega)))
  w_strict (k_steps)
  · have hn0 : n ≠ 0 := by omega
    (with_reducible rename News _ _ _ (_ :: _) => NN)
    (with_reducible rename Fr _ _ _ _ => FF)
    (with_reducible rename (gd xs p).k < _ => hkk)
    have eI : (((n : Int) - 1) / 2).toNat = (n - 1) / 2 := by omega
    rw [eI] at hkk
    show ∃ m, m < n ∧ _
    refine ⟨(n - 1) / 2, by omega, _, _, _, ys.set n (gd ys ((n - 1) / 2)), (n - 1) / 2, rfl, FF, ?_, m1, m2, ⟨t2, m3⟩, ⟨_, congrArg (fun i => some (Value.int i _)) (half_eq hn0)⟩, rfl, by rw [List.length_set]; exact hle, by omega, fun y hy => ?_, ?_⟩
    · rw [← eI]; exact NN
    · rcases List.mem_or_eq_of_mem_set hy with q | q
      · exact hsub _ q
      · rw [q]; exact hsub _ (gd_mem (by omega))
    · rw [← heq, sdown_step hn0 hkk]
  · (with_reducible rename ¬ (gd xs p).k < _ => hkk)
    have eI : (((n : Int) - 1) / 2).toNat = (n - 1) / 2 := by omega
    rw [eI] at hkk
    dsimp only [WTurn]
    w_strict (k_steps)
    (with_reducible rename News _ _ _ (_ :: _) => NN)
    (with_reducible rename Fr _ _ _ _ => FF)
    refine hQ _ _ (kp_of hg FF) ?_
    rw [← heq, sdown_end (.inr hkk)]
    exact (NN _ (.head _)).1
  · (with_reducible rename News _ _ _ (_ :: _) => NN)
    (with_reducible rename Fr _ _ _ _ => FF)
    refine hQ _ _ (kp_of hg FF) ?_
    rw [← heq, sdown_end (.inl (by omega))]
    exact (NN _ (.head _)).1
end Mine
end -- S2
section -- S3
theorem Mine.calm_S3 : True := by
  w_top off
  trivial
open PySem PySem.W PySem.Calls PyProof.Rows
set_option Elab.async false
set_option maxRecDepth 100000
namespace Mine
/-- _siftup's loop -/
def supC (xs : List It) (p : Nat) : Nat := if 2 * p + 2 < xs.length ∧ ¬ (gd xs (2 * p + 1)).k < (gd xs (2 * p + 2)).k then 2 * p + 2 else 2 * p + 1
noncomputable def sup (xs : List It) (p : Nat) : List It × Nat :=
  if 2 * p + 1 < xs.length then sup (xs.set p (gd xs (supC xs p))) (supC xs p) else (xs, p)
termination_by xs.length - p
decreasing_by
  rw [List.length_set]; unfold supC; split <;> omega
theorem supC_gt (xs : List It) (p : Nat) : p < supC xs p := by unfold supC; split <;> omega
theorem supC_lt {xs : List It} {p : Nat} (h : 2 * p + 1 < xs.length) : supC xs p < xs.length := by unfold supC; split <;> omega
theorem sup_step {xs : List It} {p : Nat} (h : 2 * p + 1 < xs.length) : sup xs p = sup (xs.set p (gd xs (supC xs p))) (supC xs p) := by rw [sup, if_pos h]
theorem sup_end {xs : List It} {p : Nat} (h : ¬ 2 * p + 1 < xs.length) : sup xs p = (xs, p) := by rw [sup, if_neg h]
noncomputable def siftup (xs : List It) : List It :=
  let r := sup xs 0
  let zs := r.1.set r.2 (gd xs 0)
  sdown zs (gd zs r.2) r.2
section
variable {w : World} {mean : ExcName → Option Value} {mg mb : Str → Option Value} {s : Shared} {Q E : Value → Shared → Prop} {A : Around} {g : Heap} {L l : Addr} {m : Str → Option Value} {xs : List It} {e p : Nat} {t0 t1 : Tok}
theorem siftdown_use (X : (Mine.hd.heap_39 w.params).In g) (T : Top Mine.hd.view_39 (looseW Mine.hd.view_39 []) mean mg mb g) (F : Fr g L s.heap m) (N : News g L s.heap [(l, W.listOf (vals xs).toArray e)]) (hh : A.handled = none) (hd : A.depth ≤ 390) (hu : A.units ≤ 380)
    (hOK : ∀ x ∈ xs, ItOk g x) (hC : ∀ x ∈ xs, ∀ y ∈ xs, Cst x y) (hp : p < xs.length) (hlen : xs.length < 1000)
    (h : ∀ h' tk, s.toks ≤ tk → Fr g L h' m → News g L h' [(l, W.listOf (vals (sdown xs (gd xs p) p)).toArray e)] → Q .none { s with heap := h', toks := tk }) :
    wpAny (model PySem.Challenge.rw_mq0226_01.row.prog w) A (call (.ref 70) [.ref l, .int 0 t0, .int (p : Int) t1]) Q E s := by
  have z := N _ (.head _)
  refine weaken hh hd hu (gain (siftdown_spec ⟨X, T⟩ (kp_fr F) z.1 z.2.2 (fun x hx => ⟨F.keep _ _ (hOK x hx).at_, (hOK x hx).lt, (hOK x hx).n1, (hOK x hx).n2, (hOK x hx).n3⟩) hC hp hlen fun h' tk kp hl' hle => ?_))
  refine h h' tk hle (fr_step (X := [l]) F kp (by simp; exact ⟨z.2.2, z.2.1⟩)) fun q hq => ?_
  rw [List.mem_singleton.mp hq]
  exact ⟨hl', z.2⟩
theorem len_it (N : News g L s.heap [(l, W.listOf (vals xs).toArray e)]) (hb : xs.length < 1000) (h : Q (.int (xs.length : Int) (s.toks + 1)) { s with toks := s.toks + 1 + 1 }) : wpAny (model PySem.Challenge.rw_mq0226_01.row.prog w) A (call (.builtin "len") [.ref l]) Q E s := by
  have z := N _ (.head _)
  refine len_list (items := (vals xs).toArray) ⟨_, z.1, rfl, e, rfl⟩ ?_ ?_
  · rw [List.size_toArray, vals_len]; omega
  · rw [List.size_toArray, vals_len]; exact h
end
local macro_rules | `(tactic| walk_at "eval Name") => `(tactic| (k_here; k_dflt (refine' ld ?k1 ?k2 ?_; (case k1 => k_asm); (case k2 => first | exact rfl | assumption); k_whole)))
local macro_rules | `(tactic| walk_at "exec While") => `(tactic| refine halt_at ?_)
local macro_rules | `(tactic| walk_at "exec While Compare cons nil") => `(tactic| refine halt_at ?_)
local macro_rules | `(tactic| walk_at "call ref") => `(tactic| refine halt_at ?_)
local macro_rules | `(tactic| walk_at "call builtin:len") => `(tactic| (k_here; k_dflt (refine' len_it ?k1 ?k2 ?_; (case k1 => k_asm); (case k2 => assumption); k_whole)))
local macro_rules | `(tactic| walk_at "subscriptTail") => `(tactic| (k_here; (with_reducible show wpAny _ _ (subscriptTail _ _ (Value.ref _) (Value.int _ _)) _ _ _); k_dflt (refine' item_it ?k1 ?k2 ?k3 ?k4 ?_ ?k5 ?k6; (case k1 => k_asm); (case k2 => omega); (case k3 => omega); (case k4 => assumption); (case k5 => with_unfolding_all rfl); (case k6 => intro _; with_unfolding_all rfl); k_whole)))
local macro_rules | `(tactic| walk_at "setItem ref int") => `(tactic| (k_here; k_dflt (refine' set_it ?k1 ?k2 ?k3 ?k4 ?k5 ?_; (case k1 => k_asm); (case k2 => k_asm); (case k3 => omega); (case k4 => omega); (case k5 => assumption); k_whole); intro h' F' N'; (try k_sweep)))
local macro_rules | `(tactic| walk_at "compareOp Lt ref ref") => `(tactic| (k_here; (with_reducible show wpAny _ _ (compareOp CmpOp.Lt (Value.ref _) (Value.ref _)) _ _ _); first
  | k_dflt (refine' lt_it ?k1 ?k2 ?k3 ?k4 ?k5 (Nat.le_of_ble_eq_true rfl) ?_; (case k1 => k_asm); (case k2 => k_asm); (case k3 => assumption); (case k4 => assumption); (case k5 => assumption); k_whole)
  | refine halt_at ?_))
set_option maxHeartbeats 4000000 in
theorem siftup_spec {w : World} {mean : ExcName → Option Value} {mg mb : Str → Option Value} {b : Heap} {s : Shared} {Q E : Value → Shared → Prop} (C : Cx w mean mg mb b) (hb : Kp [] b s.heap) {xs : List It} {l : Addr} {e : Nat} {t0 : Tok}
  (hl : s.heap.get? l = some (W.listOf (vals xs).toArray e)) (hbl : b.get? l = none) (hOK : ∀ x ∈ xs, ItOk s.heap x) (hC : ∀ x ∈ xs, ∀ y ∈ xs, Cst x y) (hp : 0 < xs.length) (hlen : xs.length < 1000)
  (hQ : ∀ h' tk, Kp [l] s.heap h' → h'.get? l = some (W.listOf (vals (siftup xs)).toArray e) → Q .none { s with heap := h', toks := tk }) :
  wpAny (model PySem.Challenge.rw_mq0226_01.row.prog w) (Ar 385 370) (call (.ref 77) [.ref l, .int 0 t0]) Q E s := by
  obtain ⟨X₀, T₀⟩ := C
  refine call_rule [(l, W.listOf (vals xs).toArray e)] X₀ T₀ hb (by simp; exact ⟨hl, hbl⟩) (by k_dflt k_is) (by k_dflt k_is) (by decide) (BindsTo.of_eq rfl) (locs rfl) ?_ (by decide) rfl rfl rfl
  intro g L h₁ F N X T hg hl'
  clear hb X₀ T₀
  have gOK : ∀ x ∈ xs, ItOk g x := fun x hx => itOk_g hg (hOK x hx) hl
  (try dsimp only)
  (try k_fold)
  w_strict (k_steps)
  show wpAny _ _ _ _ _ _
  refine while_rule (J := fun n s' => ∃ h' tk m' ys p', s' = { s with heap := h', toks := tk } ∧ Fr g L h' m' ∧ News g L h' [(l, W.listOf (vals ys).toArray e)] ∧ m' (Str.ofString "heap") = some (.ref l) ∧ m' (Str.ofString "newitem") = some (.ref (gd xs 0).a) ∧
    (∃ t, m' (Str.ofString "startpos") = some (.int 0 t)) ∧ (∃ t, m' (Str.ofString "endpos") = some (.int (xs.length : Int) t)) ∧ (∃ t, m' (Str.ofString "pos") = some (.int ((p' : Nat) : Int) t)) ∧ (∃ t, m' (Str.ofString "childpos") = some (.int (2 * ((p' : Nat) : Int) + 1) t)) ∧
    n = xs.length - p' ∧ ys.length = xs.length ∧ p' < xs.length ∧ (∀ y ∈ ys, y ∈ xs) ∧ sup ys p' = sup xs 0) xs.length ?_ ?_
  · exact ⟨_, _, _, xs, 0, rfl, by k_asm, by k_asm, rfl, rfl, ⟨_, rfl⟩, ⟨_, rfl⟩, ⟨_, rfl⟩, ⟨_, rfl⟩, rfl, rfl, hp, fun _ h => h, rfl⟩
  rintro n s' ⟨h', tk, m', ys, p, rfl, F', N', m1, m2, ⟨t2, m3⟩, ⟨t3, m4⟩, ⟨t4, m5⟩, ⟨t5, m6⟩, rfl, hle, hp', hsub, heq⟩
  k_sweep
  have hlen' : ys.length < 1000 := by omega
  by_cases hr : 2 * p + 2 < ys.length
  · have hq1 : ItOk g (gd ys (2 * (p : Int) + 1).toNat) := gOK _ (hsub _ (gd_mem (by omega)))
    have hq2 : ItOk g (gd ys (2 * (p : Int) + 1 + 1).toNat) := gOK _ (hsub _ (gd_mem (by omega)))
    have hq3 : Cst (gd ys (2 * (p : Int) + 1).toNat) (gd ys (2 * (p : Int) + 1 + 1).toNat) := hC _ (hsub _ (gd_mem (by omega))) _ (hsub _ (gd_mem (by omega)))
    w_strict (k_steps)
    · (with_reducible rename It.k _ < _ => hkk)
      (with_reducible rename News _ _ _ (_ :: _) => NN)
      (with_reducible rename Fr _ _ _ _ => FF)
      have eC : (2 * (p : Int) + 1).toNat = 2 * p + 1 := by omega
      have hsc : supC ys p = 2 * p + 1 := by
        have e1 : (2 * (p : Int) + 1).toNat = 2 * p + 1 := by omega
        have e2 : (2 * (p : Int) + 1 + 1).toNat = 2 * p + 2 := by omega
        rw [e1, e2] at hkk
        unfold supC
        rw [if_neg (fun q => q.2 hkk)]
      show ∃ m, m < _ ∧ _
      refine ⟨xs.length - (2 * p + 1), by omega, _, _, _, ys.set p (gd ys (2 * p + 1)), 2 * p + 1, rfl, FF, ?_, m1, m2, ⟨t2, m3⟩, ⟨t3, m4⟩, ⟨_, congrArg (fun i => some (Value.int i _)) (show 2 * (p : Int) + 1 = ((2 * p + 1 : Nat) : Int) by omega)⟩,
        ⟨_, congrArg (fun i => some (Value.int i _)) (show 2 * (2 * (p : Int) + 1) + 1 = 2 * ((2 * p + 1 : Nat) : Int) + 1 by omega)⟩, rfl, by rw [List.length_set]; exact hle, by omega, fun y hy => ?_, ?_⟩
      · rw [← eC]; exact NN
      · rcases List.mem_or_eq_of_mem_set hy with q | q
        · exact hsub _ q
        · rw [q]; exact hsub _ (gd_mem (by omega))
      · rw [← heq, sup_step (xs := ys) (p := p) (by omega), hsc]
    · (with_reducible rename ¬ It.k _ < _ => hkk)
      (with_reducible rename News _ _ _ (_ :: _) => NN)
      (with_reducible rename Fr _ _ _ _ => FF)
      have eC : (2 * (p : Int) + 1 + 1).toNat = 2 * p + 2 := by omega
      have hsc : supC ys p = 2 * p + 2 := by
        have e1 : (2 * (p : Int) + 1).toNat = 2 * p + 1 := by omega
        have e2 : (2 * (p : Int) + 1 + 1).toNat = 2 * p + 2 := by omega
        rw [e1, e2] at hkk
        unfold supC
        rw [if_pos ⟨hr, hkk⟩]
      show ∃ m, m < _ ∧ _
      refine ⟨xs.length - (2 * p + 2), by omega, _, _, _, ys.set p (gd ys (2 * p + 2)), 2 * p + 2, rfl, FF, ?_, m1, m2, ⟨t2, m3⟩, ⟨t3, m4⟩, ⟨_, congrArg (fun i => some (Value.int i _)) (show 2 * (p : Int) + 1 + 1 = ((2 * p + 2 : Nat) : Int) by omega)⟩,
        ⟨_, congrArg (fun i => some (Value.int i _)) (show 2 * (2 * (p : Int) + 1 + 1) + 1 = 2 * ((2 * p + 2 : Nat) : Int) + 1 by omega)⟩, rfl, by rw [List.length_set]; exact hle, by omega, fun y hy => ?_, ?_⟩
      · rw [← eC]; exact NN
      · rcases List.mem_or_eq_of_mem_set hy with q | q
        · exact hsub _ q
        · rw [q]; exact hsub _ (gd_mem (by omega))
      · rw [← heq, sup_step (xs := ys) (p := p) (by omega), hsc]
  · w_strict (k_steps)
    · skip
      (with_reducible rename News _ _ _ (_ :: _) => NN)
      (with_reducible rename Fr _ _ _ _ => FF)
      have eC : (2 * (p : Int) + 1).toNat = 2 * p + 1 := by omega
      have hsc : supC ys p = 2 * p + 1 := by unfold supC; rw [if_neg (fun q => hr q.1)]
      show ∃ m, m < _ ∧ _
      refine ⟨xs.length - (2 * p + 1), by omega, _, _, _, ys.set p (gd ys (2 * p + 1)), 2 * p + 1, rfl, FF, ?_, m1, m2, ⟨t2, m3⟩, ⟨t3, m4⟩, ⟨_, congrArg (fun i => some (Value.int i _)) (show 2 * (p : Int) + 1 = ((2 * p + 1 : Nat) : Int) by omega)⟩,
        ⟨_, congrArg (fun i => some (Value.int i _)) (show 2 * (2 * (p : Int) + 1) + 1 = 2 * ((2 * p + 1 : Nat) : Int) + 1 by omega)⟩, rfl, by rw [List.length_set]; exact hle, by omega, fun y hy => ?_, ?_⟩
      · rw [← eC]; exact NN
      · rcases List.mem_or_eq_of_mem_set hy with q | q
        · exact hsub _ q
        · rw [q]; exact hsub _ (gd_mem (by omega))
      · rw [← heq, sup_step (xs := ys) (p := p) (by omega), hsc]
    · show wpAny _ _ _ _ _ _
      refine siftdown_use (xs := ys.set p (gd xs 0)) (by k_asm) (by k_asm) (by k_asm) (by k_asm) rfl (Nat.le_of_ble_eq_true rfl) (Nat.le_of_ble_eq_true rfl) ?_ ?_ (by rw [List.length_set]; omega) (by rw [List.length_set]; omega) ?_
      · intro x hx
        rcases List.mem_or_eq_of_mem_set hx with q | q
        · exact gOK _ (hsub _ q)
        · rw [q]; exact gOK _ (gd_mem hp)
      · have hm : ∀ x ∈ ys.set p (gd xs 0), x ∈ xs := fun x hx => by
          rcases List.mem_or_eq_of_mem_set hx with q | q
          · exact hsub _ q
          · rw [q]; exact gd_mem hp
        exact fun x hx y hy => hC x (hm x hx) y (hm y hy)
      intro h2 tk2 hle2 F2 N2
      k_sweep
      (try dsimp only)
      w_strict (k_steps)
      (with_reducible rename News _ _ _ (_ :: _) => NN)
      (with_reducible rename Fr _ _ _ _ => FF)
      refine hQ _ _ (kp_of hg FF) ?_
      unfold siftup
      rw [← heq, sup_end (by omega)]
      exact (NN _ (.head _)).1
end Mine
end -- S3
section -- S4
theorem Mine.calm_S4 : True := by
  w_top off
  trivial
open PySem PySem.W PySem.Calls PyProof.Rows
set_option Elab.async false
set_option maxRecDepth 100000
namespace Mine
section
variable {w : World} {mean : ExcName → Option Value} {mg mb : Str → Option Value} {s : Shared} {Q E : Value → Shared → Prop} {A : Around} {g : Heap} {L l : Addr} {m : Str → Option Value} {xs : List It} {y : It} {e p : Nat} {t0 t1 : Tok} {prog : Program}
theorem append_it (F : Fr g L s.heap m) (N : News g L s.heap [(l, W.listOf (vals xs).toArray e)]) (hb : xs.length < 1000) (h : ∀ h', Fr g L h' m → News g L h' [(l, W.listOf (vals (xs ++ [y])).toArray (e + 1))] → Q .none { s with heap := h' }) :
    wpAny (model prog w) A (call (.builtin "list.append") [.ref l, .ref y.a]) Q E s := by
  refine append_K (its := (vals xs).toArray) (n := e) F N (.head (by simp)) (fun h' F' N' => h h' F' ?_) ?_
  · have e1 : (vals (xs ++ [y])).toArray = (vals xs).toArray.push (.ref y.a) := by unfold vals; simp
    rw [e1]; exact N'
  · rw [List.size_toArray, vals_len]
    have : sizeLine = 16777216 := rfl
    omega
theorem set_itT {T : Addr} {o : Obj} {k : Int} {u : Tok} {x : It} {Q : Unit → Shared → Prop} (F : Fr g L s.heap m) (N : News g L s.heap [(T, o), (l, W.listOf (vals xs).toArray e)]) (h0 : 0 ≤ k) (h1 : k.toNat < xs.length) (hb : xs.length < 1000)
    (h : ∀ h', Fr g L h' m → News g L h' [(l, W.listOf (vals (xs.set k.toNat x)).toArray e)] → Q () { s with heap := h' }) :
    wpAny (model prog w) A (setItem (.ref l) (.int k u) (.ref x.a)) Q E s := set_it F (fun p hp => N p (.tail _ hp)) h0 h1 hb h
theorem pop_it (F : Fr g L s.heap m) (N : News g L s.heap [(l, W.listOf (vals xs).toArray e)]) (hb : 0 < xs.length) (hb' : xs.length < 1000) (h : ∀ h', Fr g L h' m → News g L h' [(l, W.listOf (vals xs.dropLast).toArray (e + 1))] → Q (.ref (gd xs (xs.length - 1)).a) { s with heap := h' }) :
    wpAny (model prog w) A (call (.builtin "list.pop") [.ref l]) Q E s := by
  have e1 : vals xs = vals xs.dropLast ++ [.ref (gd xs (xs.length - 1)).a] := by
    have hne : xs ≠ [] := by intro q; rw [q] at hb; cases hb
    have e0 := List.dropLast_concat_getLast hne
    have e2 : gd xs (xs.length - 1) = xs.getLast hne := by
      unfold gd; rw [List.getD_eq_getElem?_getD, List.getElem?_eq_getElem (by omega), List.getLast_eq_getElem]; rfl
    rw [e2]
    conv => lhs; rw [← e0]
    unfold vals; simp
  refine kl_pop (its := (vals xs).toArray) (n := e) (p := vals xs.dropLast) (y := .ref (gd xs (xs.length - 1)).a) F N ?_ (.head (by simp)) ?_ h
  · rw [e1]; exact kpa_last _ _
  · show (vals xs).length ≤ sizeLine
    rw [vals_len]
    have : sizeLine = 16777216 := rfl
    omega
theorem truthy_it {Q : Bool → Shared → Prop} (N : News g L s.heap [(l, W.listOf (vals xs).toArray e)]) (hb : xs.length < 1000) (h : Q (decide (0 < xs.length)) { s with toks := s.toks + 1 + 1 }) : wpAny (model prog w) A (truthy (.ref l)) Q E s := by
  have z := N _ (.head _)
  refine wpAny_truthy_list (items := (vals xs).toArray) ⟨_, z.1, rfl, e, rfl⟩ ?_ ?_
  · rw [List.size_toArray, vals_len]; omega
  · have e1 : (!(vals xs).toArray.isEmpty) = decide (0 < xs.length) := by
      cases xs with
      | nil => rfl
      | cons a r => simp [vals]
    rw [e1]; exact h
theorem siftup_use (X : (Mine.hd.heap_39 w.params).In g) (T : Top Mine.hd.view_39 (looseW Mine.hd.view_39 []) mean mg mb g) (F : Fr g L s.heap m) (N : News g L s.heap [(l, W.listOf (vals xs).toArray e)]) (hh : A.handled = none) (hd : A.depth ≤ 385) (hu : A.units ≤ 370)
    (hOK : ∀ x ∈ xs, ItOk g x) (hC : ∀ x ∈ xs, ∀ y ∈ xs, Cst x y) (hp : 0 < xs.length) (hlen : xs.length < 1000)
    (h : ∀ h' tk, s.toks ≤ tk → Fr g L h' m → News g L h' [(l, W.listOf (vals (siftup xs)).toArray e)] → Q .none { s with heap := h', toks := tk }) :
    wpAny (model PySem.Challenge.rw_mq0226_01.row.prog w) A (call (.ref 77) [.ref l, .int 0 t0]) Q E s := by
  have z := N _ (.head _)
  refine weaken hh hd hu (gain (siftup_spec ⟨X, T⟩ (kp_fr F) z.1 z.2.2 (fun x hx => ⟨F.keep _ _ (hOK x hx).at_, (hOK x hx).lt, (hOK x hx).n1, (hOK x hx).n2, (hOK x hx).n3⟩) hC hp hlen fun h' tk kp hl' hle => ?_))
  refine h h' tk hle (fr_step (X := [l]) F kp (by simp; exact ⟨z.2.2, z.2.1⟩)) fun q hq => ?_
  rw [List.mem_singleton.mp hq]
  exact ⟨hl', z.2⟩
theorem siftdown_useI {k : Int} (hk : k = (p : Int)) (X : (Mine.hd.heap_39 w.params).In g) (T : Top Mine.hd.view_39 (looseW Mine.hd.view_39 []) mean mg mb g) (F : Fr g L s.heap m) (N : News g L s.heap [(l, W.listOf (vals xs).toArray e)]) (hh : A.handled = none) (hd : A.depth ≤ 390) (hu : A.units ≤ 380)
    (hOK : ∀ x ∈ xs, ItOk g x) (hC : ∀ x ∈ xs, ∀ y ∈ xs, Cst x y) (hp : p < xs.length) (hlen : xs.length < 1000)
    (h : ∀ h' tk, s.toks ≤ tk → Fr g L h' m → News g L h' [(l, W.listOf (vals (sdown xs (gd xs p) p)).toArray e)] → Q .none { s with heap := h', toks := tk }) :
    wpAny (model PySem.Challenge.rw_mq0226_01.row.prog w) A (call (.ref 70) [.ref l, .int 0 t0, .int k t1]) Q E s := by
  subst hk
  exact siftdown_use X T F N hh hd hu hOK hC hp hlen h
end
noncomputable def hpush (xs : List It) (y : It) : List It := sdown (xs ++ [y]) (gd (xs ++ [y]) xs.length) xs.length
noncomputable def hpop (xs : List It) : It × List It := if 0 < xs.dropLast.length then (gd xs.dropLast 0, siftup (xs.dropLast.set 0 (gd xs (xs.length - 1)))) else (gd xs (xs.length - 1), xs.dropLast)
noncomputable def hrep (xs : List It) (y : It) : It × List It := (gd xs 0, siftup (xs.set 0 y))
noncomputable def hpp (xs : List It) (y : It) : It × List It := if 0 < xs.length ∧ (gd xs 0).k < y.k then (gd xs 0, siftup (xs.set 0 y)) else (y, xs)
/-- a list of items, well laid -/
structure Lay (h : Heap) (l : Addr) (xs : List It) (e : Nat) : Prop where
  at_ : h.get? l = some (W.listOf (vals xs).toArray e)
  ok : ∀ x ∈ xs, ItOk h x
  cst : ∀ x ∈ xs, ∀ y ∈ xs, Cst x y
  len : xs.length < 900
local macro_rules | `(tactic| walk_at "call ref") => `(tactic| refine halt_at ?_)
local macro_rules | `(tactic| walk_at "call builtin:len") => `(tactic| (k_here; k_dflt (refine' len_it ?k1 ?k2 ?_; (case k1 => k_asm); (case k2 => first | assumption | (rw [List.length_append, List.length_singleton]; omega)); k_whole)))
local macro_rules | `(tactic| walk_at "call builtin:list.append") => `(tactic| (k_here; k_dflt (refine' append_it ?k1 ?k2 ?k3 ?_; (case k1 => k_asm); (case k2 => k_asm); (case k3 => assumption); k_whole); intro h' F' N'; (try k_sweep)))
local macro_rules | `(tactic| walk_at "call builtin:list.pop") => `(tactic| (k_here; k_dflt (refine' pop_it ?k1 ?k2 ?k3 ?k4 ?_; (case k1 => k_asm); (case k2 => k_asm); (case k3 => assumption); (case k4 => assumption); k_whole); intro h' F' N'; (try k_sweep)))
local macro_rules | `(tactic| walk_at "truthy ref") => `(tactic| (k_here; k_dflt (refine' truthy_it ?k1 ?k2 ?_; (case k1 => k_asm); (case k2 => assumption); k_whole)))
local macro_rules | `(tactic| walk_at "subscriptTail") => `(tactic| (k_here; (with_reducible show wpAny _ _ (subscriptTail _ _ (Value.ref _) (Value.int _ _)) _ _ _); k_dflt (refine' item_it ?k1 ?k2 ?k3 ?k4 ?_ ?k5 ?k6; (case k1 => k_asm); (case k2 => omega); (case k3 => omega); (case k4 => assumption); (case k5 => with_unfolding_all rfl); (case k6 => intro _; with_unfolding_all rfl); k_whole)))
local macro_rules | `(tactic| walk_at "setItem ref int") => `(tactic| (k_here; k_dflt (refine' set_it ?k1 ?k2 ?k3 ?k4 ?k5 ?_; (case k1 => k_asm); (case k2 => k_asm); (case k3 => omega); (case k4 => omega); (case k5 => assumption); k_whole); intro h' F' N'; (try k_sweep)))
local macro_rules | `(tactic| walk_at "setItem ref int") => `(tactic| (k_here; k_dflt (refine' set_itT ?k1 ?k2 ?k3 ?k4 ?k5 ?_; (case k1 => k_asm); (case k2 => k_asm); (case k3 => omega); (case k4 => omega); (case k5 => assumption); k_whole); intro h' F' N'; (try k_sweep)))
local macro_rules | `(tactic| walk_at "compareOp Lt ref ref") => `(tactic| (k_here; (with_reducible show wpAny _ _ (compareOp CmpOp.Lt (Value.ref _) (Value.ref _)) _ _ _); first
  | k_dflt (refine' lt_it ?k1 ?k2 ?k3 ?k4 ?k5 (Nat.le_of_ble_eq_true rfl) ?_; (case k1 => k_asm); (case k2 => k_asm); (case k3 => assumption); (case k4 => assumption); (case k5 => assumption); k_whole)
  | refine halt_at ?_))
set_option maxHeartbeats 4000000 in
theorem push_spec {w : World} {mean : ExcName → Option Value} {mg mb : Str → Option Value} {b : Heap} {s : Shared} {Q E : Value → Shared → Prop} (C : Cx w mean mg mb b) (hb : Kp [] b s.heap) {xs : List It} {y : It} {l : Addr} {e : Nat}
  (H : Lay s.heap l xs e) (hbl : b.get? l = none) (hy : ItOk s.heap y) (hyx : ∀ x ∈ xs, Cst y x ∧ Cst x y) (hyy : Cst y y)
  (hQ : ∀ h' tk e', Kp [l] s.heap h' → h'.get? l = some (W.listOf (vals (hpush xs y)).toArray e') → Q .none { s with heap := h', toks := tk }) :
  wpAny (model PySem.Challenge.rw_mq0226_01.row.prog w) (Ar 375 360) (call (.ref 42) [.ref l, .ref y.a]) Q E s := by
  obtain ⟨X₀, T₀⟩ := C
  obtain ⟨hl, hOK, hC, hlen0⟩ := H
  refine call_rule [(l, W.listOf (vals xs).toArray e)] X₀ T₀ hb (by simp; exact ⟨hl, hbl⟩) (by k_dflt k_is) (by k_dflt k_is) (by decide) (BindsTo.of_eq rfl) (locs rfl) ?_ (by decide) rfl rfl rfl
  intro g L h₁ F N X T hg hl'
  clear hb X₀ T₀
  have hlen : xs.length < 1000 := by omega
  have hm : ∀ x ∈ xs ++ [y], ItOk g x := fun x hx => by
    rcases List.mem_append.mp hx with q | q
    · exact itOk_g hg (hOK x q) hl
    · rw [List.mem_singleton.mp q]; exact itOk_g hg hy hl
  have hc : ∀ x ∈ xs ++ [y], ∀ z ∈ xs ++ [y], Cst x z := fun x hx z hz => by
    rcases List.mem_append.mp hx with q | q <;> rcases List.mem_append.mp hz with r | r
    · exact hC x q z r
    · rw [List.mem_singleton.mp r]; exact (hyx x q).2
    · rw [List.mem_singleton.mp q]; exact (hyx z r).1
    · rw [List.mem_singleton.mp q, List.mem_singleton.mp r]; exact hyy
  (try dsimp only)
  (try k_fold)
  w_strict (k_steps)
  show wpAny _ _ _ _ _ _
  refine siftdown_useI (p := xs.length) (by rw [List.length_append, List.length_singleton]; omega) (by k_asm) (by k_asm) (by k_asm) (by k_asm) rfl (Nat.le_of_ble_eq_true rfl) (Nat.le_of_ble_eq_true rfl) hm hc (by rw [List.length_append, List.length_singleton]; omega) (by rw [List.length_append, List.length_singleton]; omega) ?_
  intro h2 tk2 hle2 F2 N2
  k_sweep
  (try dsimp only)
  w_strict (k_steps)
  (with_reducible rename News _ _ _ (_ :: _) => NN)
  (with_reducible rename Fr _ _ _ _ => FF)
  exact hQ _ _ _ (kp_of hg FF) (NN _ (.head _)).1
theorem mem_set' {xs : List It} {i : Nat} {y z : It} (h : z ∈ xs.set i y) : z ∈ xs ∨ z = y := List.mem_or_eq_of_mem_set h
set_option maxHeartbeats 4000000 in
theorem replace_spec {w : World} {mean : ExcName → Option Value} {mg mb : Str → Option Value} {b : Heap} {s : Shared} {Q E : Value → Shared → Prop} (C : Cx w mean mg mb b) (hb : Kp [] b s.heap) {xs : List It} {y : It} {l : Addr} {e : Nat}
  (H : Lay s.heap l xs e) (hbl : b.get? l = none) (hne : 0 < xs.length) (hy : ItOk s.heap y) (hyx : ∀ x ∈ xs, Cst y x ∧ Cst x y) (hyy : Cst y y)
  (hQ : ∀ h' tk e', Kp [l] s.heap h' → h'.get? l = some (W.listOf (vals (hrep xs y).2).toArray e') → Q (.ref (hrep xs y).1.a) { s with heap := h', toks := tk }) :
  wpAny (model PySem.Challenge.rw_mq0226_01.row.prog w) (Ar 375 360) (call (.ref 56) [.ref l, .ref y.a]) Q E s := by
  obtain ⟨X₀, T₀⟩ := C
  obtain ⟨hl, hOK, hC, hlen0⟩ := H
  refine call_rule [(l, W.listOf (vals xs).toArray e)] X₀ T₀ hb (by simp; exact ⟨hl, hbl⟩) (by k_dflt k_is) (by k_dflt k_is) (by decide) (BindsTo.of_eq rfl) (locs rfl) ?_ (by decide) rfl rfl rfl
  intro g L h₁ F N X T hg hl'
  clear hb X₀ T₀
  have hlen : xs.length < 1000 := by omega
  have hm : ∀ x ∈ xs.set 0 y, ItOk g x := fun x hx => by
    rcases mem_set' hx with q | q
    · exact itOk_g hg (hOK x q) hl
    · rw [q]; exact itOk_g hg hy hl
  have hc : ∀ x ∈ xs.set 0 y, ∀ z ∈ xs.set 0 y, Cst x z := fun x hx z hz => by
    rcases mem_set' hx with q | q <;> rcases mem_set' hz with r | r
    · exact hC x q z r
    · rw [r]; exact (hyx x q).2
    · rw [q]; exact (hyx z r).1
    · rw [q, r]; exact hyy
  (try dsimp only)
  (try k_fold)
  w_strict (k_steps)
  show wpAny _ _ _ _ _ _
  refine siftup_use (xs := xs.set 0 y) (by k_asm) (by k_asm) (by k_asm) (by k_asm) rfl (Nat.le_of_ble_eq_true rfl) (Nat.le_of_ble_eq_true rfl) hm hc (by rw [List.length_set]; omega) (by rw [List.length_set]; omega) ?_
  intro h2 tk2 hle2 F2 N2
  k_sweep
  (try dsimp only)
  w_strict (k_steps)
  (with_reducible rename News _ _ _ (_ :: _) => NN)
  (with_reducible rename Fr _ _ _ _ => FF)
  exact hQ _ _ _ (kp_of hg FF) (NN _ (.head _)).1
set_option maxHeartbeats 4000000 in
theorem pop_spec {w : World} {mean : ExcName → Option Value} {mg mb : Str → Option Value} {b : Heap} {s : Shared} {Q E : Value → Shared → Prop} (C : Cx w mean mg mb b) (hb : Kp [] b s.heap) {xs : List It} {l : Addr} {e : Nat}
  (H : Lay s.heap l xs e) (hbl : b.get? l = none) (hne : 0 < xs.length)
  (hQ : ∀ h' tk e', Kp [l] s.heap h' → h'.get? l = some (W.listOf (vals (hpop xs).2).toArray e') → Q (.ref (hpop xs).1.a) { s with heap := h', toks := tk }) :
  wpAny (model PySem.Challenge.rw_mq0226_01.row.prog w) (Ar 375 360) (call (.ref 49) [.ref l]) Q E s := by
  obtain ⟨X₀, T₀⟩ := C
  obtain ⟨hl, hOK, hC, hlen0⟩ := H
  refine call_rule [(l, W.listOf (vals xs).toArray e)] X₀ T₀ hb (by simp; exact ⟨hl, hbl⟩) (by k_dflt k_is) (by k_dflt k_is) (by decide) (BindsTo.of_eq rfl) (locs rfl) ?_ (by decide) rfl rfl rfl
  intro g L h₁ F N X T hg hl'
  clear hb X₀ T₀
  have hlen : xs.length < 1000 := by omega
  have hlen2 : xs.dropLast.length < 1000 := by rw [List.length_dropLast]; omega
  have hi : ∀ x ∈ xs.dropLast.set 0 (gd xs (xs.length - 1)), x ∈ xs := fun x hx => by
    rcases mem_set' hx with q | q
    · exact (List.dropLast_sublist xs).subset q
    · rw [q]; exact gd_mem (by omega)
  have hm : ∀ x ∈ xs.dropLast.set 0 (gd xs (xs.length - 1)), ItOk g x := fun x hx => itOk_g hg (hOK x (hi x hx)) hl
  have hc : ∀ x ∈ xs.dropLast.set 0 (gd xs (xs.length - 1)), ∀ z ∈ xs.dropLast.set 0 (gd xs (xs.length - 1)), Cst x z := fun x hx z hz => hC x (hi x hx) z (hi z hz)
  (try dsimp only)
  (try k_fold)
  w_strict (k_steps)
  · show wpAny _ _ _ _ _ _
    refine siftup_use (xs := xs.dropLast.set 0 (gd xs (xs.length - 1))) (by k_asm) (by k_asm) (by k_asm) (by k_asm) rfl (Nat.le_of_ble_eq_true rfl) (Nat.le_of_ble_eq_true rfl) hm hc (by rw [List.length_set]; omega) (by rw [List.length_set]; omega) ?_
    intro h2 tk2 hle2 F2 N2
    k_sweep
    (try dsimp only)
    w_strict (k_steps)
    (with_reducible rename News _ _ _ (_ :: _) => NN)
    (with_reducible rename Fr _ _ _ _ => FF)
    have e0 := (rfl : hpop xs = hpop xs)
    conv at e0 => rhs; unfold hpop; rw [if_pos (by omega)]
    rw [e0] at hQ
    exact hQ _ _ _ (kp_of hg FF) (NN _ (.head _)).1
  · (with_reducible rename News _ _ _ (_ :: _) => NN)
    (with_reducible rename Fr _ _ _ _ => FF)
    have e0 := (rfl : hpop xs = hpop xs)
    conv at e0 => rhs; unfold hpop; rw [if_neg (by omega)]
    rw [e0] at hQ
    exact hQ _ _ _ (kp_of hg FF) (NN _ (.head _)).1
set_option maxHeartbeats 4000000 in
theorem pushpop_spec {w : World} {mean : ExcName → Option Value} {mg mb : Str → Option Value} {b : Heap} {s : Shared} {Q E : Value → Shared → Prop} (C : Cx w mean mg mb b) (hb : Kp [] b s.heap) {xs : List It} {y : It} {l : Addr} {e : Nat}
  (H : Lay s.heap l xs e) (hbl : b.get? l = none) (hy : ItOk s.heap y) (hyx : ∀ x ∈ xs, Cst y x ∧ Cst x y) (hyy : Cst y y)
  (hQ : ∀ h' tk e', Kp [l] s.heap h' → h'.get? l = some (W.listOf (vals (hpp xs y).2).toArray e') → Q (.ref (hpp xs y).1.a) { s with heap := h', toks := tk }) :
  wpAny (model PySem.Challenge.rw_mq0226_01.row.prog w) (Ar 375 360) (call (.ref 63) [.ref l, .ref y.a]) Q E s := by
  obtain ⟨X₀, T₀⟩ := C
  obtain ⟨hl, hOK, hC, hlen0⟩ := H
  refine call_rule [(l, W.listOf (vals xs).toArray e)] X₀ T₀ hb (by simp; exact ⟨hl, hbl⟩) (by k_dflt k_is) (by k_dflt k_is) (by decide) (BindsTo.of_eq rfl) (locs rfl) ?_ (by decide) rfl rfl rfl
  intro g L h₁ F N X T hg hl'
  clear hb X₀ T₀
  have hlen : xs.length < 1000 := by omega
  have hm : ∀ x ∈ xs.set 0 y, ItOk g x := fun x hx => by
    rcases mem_set' hx with q | q
    · exact itOk_g hg (hOK x q) hl
    · rw [q]; exact itOk_g hg hy hl
  have hc : ∀ x ∈ xs.set 0 y, ∀ z ∈ xs.set 0 y, Cst x z := fun x hx z hz => by
    rcases mem_set' hx with q | q <;> rcases mem_set' hz with r | r
    · exact hC x q z r
    · rw [r]; exact (hyx x q).2
    · rw [q]; exact (hyx z r).1
    · rw [q, r]; exact hyy
  by_cases hz : 0 < xs.length
  · have hq1 : ItOk g (gd xs (0 : Int).toNat) := itOk_g hg (hOK _ (gd_mem hz)) hl
    have hq2 : ItOk g y := itOk_g hg hy hl
    have hq3 : Cst (gd xs (0 : Int).toNat) y := (hyx _ (gd_mem hz)).2
    (try dsimp only)
    (try k_fold)
    w_strict (k_steps)
    · (with_reducible rename It.k _ < _ => hkk)
      show wpAny _ _ _ _ _ _
      refine siftup_use (xs := xs.set 0 y) (by k_asm) (by k_asm) (by k_asm) (by k_asm) rfl (Nat.le_of_ble_eq_true rfl) (Nat.le_of_ble_eq_true rfl) hm hc (by rw [List.length_set]; omega) (by rw [List.length_set]; omega) ?_
      intro h2 tk2 hle2 F2 N2
      k_sweep
      (try dsimp only)
      w_strict (k_steps)
      (with_reducible rename News _ _ _ (_ :: _) => NN)
      (with_reducible rename Fr _ _ _ _ => FF)
      have e0 := (rfl : hpp xs y = hpp xs y)
      conv at e0 => rhs; unfold hpp; rw [if_pos ⟨hz, hkk⟩]
      rw [e0] at hQ
      exact hQ _ _ _ (kp_of hg FF) (NN _ (.head _)).1
    · (with_reducible rename ¬ It.k _ < _ => hkk)
      (with_reducible rename News _ _ _ (_ :: _) => NN)
      (with_reducible rename Fr _ _ _ _ => FF)
      have e0 := (rfl : hpp xs y = hpp xs y)
      conv at e0 => rhs; unfold hpp; rw [if_neg (fun q => hkk q.2)]
      rw [e0] at hQ
      exact hQ _ _ _ (kp_of hg FF) (NN _ (.head _)).1
  · (try dsimp only)
    (try k_fold)
    w_strict (k_steps)
    (with_reducible rename News _ _ _ (_ :: _) => NN)
    (with_reducible rename Fr _ _ _ _ => FF)
    have e0 := (rfl : hpp xs y = hpp xs y)
    conv at e0 => rhs; unfold hpp; rw [if_neg (fun q => hz q.1)]
    rw [e0] at hQ
    exact hQ _ _ _ (kp_of hg FF) (NN _ (.head _)).1
end Mine
end -- S4
section -- V1
theorem Mine.calm_V1 : True := by
  w_top off
  trivial
open PySem PySem.W
set_option Elab.async false
set_option maxRecDepth 100000
namespace Mine
/-! the plain law of the heap -/
theorem gd_set {xs : List It} {i j : Nat} {x : It} : gd (xs.set i x) j = if i = j ∧ i < xs.length then x else gd xs j := by
  unfold gd
  rw [List.getD_eq_getElem?_getD, List.getD_eq_getElem?_getD, List.getElem?_set]
  by_cases h : i = j
  · subst h
    by_cases h2 : i < xs.length
    · simp [h2]
    · simp [h2]
  · simp [h]
theorem gd_set_eq {xs : List It} {i : Nat} {x : It} (h : i < xs.length) : gd (xs.set i x) i = x := by rw [gd_set, if_pos ⟨rfl, h⟩]
theorem gd_set_ne {xs : List It} {i j : Nat} {x : It} (h : i ≠ j) : gd (xs.set i x) j = gd xs j := by rw [gd_set, if_neg (fun q => h q.1)]
theorem gd_getElem {xs : List It} {i : Nat} (h : i < xs.length) : gd xs i = xs[i] := by
  unfold gd; rw [List.getD_eq_getElem?_getD, List.getElem?_eq_getElem h]; rfl
theorem swap_perm {ys : List It} {p q : Nat} {x : It} (hp : p < ys.length) (hq : q < ys.length) (hpq : p ≠ q) : List.Perm ((ys.set p (gd ys q)).set q x) (ys.set p x) := by
  have h := List.set_set_perm (as := ys.set p x) (i := p) (j := q) (by rw [List.length_set]; exact hp) (by rw [List.length_set]; exact hq)
  have e1 : (ys.set p x)[q]'(by rw [List.length_set]; exact hq) = gd ys q := by
    rw [gd_getElem hq, List.getElem_set_ne hpq]
  have e2 : (ys.set p x)[p]'(by rw [List.length_set]; exact hp) = x := List.getElem_set_self ..
  rw [e1, e2, List.set_set] at h
  exact h
def Edge (xs : List It) (i : Nat) : Prop := (gd xs ((i - 1) / 2)).k ≤ (gd xs i).k
def Hp (xs : List It) : Prop := ∀ i, 0 < i → i < xs.length → Edge xs i
theorem sdown_ok (pos : Nat) : ∀ (ys : List It) (new : It), pos < ys.length →
    (∀ i, 0 < i → i < ys.length → i ≠ pos → Edge (ys.set pos new) i) →
    (∀ i, 0 < i → i < ys.length → (i - 1) / 2 = pos → 0 < pos → (gd ys ((pos - 1) / 2)).k ≤ (gd ys i).k) →
    Hp (sdown ys new pos) ∧ List.Perm (sdown ys new pos) (ys.set pos new) := by
  induction pos using Nat.strongRecOn with
  | ind pos ih =>
    intro ys new hlt ha hb
    by_cases h : pos = 0 ∨ ¬ new.k < (gd ys ((pos - 1) / 2)).k
    · rw [sdown_end h]
      refine ⟨fun i h0 hi => ?_, .refl _⟩
      rw [List.length_set] at hi
      by_cases hip : i = pos
      · subst hip
        have hk := h.resolve_left (by omega)
        unfold Edge
        rw [gd_set_eq hlt, gd_set_ne (by omega)]
        omega
      · exact ha i h0 hi hip
    · have hp0 : pos ≠ 0 := fun q => h (.inl q)
      have hk : new.k < (gd ys ((pos - 1) / 2)).k := by
        refine Classical.byContradiction fun q => h (.inr q)
      rw [sdown_step hp0 hk]
      have hq : (pos - 1) / 2 < pos := by omega
      generalize hQ : (pos - 1) / 2 = q at *
      have hql : q < ys.length := by omega
      have RR := ih q hq (ys.set pos (gd ys q)) new (by rw [List.length_set]; exact hql) ?hA ?hB
      case hA =>
        intro i h0 hi hiq
        rw [List.length_set] at hi
        unfold Edge
        by_cases hip : i = pos
        · subst hip
          rw [hQ, gd_set_eq (by rw [List.length_set]; exact hql), gd_set_ne (by omega), gd_set_eq hlt]
          omega
        · have e1 := ha i h0 hi hip
          unfold Edge at e1
          rw [gd_set_ne (xs := ys.set pos (gd ys q)) (i := q) (j := i) (by omega), gd_set_ne (xs := ys) (i := pos) (j := i) (by omega)]
          rw [gd_set_ne (xs := ys) (i := pos) (j := i) (by omega)] at e1
          by_cases hpi : (i - 1) / 2 = pos
          · rw [hpi, gd_set_ne (by omega), gd_set_eq hlt]
            exact hb i h0 hi hpi (by omega)
          · by_cases hpq : (i - 1) / 2 = q
            · rw [hpq, gd_set_eq (by rw [List.length_set]; exact hql)]
              rw [hpq, gd_set_ne (by omega)] at e1
              omega
            · rw [gd_set_ne (by omega), gd_set_ne (by omega)]
              rw [gd_set_ne (by omega)] at e1
              exact e1
      case hB =>
        intro i h0 hi hiq hq0
        rw [List.length_set] at hi
        have e2 := ha q (by omega) hql (by omega)
        unfold Edge at e2
        rw [gd_set_ne (by omega), gd_set_ne (by omega)] at e2
        by_cases hip : i = pos
        · subst hip
          rw [gd_set_eq hlt, gd_set_ne (by omega)]
          exact e2
        · have e1 := ha i h0 hi hip
          unfold Edge at e1
          rw [hiq, gd_set_ne (by omega), gd_set_ne (by omega)] at e1
          rw [gd_set_ne (by omega), gd_set_ne (by omega)]
          omega
      obtain ⟨r1, r2⟩ := RR
      exact ⟨r1, r2.trans (swap_perm hlt hql (by omega))⟩
theorem sup_ok (n : Nat) : ∀ (ys : List It) (p : Nat) (x : It), ys.length - p = n → p < ys.length →
    (∀ i, 0 < i → i < ys.length → i ≠ p → (i - 1) / 2 ≠ p → Edge ys i) →
    (∀ i, 0 < i → i < ys.length → (i - 1) / 2 = p → 0 < p → (gd ys ((p - 1) / 2)).k ≤ (gd ys i).k) →
    (sup ys p).1.length = ys.length ∧ (sup ys p).2 < ys.length ∧ ¬ 2 * (sup ys p).2 + 1 < ys.length ∧ List.Perm ((sup ys p).1.set (sup ys p).2 x) (ys.set p x) ∧
      (∀ i, 0 < i → i < ys.length → i ≠ (sup ys p).2 → Edge (sup ys p).1 i) := by
  induction n using Nat.strongRecOn with
  | ind n ih =>
    intro ys p x hn hlt h1 h2
    by_cases h : 2 * p + 1 < ys.length
    · rw [sup_step h]
      have hcg := supC_gt ys p
      have hcl := supC_lt h
      have hcc : (supC ys p - 1) / 2 = p := by unfold supC; split <;> omega
      have hmin : ∀ i, 0 < i → i < ys.length → (i - 1) / 2 = p → (gd ys (supC ys p)).k ≤ (gd ys i).k := by
        intro i h0 hi hip
        have hi2 : i = 2 * p + 1 ∨ i = 2 * p + 2 := by omega
        unfold supC
        split
        · rename_i hc
          rcases hi2 with q | q
          · rw [q]; omega
          · rw [q]; omega
        · rename_i hc
          rcases hi2 with q | q
          · rw [q]; omega
          · subst q
            have : (gd ys (2 * p + 1)).k < (gd ys (2 * p + 2)).k := Classical.byContradiction fun r => hc ⟨hi, r⟩
            omega
      generalize supC ys p = c at *
      have RR := ih (ys.length - c) (by omega) (ys.set p (gd ys c)) c x (by rw [List.length_set]) (by rw [List.length_set]; exact hcl) ?hA ?hB
      case hA =>
        intro i h0 hi hic hpc
        rw [List.length_set] at hi
        unfold Edge
        by_cases hip : i = p
        · subst hip
          rw [gd_set_eq hlt, gd_set_ne (by omega)]
          exact h2 c (by omega) hcl hcc (by omega)
        · rw [gd_set_ne (by omega : p ≠ i)]
          by_cases hpp : (i - 1) / 2 = p
          · rw [hpp, gd_set_eq hlt]
            exact hmin i h0 hi hpp
          · rw [gd_set_ne (by omega)]
            exact h1 i h0 hi hip hpp
      case hB =>
        intro i h0 hi hic hc0
        rw [List.length_set] at hi
        rw [hcc, gd_set_eq hlt, gd_set_ne (by omega)]
        have e := h1 i h0 hi (by omega) (by omega)
        unfold Edge at e
        rw [hic] at e
        exact e
      obtain ⟨r1, r2, r3, r4, r5⟩ := RR
      rw [List.length_set] at r1 r2 r3 r5
      exact ⟨r1, r2, r3, r4.trans (swap_perm hlt hcl (by omega)), r5⟩
    · rw [sup_end h]
      refine ⟨rfl, hlt, h, .refl _, fun i h0 hi hip => ?_⟩
      exact h1 i h0 hi hip (by omega)
theorem siftup_ok {xs : List It} (hne : 0 < xs.length) (h : ∀ i, 0 < i → i < xs.length → (i - 1) / 2 ≠ 0 → Edge xs i) : Hp (siftup xs) ∧ List.Perm (siftup xs) xs := by
  obtain ⟨r1, r2, r3, r4, r5⟩ := sup_ok _ xs 0 (gd xs 0) rfl hne (fun i h0 hi _ hp => h i h0 hi hp) (fun i h0 hi hp q => absurd q (by omega))
  unfold siftup
  dsimp only
  generalize sup xs 0 = r at *
  obtain ⟨ys, p⟩ := r
  dsimp only at *
  have hp : p < ys.length := by omega
  rw [gd_set_eq hp]
  have e0 : (ys.set p (gd xs 0)).set p (gd xs 0) = ys.set p (gd xs 0) := List.set_set ..
  have RR := sdown_ok p (ys.set p (gd xs 0)) (gd xs 0) (by rw [List.length_set]; exact hp) ?hA ?hB
  case hA =>
    intro i h0 hi hip
    rw [List.length_set] at hi
    rw [e0]
    have e := r5 i h0 (by omega) hip
    unfold Edge at e ⊢
    rw [gd_set_ne (by omega), gd_set_ne (by omega)]
    exact e
  case hB =>
    intro i h0 hi hip hp0
    rw [List.length_set] at hi
    omega
  obtain ⟨q1, q2⟩ := RR
  refine ⟨q1, q2.trans ?_⟩
  rw [e0]
  refine r4.trans ?_
  rw [gd_getElem hne, List.set_getElem_self]
theorem root_min {xs : List It} (h : Hp xs) : ∀ i, i < xs.length → (gd xs 0).k ≤ (gd xs i).k := by
  intro i
  induction i using Nat.strongRecOn with
  | ind i ih =>
    intro hi
    by_cases h0 : i = 0
    · rw [h0]; exact Nat.le_refl _
    · have e := h i (by omega) hi
      unfold Edge at e
      exact Nat.le_trans (ih ((i - 1) / 2) (by omega) (by omega)) e
theorem push_ok {xs : List It} {y : It} (h : Hp xs) : Hp (hpush xs y) ∧ List.Perm (hpush xs y) (y :: xs) := by
  unfold hpush
  have hl : xs.length < (xs ++ [y]).length := by rw [List.length_append, List.length_singleton]; omega
  have hg : ∀ i, i < xs.length → gd (xs ++ [y]) i = gd xs i := fun i hi => by
    rw [gd_getElem hi, gd_getElem (by omega), List.getElem_append_left hi]
  have e0 : (xs ++ [y]).set xs.length (gd (xs ++ [y]) xs.length) = xs ++ [y] := by rw [gd_getElem hl, List.set_getElem_self]
  have RR := sdown_ok xs.length (xs ++ [y]) (gd (xs ++ [y]) xs.length) hl ?hA ?hB
  case hA =>
    intro i h0 hi hip
    rw [List.length_append, List.length_singleton] at hi
    rw [e0]
    unfold Edge
    rw [hg i (by omega), hg _ (by omega)]
    exact h i h0 (by omega)
  case hB =>
    intro i h0 hi hip hp0
    rw [List.length_append, List.length_singleton] at hi
    omega
  obtain ⟨q1, q2⟩ := RR
  refine ⟨q1, q2.trans ?_⟩
  rw [e0]
  exact List.perm_append_singleton y xs
theorem rep_ok {xs : List It} {y : It} (h : Hp xs) (hne : 0 < xs.length) : Hp (hrep xs y).2 ∧ List.Perm ((hrep xs y).1 :: (hrep xs y).2) (y :: xs) ∧ (hrep xs y).1 = gd xs 0 := by
  unfold hrep
  dsimp only
  obtain ⟨q1, q2⟩ := siftup_ok (xs := xs.set 0 y) (by rw [List.length_set]; exact hne) (fun i h0 hi hp => by
    rw [List.length_set] at hi
    unfold Edge
    rw [gd_set_ne (by omega), gd_set_ne (by omega)]
    exact h i h0 hi)
  refine ⟨q1, (List.Perm.cons _ q2).trans ?_, rfl⟩
  cases xs with
  | nil => cases hne
  | cons a r => exact List.Perm.swap ..
theorem pop_ok {xs : List It} (h : Hp xs) (hne : 0 < xs.length) : Hp (hpop xs).2 ∧ List.Perm ((hpop xs).1 :: (hpop xs).2) xs ∧ (hpop xs).1 = gd xs 0 := by
  have hnn : xs ≠ [] := by intro q; rw [q] at hne; cases hne
  have e0 := List.dropLast_concat_getLast hnn
  have eL : gd xs (xs.length - 1) = xs.getLast hnn := by rw [gd_getElem (by omega), List.getLast_eq_getElem]
  have hd : ∀ i, i < xs.dropLast.length → gd xs.dropLast i = gd xs i := fun i hi => by
    rw [gd_getElem hi, List.getElem_dropLast, gd_getElem]
  have hld : xs.dropLast.length = xs.length - 1 := List.length_dropLast
  have hpx : List.Perm (xs.getLast hnn :: xs.dropLast) xs := by
    conv => rhs; rw [← e0]
    exact (List.perm_append_singleton _ _).symm
  unfold hpop
  by_cases hc : 0 < xs.dropLast.length
  · rw [if_pos hc]
    dsimp only
    obtain ⟨q1, q2⟩ := siftup_ok (xs := xs.dropLast.set 0 (gd xs (xs.length - 1))) (by rw [List.length_set]; exact hc) (fun i h0 hi hp => by
      rw [List.length_set] at hi
      unfold Edge
      rw [gd_set_ne (by omega), gd_set_ne (by omega), hd _ hi, hd _ (by omega)]
      exact h i h0 (by omega))
    refine ⟨q1, (List.Perm.cons _ q2).trans ?_, hd 0 hc⟩
    rw [eL]
    refine List.Perm.trans ?_ hpx
    generalize xs.dropLast = ds at *
    cases ds with
    | nil => cases hc
    | cons a r => exact List.Perm.swap ..
  · rw [if_neg hc]
    dsimp only
    refine ⟨fun i h0 hi => absurd hi (by omega), ?_, by rw [show xs.length - 1 = 0 by omega]⟩
    rw [eL]; exact hpx
end Mine
end -- V1
section -- D1
theorem Mine.calm_D1 : True := by
  w_top off
  trivial
open PySem PySem.W PySem.Calls PyProof.Rows
set_option Elab.async false
set_option maxRecDepth 100000
namespace Mine
/-! the held ints -/
theorem rem_ints : ∀ {vs : List Value} {ns : List Int} {k : Int}, IntsAre vs ns → k ∈ ns → ∃ j q, kf_at k vs = some j ∧ ki_delL vs j = some q ∧ IntsAre q (ns.erase k)
  | _, _, k, .nil, h => nomatch h
  | _, _, k, .cons n t r, h => by
    by_cases e : n = k
    · subst e
      refine ⟨0, _, ?_, rfl, ?_⟩
      · show cond (isInt n (.int n t)) (some 0) _ = _
        rw [show isInt n (.int n t) = true by simp [isInt]]; rfl
      · rw [List.erase_cons_head]; exact r
    · have h' : k ∈ _ := (List.mem_cons.mp h).resolve_left (fun q => e q.symm)
      obtain ⟨j, q, e1, e2, e3⟩ := rem_ints r h'
      refine ⟨j + 1, .int n t :: q, ?_, ?_, ?_⟩
      · show cond (isInt k (.int n t)) (some 0) _ = _
        rw [show isInt k (.int n t) = false by simp [isInt]; exact e, e1]; rfl
      · show (match ki_delL _ j with | some q => some (Value.int n t :: q) | none => none) = _
        rw [e2]
      · rw [List.erase_cons_tail (by simpa using e)]; exact .cons n t e3
theorem kf_of : ∀ {vs : List Value} {ns : List Int}, IntsAre vs ns → kf_ints vs = true
  | _, _, .nil => rfl
  | _, _, .cons n t (vs := vs) (ns := ns) r => by
    show kf_ints vs = true
    exact kf_of r
theorem ints_app {x : Int} {t : Tok} : ∀ {vs : List Value} {ns : List Int}, IntsAre vs ns → IntsAre (vs ++ [.int x t]) (ns ++ [x])
  | _, _, .nil => .cons x t .nil
  | _, _, .cons n u r => .cons n u (ints_app r)
section
variable {w : World} {mean : ExcName → Option Value} {mg mb : Str → Option Value} {s : Shared} {Q E : Value → Shared → Prop} {A : Around} {g : Heap} {L l ld : Addr} {m : Str → Option Value} {xs : List It} {y : It} {e n p : Nat} {t0 t1 : Tok} {prog : Program}
  {vs : List Value} {ns : List Int} {k : Int} {rest : List (Addr × Obj)}
theorem remove_ints (F : Fr g L s.heap m) (N : News g L s.heap ((ld, W.listOf vs.toArray n) :: rest)) (hr : ∀ p ∈ rest, p.1 ≠ ld) (hi : IntsAre vs ns) (hk : k ∈ ns) (hz : ns.length ≤ 1000)
    (h : ∀ q h', IntsAre q (ns.erase k) → Fr g L h' m → News g L h' ((ld, W.listOf q.toArray (n + 1)) :: rest) → Q .none { s with heap := h' }) :
    wpAny (model prog w) A (call (.builtin "list.remove") [.ref ld, .int k t0]) Q E s := by
  obtain ⟨j, q, e1, e2, e3⟩ := rem_ints hi hk
  refine kf_remove (its := vs.toArray) (j := j) (q := q) F N (kf_of hi) e1 e2 (.head hr) ?_ fun h' F' N' => h q h' e3 F' N'
  show vs.length ≤ sizeLine
  have := hi.length
  have e0 : sizeLine = 16777216 := rfl
  omega
theorem append_ints {x : Int} (F : Fr g L s.heap m) (N : News g L s.heap ((ld, W.listOf vs.toArray n) :: rest)) (hr : ∀ p ∈ rest, p.1 ≠ ld) (hi : IntsAre vs ns) (hz : ns.length ≤ 1000)
    (h : ∀ q h', IntsAre q (ns ++ [x]) → Fr g L h' m → News g L h' ((ld, W.listOf q.toArray (n + 1)) :: rest) → Q .none { s with heap := h' }) :
    wpAny (model prog w) A (call (.builtin "list.append") [.ref ld, .int x t0]) Q E s := by
  refine append_K (its := vs.toArray) (n := n) F N (.head hr) (fun h' F' N' => h (vs ++ [.int x t0]) h' (ints_app hi) F' ?_) ?_
  · rw [show (vs ++ [Value.int x t0]).toArray = vs.toArray.push (.int x t0) by simp]; exact N'
  · rw [List.size_toArray]
    have := hi.length
    have e0 : sizeLine = 16777216 := rfl
    omega
/-- what a contract that changes the list at l alone leaves of a ledger -/
theorem news_l {h h' : Heap} {o o' : Obj} (F : Fr g L h m) (N : News g L h ((l, o) :: rest)) (hr : ∀ p ∈ rest, p.1 ≠ l) (kp : Kp [l] h h') (hl : h'.get? l = some o') : Fr g L h' m ∧ News g L h' ((l, o') :: rest) := by
  have z := N _ (.head _)
  refine ⟨fr_step (X := [l]) F kp (by simp; exact ⟨z.2.2, z.2.1⟩), fun q hq => ?_⟩
  rcases List.mem_cons.mp hq with rfl | hq
  · exact ⟨hl, z.2⟩
  · have P := N q (.tail _ hq)
    exact ⟨kp _ _ P.1 (by simp; exact hr q hq), P.2⟩
variable (X : (Mine.hd.heap_39 w.params).In g) (T : Top Mine.hd.view_39 (looseW Mine.hd.view_39 []) mean mg mb g) (F : Fr g L s.heap m) (N : News g L s.heap ((l, W.listOf (vals xs).toArray e) :: rest)) (hr : ∀ p ∈ rest, p.1 ≠ l) (hh : A.handled = none) (hd : A.depth ≤ 375) (hu : A.units ≤ 360)
  (hOK : ∀ x ∈ xs, ItOk s.heap x) (hC : ∀ x ∈ xs, ∀ y ∈ xs, Cst x y) (hlen : xs.length < 900)
include X T F N hr hh hd hu hOK hC hlen
theorem push_use (hy : ItOk s.heap y) (hyx : ∀ x ∈ xs, Cst y x ∧ Cst x y) (hyy : Cst y y)
    (h : ∀ h' tk e', s.toks ≤ tk → Kp [l] s.heap h' → Fr g L h' m → News g L h' ((l, W.listOf (vals (hpush xs y)).toArray e') :: rest) → Q .none { s with heap := h', toks := tk }) :
    wpAny (model PySem.Challenge.rw_mq0226_01.row.prog w) A (call (.ref 42) [.ref l, .ref y.a]) Q E s := by
  have z := N _ (.head _)
  refine weaken hh hd hu (gain (push_spec ⟨X, T⟩ (kp_fr F) ⟨z.1, hOK, hC, hlen⟩ z.2.2 hy hyx hyy fun h' tk e' kp hl' hle => ?_))
  obtain ⟨F', N'⟩ := news_l F N hr kp hl'
  exact h h' tk e' hle kp F' N'
theorem pop_use (hne : 0 < xs.length)
    (h : ∀ h' tk e', s.toks ≤ tk → Kp [l] s.heap h' → Fr g L h' m → News g L h' ((l, W.listOf (vals (hpop xs).2).toArray e') :: rest) → Q (.ref (hpop xs).1.a) { s with heap := h', toks := tk }) :
    wpAny (model PySem.Challenge.rw_mq0226_01.row.prog w) A (call (.ref 49) [.ref l]) Q E s := by
  have z := N _ (.head _)
  refine weaken hh hd hu (gain (pop_spec ⟨X, T⟩ (kp_fr F) ⟨z.1, hOK, hC, hlen⟩ z.2.2 hne fun h' tk e' kp hl' hle => ?_))
  obtain ⟨F', N'⟩ := news_l F N hr kp hl'
  exact h h' tk e' hle kp F' N'
theorem rep_use (hne : 0 < xs.length) (hy : ItOk s.heap y) (hyx : ∀ x ∈ xs, Cst y x ∧ Cst x y) (hyy : Cst y y)
    (h : ∀ h' tk e', s.toks ≤ tk → Kp [l] s.heap h' → Fr g L h' m → News g L h' ((l, W.listOf (vals (hrep xs y).2).toArray e') :: rest) → Q (.ref (hrep xs y).1.a) { s with heap := h', toks := tk }) :
    wpAny (model PySem.Challenge.rw_mq0226_01.row.prog w) A (call (.ref 56) [.ref l, .ref y.a]) Q E s := by
  have z := N _ (.head _)
  refine weaken hh hd hu (gain (replace_spec ⟨X, T⟩ (kp_fr F) ⟨z.1, hOK, hC, hlen⟩ z.2.2 hne hy hyx hyy fun h' tk e' kp hl' hle => ?_))
  obtain ⟨F', N'⟩ := news_l F N hr kp hl'
  exact h h' tk e' hle kp F' N'
theorem pp_use (hy : ItOk s.heap y) (hyx : ∀ x ∈ xs, Cst y x ∧ Cst x y) (hyy : Cst y y)
    (h : ∀ h' tk e', s.toks ≤ tk → Kp [l] s.heap h' → Fr g L h' m → News g L h' ((l, W.listOf (vals (hpp xs y).2).toArray e') :: rest) → Q (.ref (hpp xs y).1.a) { s with heap := h', toks := tk }) :
    wpAny (model PySem.Challenge.rw_mq0226_01.row.prog w) A (call (.ref 63) [.ref l, .ref y.a]) Q E s := by
  have z := N _ (.head _)
  refine weaken hh hd hu (gain (pushpop_spec ⟨X, T⟩ (kp_fr F) ⟨z.1, hOK, hC, hlen⟩ z.2.2 hy hyx hyy fun h' tk e' kp hl' hle => ?_))
  obtain ⟨F', N'⟩ := news_l F N hr kp hl'
  exact h h' tk e' hle kp F' N'
end
theorem pp_ok {xs : List It} {y : It} (h : Hp xs) : Hp (hpp xs y).2 ∧ List.Perm ((hpp xs y).1 :: (hpp xs y).2) (y :: xs) ∧ (∀ z ∈ y :: xs, (hpp xs y).1.k ≤ z.k) := by
  have hmin : ∀ z ∈ xs, (gd xs 0).k ≤ z.k := fun z hz => by
    obtain ⟨i, hi, rfl⟩ := List.getElem_of_mem hz
    rw [← gd_getElem hi]; exact root_min h i hi
  unfold hpp
  by_cases hc : 0 < xs.length ∧ (gd xs 0).k < y.k
  · rw [if_pos hc]
    obtain ⟨r1, r2, r3⟩ := rep_ok (y := y) h hc.1
    refine ⟨r1, r2, fun z hz => ?_⟩
    rcases List.mem_cons.mp hz with rfl | hz
    · exact Nat.le_of_lt hc.2
    · exact hmin z hz
  · rw [if_neg hc]
    refine ⟨h, .refl _, fun z hz => ?_⟩
    rcases List.mem_cons.mp hz with rfl | hz
    · exact Nat.le_refl _
    · have hl : 0 < xs.length := List.length_pos_of_mem hz
      have : ¬ (gd xs 0).k < y.k := fun q => hc ⟨hl, q⟩
      show y.k ≤ z.k
      exact Nat.le_trans (by omega) (hmin z hz)
end Mine
end -- D1
section -- F1
theorem Mine.calm_F1 : True := by
  w_top off
  trivial
open PySem PySem.W PySem.Calls PyProof.Rows
set_option Elab.async false
set_option maxRecDepth 100000
namespace Mine
theorem pop_empty {prog : Program} {w : World} {A : Around} {E : Value → Shared → Prop} {s : Shared} {l : Addr} {n : Nat} {Q : Value → Shared → Prop} (hA : A.handled = none) (hl : s.heap.get? l = some (W.listOf #[] n))
    (hE : ∀ h' tk e, Heap.NewExc s.heap h' e "IndexError" → E (.ref e) { s with heap := h', toks := tk }) : wpAny (model prog w) A (call (.builtin "list.pop") [.ref l]) Q E s :=
  call_meets PySem.F.slot_list_pop ⟨_, hl, rfl⟩ PySem.F.entry_list_pop (PySem.F.args_list_pop_1 _) (AutoSeq1.list_pop_list_0 l #[] n rfl) ⟨hl, hA, hE⟩
local macro_rules | `(tactic| walk_at "call builtin:list.pop") => `(tactic| (k_here; k_dflt (refine' pop_empty ?k1 ?k2 ?_; (case k1 => exact rfl); (case k2 => exact News.get (by k_asm) (by k_mem)); k_whole); intro h' tk' e' hx'; (try dsimp only)))
set_option maxHeartbeats 8000000 in
theorem refused_use {w : World} {mean : ExcName → Option Value} {mg mb : Str → Option Value} {base g : Heap} {s : Shared} {Q : Value → Shared → Prop} {cn cn₀ : Str} {cs cs₀ : Scope} {L L₀ a a₀ lh ld dn : Addr} {ccd ccd₀ : Value} {m : Str → Option Value} {e e2 n : Nat} {x : T3} {t : K3} {tk0 : Tok} {kd : Int}
  (XB : (Mine.hd.heap_39 w.params).In base) (TB : Top Mine.hd.view_39 (looseW Mine.hd.view_39 []) mean mg mb base) (D : KtsDicts [L₀] g)
  (X : (Mine.hd.heap_39 w.params).In g) (T : Top Mine.hd.view_39 (looseW Mine.hd.view_39 []) mean mg mb g) (B : Below (callerA.deeper (envOf cn₀ { cs₀ with kind := .function } L₀ a₀ ccd₀)) base [envOf cn₀ { cs₀ with kind := .function } L₀ a₀ ccd₀] g) (F : Fr g L s.heap m) (N : News g L s.heap [(lh, W.listOf #[] e), (ld, W.listOf #[] e2), (dn, tupOf (flts x t) n)]) (hne : @Ne Nat lh dn) (hne2 : @Ne Nat lh ld) (hne3 : @Ne Nat ld dn)
  (hQ : ∀ h' tk g', KtsTurn [L₀] g g' → Fr g' L h' m → h'.get? lh = some (W.listOf #[] e) → h'.get? ld = some (W.listOf #[] e2) → Q (.bool true) { s with heap := h', toks := tk }) :
  wpAny (model PySem.Challenge.rw_mq0226_01.row.prog w) ((callerA.deeper (envOf cn₀ { cs₀ with kind := .function } L₀ a₀ ccd₀)).deeper (envOf cn { cs with kind := .function } L a ccd)) (call (.ref 103) [.ref lh, .ref dn, .int kd tk0]) Q (fun _ _ => False) s := by
  (try k_fold)
  w_strict (k_steps)
  all_goals (
    (with_reducible rename News _ L _ _ => NN)
    (with_reducible rename Fr _ L _ _ => FF)
    (with_reducible rename KtsTurn _ g _ => TT)
    exact hQ _ _ _ TT FF (NN.get (by k_mem)) (NN.get (by k_mem)))
end Mine
end -- F1
section -- D2
theorem Mine.calm_D2 : True := by
  w_top off
  trivial
open PySem PySem.W PySem.Calls PyProof.Rows
set_option Elab.async false
set_option maxRecDepth 100000
namespace Mine
/-- a call out of a frame that may be looked at by a raise further in -/
theorem call_ruleB {prog : Program} {w : World} {A₀ A : Around} {E : Value → Shared → Prop} {s : Shared} {K : Frag} {p : Program} {loose : List Str} {mean : ExcName → Option Value} {mg mb : Str → Option Value}
    {name qual : Str} {params : Arguments} {body : List Stmt} {scope : Scope} {dV kV doc pm cdv ct oc : Value} {an od : Option Addr} {osl : Array (Option Value)} {f : Addr} {args : List Value} {binds : List (Str × Value)}
    {Q : Value → Shared → Prop} {base h₀ : Heap} {outer : List Env} {env : Env} {L : Addr} {m : Str → Option Value} (news : List (Addr × Obj))
    (B : Below A₀ base outer h₀) (F : Fr h₀ L s.heap m) (X : K.In h₀) (N : News h₀ L s.heap news) (T : Top p loose mean mg mb h₀) (hA : A.frames = some (env :: outer)) (hf : env.frame = some L) (hke : env.scope.kind = .function)
    (ho : K.lookup f = some ⟨oc, od, .func (fnOf name qual params body scope dV kV doc pm an cdv ct), osl⟩) (hcd : codeIn K cdv qual = true) (hroom : A.depth < recursionLimit)
    (hbind : BindsTo s (fnOf name qual params body scope dV kV doc pm an cdv ct) ⟨args, []⟩ binds) (hloc : ∀ y ∈ binds, scope.names.lookup y.1 = some .local)
    (h : ∀ g L' h₁, Fr h₀ L g m → Fr g L' h₁ (fun y => binds.reverse.lookup y) → News g L' h₁ news → Below A base (env :: outer) g → K.In g → Top p loose mean mg mb g →
      (∀ a o, s.heap.get? a = some o → a ∉ news.map (·.1) → g.get? a = some o) → (∀ a o, g.get? a = some o → s.heap.get? a = some o) → (∀ q ∈ news, q.1 < L') →
      wpAny (model prog w) (A.deeper (envOf qual scope L' f cdv)) (execs body (envOf qual scope L' f cdv))
        (fun fl s' => Q (match fl with | .ret v => v | _ => .none) s') (fun _ _ => False) { s with heap := h₁, toks := s.toks + binds.length })
    (hcell : ∀ x ∈ scope.names, x.2 ≠ .cell) (hco : scope.isCoroutine = false) (hgen : scope.isGenerator = false) (hk : scope.kind = .function) :
    wpAny (model prog w) A (call (.ref f) args) Q E s := by
  obtain ⟨FG, BG, st, _⟩ := groundX (R := fun _ _ => True) B F N hA hf hke
  refine wpAny_call (codeAny_call_def (fd := fnOf name qual params body scope dV kV doc pm an cdv ct) (body := body) (binds := binds) hroom (F.keep _ _ (X _ _ ho)) rfl (T.nolimit.keeps F.keep) (codeRec_of (X.keeps F.keep) hcd) rfl hbind hcell hloc (fun h₁ hns hk₁ => ?_) hco hgen hk)
  exact wpAny_mono (h (hideAll s.heap (news.map (·.1))) s.heap.objs.size h₁ FG ⟨hns, fun a o e => hk₁ a o (of_hideAll _ e), Nat.le_of_eq (hideAll_size _ _)⟩
    (fun p hp => ⟨hk₁ _ _ (N p hp).1, Nat.ne_of_lt (Heap.lt_size (N p hp).1), hideAll_none _ (List.mem_map_of_mem hp)⟩) BG
    (X.keeps (fun b o e => st b o e)) (T.keeps (fun b o e => st b o e)) (fun a o e n => hideAll_get _ e n) (fun a o e => of_hideAll _ e) (fun p hp => Heap.lt_size (N p hp).1)) (fun fl s' hl => hl) fun _ _ y => y.elim
/-- three tokens made between two counts -/
structure TokIn (lo hi : Nat) (t : K3) : Prop where
  a : Fsh lo hi t.1
  b : Fsh lo hi t.2.1
  c : Fsh lo hi t.2.2
theorem TokIn.wide {lo hi lo' hi' : Nat} {t : K3} (h : TokIn lo hi t) (h1 : lo' ≤ lo) (h2 : hi ≤ hi') : TokIn lo' hi' t :=
  ⟨⟨Nat.le_trans h1 h.a.1, Nat.lt_of_lt_of_le h.a.2 h2⟩, ⟨Nat.le_trans h1 h.b.1, Nat.lt_of_lt_of_le h.b.2 h2⟩, ⟨Nat.le_trans h1 h.c.1, Nat.lt_of_lt_of_le h.c.2 h2⟩⟩
theorem cst_new {x y : It} {T hi : Nat} (hx : TokIn 0 T x.t) (hy : TokIn T hi y.t) : Cst y x ∧ Cst x y := by
  have n1 : x.t.1 ≠ y.t.1 := fun e => by have := hx.a.2; have := hy.a.1; rw [e] at *; omega
  have n2 : x.t.2.1 ≠ y.t.2.1 := fun e => by have := hx.b.2; have := hy.b.1; rw [e] at *; omega
  have n3 : x.t.2.2 ≠ y.t.2.2 := fun e => by have := hx.c.2; have := hy.c.1; rw [e] at *; omega
  exact ⟨⟨fun e => absurd e.symm n1, fun e => absurd e.symm n2, fun e => absurd e.symm n3⟩, ⟨fun e => absurd e n1, fun e => absurd e n2, fun e => absurd e n3⟩⟩
theorem cst_self (y : It) : Cst y y := ⟨fun _ => rfl, fun _ => rfl, fun _ => rfl⟩
theorem one_bd {p a b c : UInt64} {y t u v lo hi : Nat} (h : OneOf p y a t b u c v) (h1 : Fsh lo hi t) (h2 : Fsh lo hi u) (h3 : Fsh lo hi v) : Fsh lo hi y := by
  rcases h with ⟨_, r⟩ | ⟨_, r⟩ | ⟨_, r⟩
  · exact ⟨r ▸ h1.1, r ▸ h1.2⟩
  · exact ⟨r ▸ h2.1, r ▸ h2.2⟩
  · exact ⟨r ▸ h3.1, r ▸ h3.2⟩
theorem Fsh.wide {lo hi lo' hi' t : Nat} (h : Fsh lo hi t) (h1 : lo' ≤ lo) (h2 : hi ≤ hi') : Fsh lo' hi' t := ⟨Nat.le_trans h1 h.1, Nat.lt_of_lt_of_le h.2 h2⟩
/-- what holds between two deeds -/
structure Inv (b : Heap) (s : Shared) (lh ld : Addr) (xs : List It) (hd : List Nat) : Prop where
  lay : ∃ e, Lay s.heap lh xs e
  held : ∃ vs e, s.heap.get? ld = some (W.listOf vs.toArray e) ∧ IntsAre vs (hd.map fun (k : Nat) => (k : Int))
  ne : lh ≠ ld
  bh : b.get? lh = none
  bd : b.get? ld = none
  hp : Hp xs
  perm : List.Perm (xs.map It.k) hd
  tok : ∀ x ∈ xs, TokIn 0 s.toks x.t
  pos : 1 ≤ s.toks
  fresh : ∀ x ∈ xs, b.get? x.a = none
end Mine
end -- D2
section -- E1
theorem Mine.calm_E1 : True := by
  w_top off
  trivial
open PySem PySem.W PySem.Calls PyProof.Rows
set_option Elab.async false
set_option maxRecDepth 100000
namespace Mine
/-- a new item beside the old ones -/
structure NewIt (b : Heap) (xs : List It) (h : Heap) (tk : Nat) (y : It) : Prop where
  ok : ItOk h y
  tok : TokIn 0 tk y.t
  fr : b.get? y.a = none
  cst : ∀ x ∈ xs, Cst y x ∧ Cst x y
theorem ItOk.keep {g h : Heap} {x : It} (k : ∀ a o, g.get? a = some o → h.get? a = some o) (hx : ItOk g x) : ItOk h x := ⟨k _ _ hx.at_, hx.lt, hx.n1, hx.n2, hx.n3⟩
theorem itOk_g2 {g h : Heap} {x : It} {l l2 : Addr} {its its2 : Array Value} {e e2 : Nat} (hg : ∀ a o, h.get? a = some o → a ∉ [l2, l] → g.get? a = some o) (hx : ItOk h x) (hl : h.get? l = some (W.listOf its e)) (hl2 : h.get? l2 = some (W.listOf its2 e2)) : ItOk g x :=
  ⟨hg _ _ hx.at_ (by simp; exact ⟨it_ne hx hl2, it_ne hx hl⟩), hx.lt, hx.n1, hx.n2, hx.n3⟩
theorem NewIt.keep {b g h : Heap} {xs : List It} {tk tk' : Nat} {y : It} (n : NewIt b xs g tk y) (k : y.a = y.a → ItOk h y) (ht : tk ≤ tk') : NewIt b xs h tk' y := ⟨k rfl, n.tok.wide (Nat.le_refl _) ht, n.fr, n.cst⟩
theorem tok_nz {lo hi : Nat} {t : K3} (h : TokIn lo hi t) (hp : 1 ≤ lo) : t.1 ≠ 0 ∧ t.2.1 ≠ 0 ∧ t.2.2 ≠ 0 :=
  ⟨fun e => by have := h.a.1; rw [e] at this; omega, fun e => by have := h.b.1; rw [e] at this; omega, fun e => by have := h.c.1; rw [e] at this; omega⟩
/-- where a deed ends -/
theorem deed_end {b g h' : Heap} {s : Shared} {tk : Nat} {L₀ L lh ld : Addr} {m₀ m : Str → Option Value} {xs xs' : List It} {hd hd' : List Nat} {e' e2' : Nat} {q : List Value} {y : It}
  (I : Inv b s lh ld xs hd) (hlen : xs.length < 800) (hg : ∀ a o, s.heap.get? a = some o → a ∉ [ld, lh] → g.get? a = some o) (FG : Fr b L₀ g m₀) (F : Fr g L h' m)
  (hlh : h'.get? lh = some (W.listOf (vals xs').toArray e')) (hld : h'.get? ld = some (W.listOf q.toArray e2')) (hi : IntsAre q (hd'.map fun (k : Nat) => (k : Int))) (hs : s.toks ≤ tk)
  (hmem : ∀ x ∈ xs', x ∈ xs ∨ x = y) (hy : y ∈ xs' → NewIt b xs h' tk y) (hHp : Hp xs') (hperm : List.Perm (xs'.map It.k) hd') (hle : xs'.length ≤ xs.length + 1) :
  Kp [lh, ld, L₀] s.heap h' ∧ Fr b L₀ h' m₀ ∧ Inv b { s with heap := h', toks := tk } lh ld xs' hd' := by
  obtain ⟨⟨e, H⟩, ⟨vs, e2, hvs, hints⟩, hne, hbh, hbd, hHp0, hperm0, htok, hpos, hfr⟩ := I
  have hOK : ∀ x ∈ xs, ItOk h' x := fun x hx => (itOk_g2 hg (H.ok x hx) H.at_ hvs).keep F.keep
  have hall : ∀ x ∈ xs', NewIt b xs h' tk x := fun x hx => by
    rcases hmem x hx with q | q
    · exact ⟨hOK x q, (htok x q).wide (Nat.le_refl _) hs, hfr x q, fun z hz => ⟨H.cst x q z hz, H.cst z hz x q⟩⟩
    · rw [q]; exact hy (q ▸ hx)
  refine ⟨fun a o e hn => F.keep _ _ (hg a o e fun q => hn ?_), fr_step (X := []) FG (kp_fr F) (by simp), ⟨⟨e', ⟨hlh, fun x hx => (hall x hx).ok, fun x hx z hz => ?_, by omega⟩⟩, ⟨q, e2', hld, hi⟩, hne, hbh, hbd, hHp, hperm, fun x hx => (hall x hx).tok, Nat.le_trans hpos hs, fun x hx => (hall x hx).fr⟩⟩
  · simp at q ⊢; rcases q with q | q
    · exact .inr (.inl q)
    · exact .inl q
  · rcases hmem z hz with q | q
    · exact ((hall x hx).cst z q).1
    · rcases hmem x hx with r | r
      · rw [q]; exact ((hy (q ▸ hz)).cst x r).2
      · rw [q, r]; exact cst_self y
theorem deed_fin {b g h' : Heap} {s : Shared} {tk : Nat} {Q : Value → Shared → Prop} {L₀ L lh ld : Addr} {m₀ m : Str → Option Value} {xs xs' : List It} {hd : List Nat} (hd' : List Nat) {e' e2' : Nat} {q : List Value} (y : It)
  (hQ : ∀ h' tk xs' hd', s.toks ≤ tk → Kp [lh, ld, L₀] s.heap h' → Fr b L₀ h' m₀ → Inv b { s with heap := h', toks := tk } lh ld xs' hd' → xs'.length ≤ xs.length + 1 → Q (.bool true) { s with heap := h', toks := tk })
  (I : Inv b s lh ld xs hd) (hlen : xs.length < 800) (hg : ∀ a o, s.heap.get? a = some o → a ∉ [ld, lh] → g.get? a = some o) (FG : Fr b L₀ g m₀) (F : Fr g L h' m)
  (hlh : h'.get? lh = some (W.listOf (vals xs').toArray e')) (hld : h'.get? ld = some (W.listOf q.toArray e2')) (hi : IntsAre q (hd'.map fun (k : Nat) => (k : Int))) (hs : s.toks ≤ tk)
  (hmem : ∀ x ∈ xs', x ∈ xs ∨ x = y) (hy : y ∈ xs' → NewIt b xs h' tk y) (hHp : Hp xs') (hperm : List.Perm (xs'.map It.k) hd') (hle : xs'.length ≤ xs.length + 1) : Q (.bool true) { s with heap := h', toks := tk } := by
  obtain ⟨E1, E2, E3⟩ := deed_end (y := y) I hlen hg FG F hlh hld hi hs hmem hy hHp hperm hle
  exact hQ _ _ _ _ hs E1 E2 E3 hle
section
variable {w : World} {mean : ExcName → Option Value} {mg mb : Str → Option Value} {s : Shared} {Q E : Value → Shared → Prop} {A : Around} {b g : Heap} {L L₀ : Addr} {m m₀ : Str → Option Value} {news : List (Addr × Obj)} {y : It} {M : Int} {tn : Tok}
theorem fair_use (X₀ : (Mine.hd.heap_39 w.params).In b) (T₀ : Top Mine.hd.view_39 (looseW Mine.hd.view_39 []) mean mg mb b) (FG : Fr b L₀ g m₀) (F : Fr g L s.heap m) (N : News g L s.heap news) (hh : A.handled = none) (hd : A.depth ≤ 380) (hu : A.units ≤ 350)
    (hy : ItOk s.heap y) (hb : b.get? y.a = none) (hs : 1 ≤ s.toks) (hM : M = (y.k : Int))
    (h : ∀ h' tk, s.toks ≤ tk → Fr g L h' m → News g L h' news → Q (.bool true) { s with heap := h', toks := tk }) :
    wpAny (model PySem.Challenge.rw_mq0226_01.row.prog w) A (call (.ref 96) [.ref y.a, .int M tn]) Q E s := by
  subst hM
  refine weaken hh hd hu (gain (fair_spec ⟨X₀, T₀⟩ ((kp_fr FG).trans (kp_fr F)) hy.lt hy.at_ hy.n1 hy.n2 hy.n3 hs hb fun h' tk kp hle => ?_))
  exact h h' tk hle (fr_step (X := []) F kp (by simp)) fun p hp => ⟨kp _ _ (N p hp).1 (by simp), (N p hp).2⟩
end
/-- the least of the held numbers is the root's -/
theorem least_root {xs : List It} {hd : List Nat} {M : Int} (hHp : Hp xs) (hp : List.Perm (xs.map It.k) hd) (hne : 0 < xs.length) (hm : M ∈ hd.map fun (k : Nat) => (k : Int)) (hl : ∀ a, a ∈ (hd.map fun (k : Nat) => (k : Int)) → M ≤ a) : M = ((gd xs 0).k : Int) := by
  have h1 : ((gd xs 0).k : Int) ∈ hd.map fun (k : Nat) => (k : Int) := List.mem_map_of_mem (hp.subset (List.mem_map_of_mem (gd_mem hne)))
  have h2 := hl _ h1
  obtain ⟨k, hk, rfl⟩ := List.mem_map.mp hm
  obtain ⟨x, hx, rfl⟩ := List.mem_map.mp (hp.symm.subset hk)
  obtain ⟨i, hi, rfl⟩ := List.getElem_of_mem hx
  have h3 := root_min hHp i hi
  rw [gd_getElem hi] at h3
  omega
theorem map_erase {hd : List Nat} {k : Nat} : (hd.map fun (k : Nat) => (k : Int)).erase (k : Int) = (hd.erase k).map fun (k : Nat) => (k : Int) := by
  induction hd with
  | nil => rfl
  | cons a r ih =>
    rw [List.map_cons, List.erase_cons, List.erase_cons]
    by_cases e : a = k
    · rw [e]; simp
    · rw [if_neg (by simp; omega), if_neg (by simpa using e), List.map_cons, ih]
theorem least_of {zs : List It} {hd : List Nat} {M : Int} {r : It} (hp : List.Perm (zs.map It.k) hd) (hr : r ∈ zs) (hrl : ∀ z ∈ zs, r.k ≤ z.k) (hm : M ∈ hd.map fun (k : Nat) => (k : Int)) (hl : ∀ a, a ∈ (hd.map fun (k : Nat) => (k : Int)) → M ≤ a) : M = (r.k : Int) := by
  have h1 : (r.k : Int) ∈ hd.map fun (k : Nat) => (k : Int) := List.mem_map_of_mem (hp.subset (List.mem_map_of_mem hr))
  have h2 := hl _ h1
  obtain ⟨k, hk, rfl⟩ := List.mem_map.mp hm
  obtain ⟨x, hx, rfl⟩ := List.mem_map.mp (hp.symm.subset hk)
  have h3 := hrl x hx
  omega
theorem perm_out {zs ys : List It} {r : It} {hd : List Nat} (h : List.Perm (r :: ys) zs) (hp : List.Perm (zs.map It.k) hd) : List.Perm (ys.map It.k) (hd.erase r.k) := by
  have h1 := ((h.map It.k).trans hp).erase r.k
  rw [List.map_cons, List.erase_cons_head] at h1
  exact h1
end Mine
end -- E1
section -- E2
theorem Mine.calm_E2 : True := by
  w_top off
  trivial
open PySem PySem.W PySem.Calls PyProof.Rows
set_option Elab.async false
set_option maxRecDepth 100000
namespace Mine
/-- where a refused deed ends -/
theorem deed_none {b g g' h' : Heap} {s : Shared} {tk : Nat} {Q : Value → Shared → Prop} {L₀ L lh ld : Addr} {m₀ m : Str → Option Value} {e' e2' : Nat}
  (hQ : ∀ h' tk xs' hd', s.toks ≤ tk → Kp [lh, ld, L₀] s.heap h' → Fr b L₀ h' m₀ → Inv b { s with heap := h', toks := tk } lh ld xs' hd' → xs'.length ≤ ([] : List It).length + 1 → Q (.bool true) { s with heap := h', toks := tk })
  (I : Inv b s lh ld [] []) (hg : ∀ a o, s.heap.get? a = some o → a ∉ [ld, lh] → g.get? a = some o) (FG : Fr b L₀ g m₀) (TT : KtsTurn [L₀] g g') (F : Fr g' L h' m)
  (hlh : h'.get? lh = some (W.listOf #[] e')) (hld : h'.get? ld = some (W.listOf #[] e2')) (hs : s.toks ≤ tk) : Q (.bool true) { s with heap := h', toks := tk } := by
  obtain ⟨_, _, hne, hbh, hbd, hHp0, hperm0, htok, hpos, hfr⟩ := I
  obtain ⟨oL, es, ep, hL, r⟩ := FG.ns
  obtain ⟨sl, h2⟩ := TT.up hL
  refine hQ h' tk [] [] hs ?_ ⟨⟨{ oL with slots := sl }, es, ep, F.keep _ _ h2, r⟩, fun a o e => ?_, FG.above⟩ ⟨⟨e', ⟨hlh, (fun x hx => nomatch hx), (fun x hx => nomatch hx), by decide⟩⟩, ⟨[], e2', hld, .nil⟩, hne, hbh, hbd, hHp0, hperm0, (fun x hx => nomatch hx), Nat.le_trans hpos hs, (fun x hx => nomatch hx)⟩ (by decide)
  · intro a o e hn
    simp at hn
    exact F.keep _ _ (TT.other _ _ (hg a o e (by simp; exact ⟨hn.2.1, hn.1⟩)) (by simp; exact hn.2.2))
  · refine F.keep _ _ (TT.other _ _ (FG.keep _ _ e) ?_)
    intro q
    rw [List.mem_singleton.mp q] at e
    exact absurd (Heap.lt_size e) (Nat.not_lt.mpr FG.above)
theorem dicts_of {b g : Heap} {L₀ : Addr} {m₀ : Str → Option Value} (FG : Fr b L₀ g m₀) : KtsDicts [L₀] g := fun a ha => by
  rw [List.mem_singleton.mp ha]
  obtain ⟨oL, es, ep, hL, r, _⟩ := FG.ns
  exact ⟨oL, es, ep, hL, r⟩
/-- the token of a value that hsv_to_rgb handed through -/
def Old (lo hi : Nat) (v : UInt64) (t : Nat) (q : UInt64) (y : Nat) : Prop := (v = q ∧ t = y) ∨ Fsh lo hi t
theorem old_of {lo lo' mid hi : Nat} {p q a b c : UInt64} {y t u v y0 : Nat} (h : OneOf p y a t b u c v) (h1 : VorF lo' mid a t q y0) (h2 : VorF lo' mid b u q y0) (h3 : VorF lo' mid c v q y0) (hl : lo ≤ lo') (hm : mid ≤ hi) : Old lo hi p y q y0 := by
  have key : ∀ {a : UInt64} {t : Nat}, VorF lo' mid a t q y0 → p = a → y = t → Old lo hi p y q y0 := fun h e1 e2 => by
    subst e1 e2
    rcases h with ⟨r1, r2⟩ | r
    · exact .inl ⟨r1, r2⟩
    · exact .inr (r.wide hl hm)
  rcases h with ⟨r1, r2⟩ | ⟨r1, r2⟩ | ⟨r1, r2⟩
  · exact key h1 r1 r2
  · exact key h2 r1 r2
  · exact key h3 r1 r2
theorem cst_half {x0 x y : It} {lo hi : Nat} (c : Cst x0 x) (hx : TokIn 0 lo x.t) (h1 : Fsh lo hi y.t.1) (h2 : Fsh lo hi y.t.2.1) (h3 : Old lo hi (nm y.k).2.2 y.t.2.2 (nm x0.k).2.2 x0.t.2.2) : Cst y x ∧ Cst x y := by
  have n1 : x.t.1 ≠ y.t.1 := fun e => by have := hx.a.2; have := h1.1; rw [e] at *; omega
  have n2 : x.t.2.1 ≠ y.t.2.1 := fun e => by have := hx.b.2; have := h2.1; rw [e] at *; omega
  have key : y.t.2.2 = x.t.2.2 → (nm y.k).2.2 = (nm x.k).2.2 := fun e => by
    rcases h3 with ⟨r1, r2⟩ | r
    · rw [r1]; exact c.c3 (r2.symm.trans e)
    · have := hx.c.2; have := r.1; rw [e] at *; omega
  exact ⟨⟨fun e => absurd e.symm n1, fun e => absurd e.symm n2, key⟩, ⟨fun e => absurd e n1, fun e => absurd e n2, fun e => (key e.symm).symm⟩⟩
theorem tok_half {x0 y : It} {lo hi : Nat} (hx : TokIn 0 lo x0.t) (hl : lo ≤ hi) (h1 : Fsh lo hi y.t.1) (h2 : Fsh lo hi y.t.2.1) (h3 : Old lo hi (nm y.k).2.2 y.t.2.2 (nm x0.k).2.2 x0.t.2.2) : TokIn 0 hi y.t := by
  refine ⟨h1.wide (Nat.zero_le _) (Nat.le_refl _), h2.wide (Nat.zero_le _) (Nat.le_refl _), ?_⟩
  rcases h3 with ⟨_, r⟩ | r
  · rw [r]; exact hx.c.wide (Nat.le_refl _) hl
  · exact r.wide (Nat.zero_le _) (Nat.le_refl _)
theorem nz_half {x0 y : It} {lo hi : Nat} (hp : 1 ≤ lo) (hz : x0.t.2.2 ≠ 0) (h1 : Fsh lo hi y.t.1) (h2 : Fsh lo hi y.t.2.1) (h3 : Old lo hi (nm y.k).2.2 y.t.2.2 (nm x0.k).2.2 x0.t.2.2) : y.t.1 ≠ 0 ∧ y.t.2.1 ≠ 0 ∧ y.t.2.2 ≠ 0 := by
  refine ⟨fun e => ?_, fun e => ?_, fun e => ?_⟩
  · have := h1.1; rw [e] at this; omega
  · have := h2.1; rw [e] at this; omega
  · rcases h3 with ⟨_, r⟩ | r
    · exact hz (r.symm.trans e)
    · have := r.1; rw [e] at this; omega
section
variable {prog : Program} {w : World} {A : Around} {E : Value → Shared → Prop} {s : Shared} {g : Heap} {L l : Addr} {m : Str → Option Value} {xs : List It} {e : Nat} {k : Int} {u : Tok} {news : List (Addr × Obj)}
theorem item_itR {value slice : PySem.Expr} {Q : Value → Shared → Prop} (N : News g L s.heap news) (hm : (l, W.listOf (vals xs).toArray e) ∈ news) (h0 : 0 ≤ k) (h1 : k.toNat < xs.length) (hb : xs.length < 1000) (h : Q (.ref (gd xs k.toNat).a) s)
    (hs : subscripted slice false (.ref l) (.int k u) = operate [.ref l, .int k u] (getItem (.ref l) (.int k u)) := by with_unfolding_all rfl) (hg : ∀ r, letTemporaryGo value (.ref l) r = pure () := by intro _; with_unfolding_all rfl) :
    wpAny (model prog w) A (subscriptTail value slice (.ref l) (.int k u)) Q E s :=
  item_listL ⟨_, (N _ hm).1, rfl, e, rfl⟩ h0 (by omega) (vals_at h1) h hs hg
end
theorem refused_useS {w : World} {mean : ExcName → Option Value} {mg mb : Str → Option Value} {base g : Heap} {s : Shared} {Q : Value → Shared → Prop} {cn cn₀ : Str} {cs cs₀ : Scope} {L L₀ a a₀ lh ld dn : Addr} {ccd ccd₀ : Value} {m : Str → Option Value} {e e2 n : Nat} {x : T3} {t : K3} {tk0 : Tok} {kd : Int} (hk : cs.kind = .function)
  (XB : (Mine.hd.heap_39 w.params).In base) (TB : Top Mine.hd.view_39 (looseW Mine.hd.view_39 []) mean mg mb base) (D : KtsDicts [L₀] g)
  (X : (Mine.hd.heap_39 w.params).In g) (T : Top Mine.hd.view_39 (looseW Mine.hd.view_39 []) mean mg mb g) (B : Below (callerA.deeper (envOf cn₀ { cs₀ with kind := .function } L₀ a₀ ccd₀)) base [envOf cn₀ { cs₀ with kind := .function } L₀ a₀ ccd₀] g) (F : Fr g L s.heap m) (N : News g L s.heap [(lh, W.listOf #[] e), (ld, W.listOf #[] e2), (dn, tupOf (flts x t) n)]) (hne : @Ne Nat lh dn) (hne2 : @Ne Nat lh ld) (hne3 : @Ne Nat ld dn)
  (hQ : ∀ h' tk g', KtsTurn [L₀] g g' → Fr g' L h' m → h'.get? lh = some (W.listOf #[] e) → h'.get? ld = some (W.listOf #[] e2) → Q (.bool true) { s with heap := h', toks := tk }) :
  wpAny (model PySem.Challenge.rw_mq0226_01.row.prog w) ((callerA.deeper (envOf cn₀ { cs₀ with kind := .function } L₀ a₀ ccd₀)).deeper (envOf cn cs L a ccd)) (call (.ref 103) [.ref lh, .ref dn, .int kd tk0]) Q (fun _ _ => False) s := by
  obtain ⟨k, ns, ig, ic, mo⟩ := cs
  cases hk
  exact refused_use (cs := ⟨.function, ns, ig, ic, mo⟩) XB TB D X T B F N hne hne2 hne3 hQ
theorem rep_perm {xs ys : List It} {y r : It} {hd : List Nat} (h : List.Perm (r :: ys) (y :: xs)) (hp : List.Perm (xs.map It.k) hd) (hr : r.k ∈ hd) : List.Perm (ys.map It.k) (hd.erase r.k ++ [y.k]) := by
  have h1 := perm_out (hd := hd ++ [y.k]) h (by rw [List.map_cons]; exact (hp.cons _).trans (List.perm_append_singleton _ _).symm)
  rw [List.erase_append_left _ hr] at h1
  exact h1
theorem old_new {b h : Heap} {s : Shared} {lh ld : Addr} {xs : List It} {hd : List Nat} {tk : Nat} {x : It} (I : Inv b s lh ld xs hd) (hok : ItOk h x) (hx : x ∈ xs) (hs : s.toks ≤ tk) : NewIt b xs h tk x := by
  obtain ⟨⟨e, H⟩, _, hne, hbh, hbd, hHp0, hperm0, htok, hpos, hfr⟩ := I
  exact ⟨hok, (htok x hx).wide (Nat.le_refl _) hs, hfr x hx, fun z hz => ⟨H.cst x hx z hz, H.cst z hz x hx⟩⟩
theorem isTup_it {g h : Heap} {L : Addr} {m : Str → Option Value} {x : It} (F : Fr g L h m) (hx : ItOk g x) : IsTup h x.a (flts (nm x.k) x.t).toArray := ⟨_, F.keep _ _ hx.at_, rfl, x.n, rfl⟩
end Mine
end -- E2
section -- D3
theorem Mine.calm_D3 : True := by
  w_top off
  trivial
open PySem PySem.W PySem.Calls PyProof.Rows
set_option Elab.async false
set_option maxRecDepth 100000
namespace Mine
local macro_rules | `(tactic| walk_at "execs cons") => `(tactic| (k_here; (with_reducible refine execs_T ?_); intro tk htk; (try dsimp only at htk); (try dsimp only)))
local macro_rules | `(tactic| walk_at "execs nil") => `(tactic| ((with_reducible refine wpAny_execs_nil ?_); try dsimp only))
local macro_rules | `(tactic| walk_at "TokPost") => `(tactic| ((with_reducible refine tokPost_ ?_); intro htk; (try dsimp only at htk); (try dsimp only)))
local macro_rules | `(tactic| walk_at "binaryOp FloorDiv int int") => `(tactic| ((with_reducible refine fdiv_small (by omega) (by omega) ?_); try dsimp only))
local macro_rules | `(tactic| walk_at "binaryOp Mod int int") => `(tactic| ((with_reducible refine fmod_small (by omega) ?_); try dsimp only))
local macro_rules | `(tactic| walk_at "call builtin:list.append") => `(tactic| refine halt_at ?_)
local macro_rules | `(tactic| walk_at "call builtin:list.remove") => `(tactic| refine halt_at ?_)
local macro_rules | `(tactic| walk_at "call builtin:min") => `(tactic| refine halt_at ?_)
local macro_rules | `(tactic| walk_at "call ref") => `(tactic| refine halt_at ?_)
local macro_rules | `(tactic| walk_at "subscriptTail") => `(tactic| (k_here; (with_reducible show wpAny _ _ (subscriptTail _ _ (Value.ref _) (Value.int _ _)) _ _ _); k_dflt (refine' item_itR ?k1 ?k7 ?k2 ?k3 ?k4 ?_ ?k5 ?k6; (case k1 => k_asm); (case k7 => k_mem); (case k2 => omega); (case k3 => assumption); (case k4 => omega); (case k5 => with_unfolding_all rfl); (case k6 => intro _; with_unfolding_all rfl); k_whole)))
local macro_rules | `(tactic| walk_at "assign Tuple") => `(tactic| (k_here; (with_reducible show wpAny _ _ (assign (Expr.Tuple _ _ _) _ (Value.ref _)) _ _ _); k_dflt (refine' unpackN_ ?k1 ?k2 ?k3 ?k4 ?k5 ?k6 ?_; (case k1 => k_asm); (case k2 => k_asm); (case k3 => exact isTup_it (by k_asm) (by assumption)); (case k4 => exact rfl); (case k5 => exact rfl); (case k6 => exact rfl); k_whole); intro h' F' N'; (try k_sweep)))
set_option maxHeartbeats 8000000 in
theorem deed_spec {w : World} {mean : ExcName → Option Value} {mg mb : Str → Option Value} {b : Heap} {s : Shared} {Q E : Value → Shared → Prop} {cn₀ : Str} {cs₀ : Scope} {L₀ a₀ lh ld : Addr} {ccd₀ : Value} {m₀ : Str → Option Value} {xs : List It} {hd : List Nat} {n : Int} {t : Tok}
  (B₀ : Below callerA b [] b) (X₀ : (Mine.hd.heap_39 w.params).In b) (T₀ : Top Mine.hd.view_39 (looseW Mine.hd.view_39 []) mean mg mb b) (F₀ : Fr b L₀ s.heap m₀) (hL1 : lh ≠ L₀) (hL2 : ld ≠ L₀) (I : Inv b s lh ld xs hd) (hlen : xs.length < 800)
  (hQ : ∀ h' tk xs' hd', s.toks ≤ tk → Kp [lh, ld, L₀] s.heap h' → Fr b L₀ h' m₀ → Inv b { s with heap := h', toks := tk } lh ld xs' hd' → xs'.length ≤ xs.length + 1 → Q (.bool true) { s with heap := h', toks := tk }) :
  wpAny (model PySem.Challenge.rw_mq0226_01.row.prog w) (callerA.deeper (envOf cn₀ { cs₀ with kind := .function } L₀ a₀ ccd₀)) (call (.ref 110) [.ref lh, .ref ld, .int n t]) Q E s := by
  have II := I
  obtain ⟨⟨e, H⟩, ⟨vs, e2, hvs, hints⟩, hne, hbh, hbd, hHp, hperm, htok, hpos, hfr⟩ := I
  have N₀ : News b L₀ s.heap [(ld, W.listOf vs.toArray e2), (lh, W.listOf (vals xs).toArray e)] := fun q hq => by
    rcases List.mem_cons.mp hq with rfl | hq
    · exact ⟨hvs, hL2, hbd⟩
    · rw [List.mem_singleton.mp hq]; exact ⟨H.at_, hL1, hbh⟩
  refine call_ruleB [(ld, W.listOf vs.toArray e2), (lh, W.listOf (vals xs).toArray e)] B₀ F₀ X₀ N₀ T₀ rfl rfl rfl (by k_dflt k_is) (by k_dflt k_is) (Nat.le_of_ble_eq_true rfl) (BindsTo.of_eq rfl) (locs rfl) ?_ (by decide) rfl rfl rfl
  intro g L h₁ FG F N B X T hg hg' hl'
  have hOKg : ∀ x ∈ xs, ItOk g x := fun x hx => itOk_g2 hg (H.ok x hx) H.at_ hvs
  have hCx := H.cst
  have hlen9 : xs.length < 900 := by omega
  have hhl : hd.length = xs.length := by rw [← hperm.length_eq, List.length_map]
  have hhl' : (hd.map fun (k : Nat) => (k : Int)).length ≤ 999 := by rw [List.length_map]; omega
  have hmod : n / 5 % 1024 = (((n / 5 % 1024).toNat : Nat) : Int) := by omega
  have hkf : (n / 5 % 1024).toNat < 1024 := by omega
  (try dsimp only)
  (try k_fold)
  w_strict (k_steps)
  show wpAny _ _ _ _ _ _
  refine colour_use (by k_asm) (by k_asm) (by k_asm) (by k_asm) rfl (Nat.le_of_ble_eq_true rfl) (Nat.le_of_ble_eq_true rfl) hmod hkf ?_
  intro Dc h2 tk2 tc hle2 F2 N2 _ c1 c2 c3
  dsimp only at hle2 c1 c2 c3
  k_sweep
  (try dsimp only)
  w_strict (k_steps)
  show wpAny _ _ _ _ _ _
  refine hsv_use (by k_asm) (by k_asm) (by k_asm) (by k_asm) rfl (Nat.le_of_ble_eq_true rfl) (Nat.le_of_ble_eq_true rfl) hkf ?_
  intro D h3 tk3 ty hle3 F3 N3 aD d1 d2 d3
  dsimp only at hle3 d1 d2 d3
  k_sweep
  have hT : TokIn s.toks tk3 ty := ⟨d1.wide (by omega) (Nat.le_refl _), d2.wide (by omega) (Nat.le_refl _), (one_bd d3 c1 c2 c3).wide (by omega) (by omega)⟩
  have hs3 : s.toks ≤ tk3 := by omega
  clear c1 c2 c3 d1 d2 d3
  (try dsimp only)
  w_strict (k_steps)
  · show wpAny _ _ _ _ _ _
    (with_reducible rename News _ _ _ (_ :: _) => NN)
    (with_reducible rename Fr g _ _ _ => FF)
    have hDh : @Ne Nat D lh := fun q => aD.2.2.2.1 q.symm
    have hDd : @Ne Nat D ld := fun q => aD.2.2.1 q.symm
    obtain ⟨z1, z2, z3⟩ := tok_nz hT hpos
    have P1 := NN _ (.head _)
    have P2 := NN _ (.tail _ (.tail _ (.tail _ (.head _))))
    have P3 := NN _ (.tail _ (.tail _ (.tail _ (.tail _ (.head _)))))
    have hDg : g.get? D = none := P1.2.2
    have hDb : b.get? D = none := by
      cases q : b.get? D with
      | none => rfl
      | some o => rw [FG.keep _ _ q] at hDg; cases hDg
    have hcy : ∀ x ∈ xs, Cst ⟨D, (n / 5 % 1024).toNat, ty, 0⟩ x ∧ Cst x ⟨D, (n / 5 % 1024).toNat, ty, 0⟩ := fun x hx => cst_new (y := ⟨D, (n / 5 % 1024).toNat, ty, 0⟩) (htok x hx) hT
    have hokk : ∀ {h : Heap}, h.get? D = some (tupOf (flts (nm (n / 5 % 1024).toNat) ty) 0) → ItOk h ⟨D, (n / 5 % 1024).toNat, ty, 0⟩ := fun q => ⟨q, hkf, z1, z2, z3⟩
    have hny : ∀ {h : Heap} {tk : Nat}, tk3 ≤ tk → h.get? D = some (tupOf (flts (nm (n / 5 % 1024).toNat) ty) 0) → NewIt b xs h tk ⟨D, (n / 5 % 1024).toNat, ty, 0⟩ := fun q r => ⟨hokk r, hT.wide (Nat.zero_le _) q, hDb, hcy⟩
    have NN2 : News g L _ [(lh, W.listOf (vals xs).toArray e), (ld, W.listOf vs.toArray e2), (D, tupOf (flts (nm (n / 5 % 1024).toNat) ty) 0)] := fun q hq => by
      rcases List.mem_cons.mp hq with rfl | hq
      · exact P3
      rcases List.mem_cons.mp hq with rfl | hq
      · exact P2
      rw [List.mem_singleton.mp hq]; exact P1
    clear NN
    clear P2 P3
    refine push_use (y := ⟨D, (n / 5 % 1024).toNat, ty, 0⟩) X T FF NN2 (by simp; exact ⟨fun q => hne q.symm, hDh⟩) rfl (Nat.le_of_ble_eq_true rfl) (Nat.le_of_ble_eq_true rfl) (fun x hx => (hOKg x hx).keep FF.keep) hCx hlen9 (hokk P1.1) hcy (cst_self _) ?_
    intro h4 tk4 e4 hle4 _ F4 N4
    clear NN2 P1 FF
    dsimp only at hle4
    k_sweep
    (try dsimp only)
    w_strict (k_steps)
    show wpAny _ _ _ _ _ _
    have N5 : News g L h4 [(ld, W.listOf vs.toArray e2), (lh, W.listOf (vals (hpush xs ⟨D, (n / 5 % 1024).toNat, ty, 0⟩)).toArray e4), (D, tupOf (flts (nm (n / 5 % 1024).toNat) ty) 0)] := fun q hq => by
      rcases List.mem_cons.mp hq with rfl | hq
      · exact N4 _ (.tail _ (.head _))
      rcases List.mem_cons.mp hq with rfl | hq
      · exact N4 _ (.head _)
      exact N4 _ (.tail _ (.tail _ hq))
    clear N4
    refine append_ints (by k_asm) N5 (by simp; exact ⟨hne, hDd⟩) hints (by omega) ?_
    intro q h5 hq F5 N6
    clear N5
    k_sweep
    (try dsimp only)
    w_strict (k_steps)
    obtain ⟨p1, p2⟩ := push_ok (y := ⟨D, (n / 5 % 1024).toNat, ty, 0⟩) hHp
    (with_reducible rename Fr g _ _ _ => FF)
    have hl := p2.length_eq
    rw [List.length_cons] at hl
    exact deed_fin (hd ++ [(n / 5 % 1024).toNat]) ⟨D, (n / 5 % 1024).toNat, ty, 0⟩ hQ II hlen hg FG FF (N6 _ (.tail _ (.head _))).1 (N6 _ (.head _)).1 (by rw [List.map_append, List.map_singleton, ← hmod]; exact hq) (by omega) (fun x hx => (List.mem_cons.mp (p2.subset hx)).symm) (fun _ => hny (by omega) (N6 _ (.tail _ (.tail _ (.head _)))).1) p1
      ((p2.map _).trans (by rw [List.map_cons]; exact (hperm.cons _).trans (List.perm_append_singleton _ _).symm)) (by omega)
  · show wpAny _ _ _ _ _ _
    (with_reducible rename News _ _ _ (_ :: _) => NN)
    (with_reducible rename Fr g _ _ _ => FF)
    have hDh : @Ne Nat D lh := fun q => aD.2.2.2.1 q.symm
    have hDd : @Ne Nat D ld := fun q => aD.2.2.1 q.symm
    obtain ⟨z1, z2, z3⟩ := tok_nz hT hpos
    have P1 := NN _ (.head _)
    have P2 := NN _ (.tail _ (.tail _ (.tail _ (.head _))))
    have P3 := NN _ (.tail _ (.tail _ (.tail _ (.tail _ (.head _)))))
    have hDg : g.get? D = none := P1.2.2
    have hDb : b.get? D = none := by
      cases q : b.get? D with
      | none => rfl
      | some o => rw [FG.keep _ _ q] at hDg; cases hDg
    have hcy : ∀ x ∈ xs, Cst ⟨D, (n / 5 % 1024).toNat, ty, 0⟩ x ∧ Cst x ⟨D, (n / 5 % 1024).toNat, ty, 0⟩ := fun x hx => cst_new (y := ⟨D, (n / 5 % 1024).toNat, ty, 0⟩) (htok x hx) hT
    have hokk : ∀ {h : Heap}, h.get? D = some (tupOf (flts (nm (n / 5 % 1024).toNat) ty) 0) → ItOk h ⟨D, (n / 5 % 1024).toNat, ty, 0⟩ := fun q => ⟨q, hkf, z1, z2, z3⟩
    have hny : ∀ {h : Heap} {tk : Nat}, tk3 ≤ tk → h.get? D = some (tupOf (flts (nm (n / 5 % 1024).toNat) ty) 0) → NewIt b xs h tk ⟨D, (n / 5 % 1024).toNat, ty, 0⟩ := fun q r => ⟨hokk r, hT.wide (Nat.zero_le _) q, hDb, hcy⟩
    have NN2 : News g L _ [(lh, W.listOf (vals xs).toArray e), (ld, W.listOf vs.toArray e2), (D, tupOf (flts (nm (n / 5 % 1024).toNat) ty) 0)] := fun q hq => by
      rcases List.mem_cons.mp hq with rfl | hq
      · exact P3
      rcases List.mem_cons.mp hq with rfl | hq
      · exact P2
      rw [List.mem_singleton.mp hq]; exact P1
    clear NN
    have N3 : News g L _ [(ld, W.listOf vs.toArray e2), (lh, W.listOf (vals xs).toArray e), (D, tupOf (flts (nm (n / 5 % 1024).toNat) ty) 0)] := fun q hq => by
      rcases List.mem_cons.mp hq with rfl | hq
      · exact P2
      rcases List.mem_cons.mp hq with rfl | hq
      · exact P3
      rw [List.mem_singleton.mp hq]; exact P1
    clear NN2 P1 P2 P3
    refine append_ints FF N3 (by simp; exact ⟨hne, hDd⟩) hints (by omega) ?_
    intro q h4 hq F4 N4
    clear N3 FF
    k_sweep
    (try dsimp only)
    w_strict (k_steps)
    show wpAny _ _ _ _ _ _
    (with_reducible rename Fr g _ _ _ => FF)
    have hl1 : (hd.map (fun (k : Nat) => (k : Int)) ++ [n / 5 % 1024]).length ≤ 1000 := by rw [List.length_append, List.length_singleton]; omega
    refine gain (kso_min FF N4 ⟨_, (N4 _ (.head _)).1, rfl, _, rfl⟩ hq (by rw [List.length_append, List.length_singleton]; omega) rfl ?_)
    intro h5 M t5 tk5 F5 N5 hM hMl hle5
    clear N4 FF
    dsimp only at hle5
    k_sweep
    (try dsimp only)
    w_strict (k_steps)
    show wpAny _ _ _ _ _ _
    (with_reducible rename News _ _ _ (_ :: _) => N6)
    (with_reducible rename Fr g _ _ _ => FF)
    refine remove_ints FF N6 (by simp; exact ⟨hne, hDd⟩) hq hM hl1 ?_
    intro q2 h6 hq2 F6 N7
    clear N6 FF hq
    k_sweep
    (try dsimp only)
    w_strict (k_steps)
    show wpAny _ _ _ _ _ _
    (with_reducible rename Fr g _ _ _ => FF)
    have N8 : News g L h6 [(lh, W.listOf (vals xs).toArray e), (ld, W.listOf q2.toArray (e2 + 1 + 1)), (D, tupOf (flts (nm (n / 5 % 1024).toNat) ty) 0)] := fun q hq => by
      rcases List.mem_cons.mp hq with rfl | hq
      · exact N7 _ (.tail _ (.head _))
      rcases List.mem_cons.mp hq with rfl | hq
      · exact N7 _ (.head _)
      exact N7 _ (.tail _ (.tail _ hq))
    clear N7
    refine pp_use (y := ⟨D, (n / 5 % 1024).toNat, ty, 0⟩) X T FF N8 (by simp; exact ⟨fun q => hne q.symm, hDh⟩) rfl (Nat.le_of_ble_eq_true rfl) (Nat.le_of_ble_eq_true rfl) (fun x hx => (hOKg x hx).keep FF.keep) hCx hlen9 (hokk (N8 _ (.tail _ (.tail _ (.head _)))).1) hcy (cst_self _) ?_
    intro h7 tk7 e7 hle7 _ F7 N9
    clear N8 FF
    dsimp only at hle7
    k_sweep
    (try dsimp only)
    w_strict (k_steps)
    show wpAny _ _ _ _ _ _
    (with_reducible rename Fr g _ _ _ => FF)
    obtain ⟨p1, p2, p3⟩ := pp_ok (y := ⟨D, (n / 5 % 1024).toNat, ty, 0⟩) hHp
    have hpe : List.Perm (((⟨D, (n / 5 % 1024).toNat, ty, 0⟩ : It) :: xs).map It.k) (hd ++ [(n / 5 % 1024).toNat]) := by rw [List.map_cons]; exact (hperm.cons _).trans (List.perm_append_singleton _ _).symm
    have hmm : hd.map (fun (k : Nat) => (k : Int)) ++ [n / 5 % 1024] = (hd ++ [(n / 5 % 1024).toNat]).map (fun (k : Nat) => (k : Int)) := by rw [List.map_append, List.map_singleton, ← hmod]
    rw [hmm] at hq2 hM hMl
    have hr := p2.subset (.head _)
    have hMr := least_of hpe hr p3 hM hMl
    have hrok : ItOk h7 (hpp xs ⟨D, (n / 5 % 1024).toNat, ty, 0⟩).1 := by
      rcases List.mem_cons.mp hr with q | q
      · rw [q]; exact hokk (N9 _ (.tail _ (.tail _ (.head _)))).1
      · exact (hOKg _ q).keep FF.keep
    have hrb : b.get? (hpp xs ⟨D, (n / 5 % 1024).toNat, ty, 0⟩).1.a = none := by
      rcases List.mem_cons.mp hr with q | q
      · rw [q]; exact hDb
      · exact hfr _ q
    refine fair_use X₀ T₀ FG FF N9 rfl (Nat.le_of_ble_eq_true rfl) (Nat.le_of_ble_eq_true rfl) hrok hrb (show 1 ≤ tk7 by omega) hMr ?_
    intro h8 tk8 hle8 F8 N10
    clear N9 FF
    dsimp only at hle8
    k_sweep
    (try dsimp only)
    w_strict (k_steps)
    (with_reducible rename Fr g _ _ _ => FF)
    have hl := p2.length_eq
    rw [List.length_cons, List.length_cons] at hl
    rw [hMr, map_erase] at hq2
    exact deed_fin ((hd ++ [(n / 5 % 1024).toNat]).erase (hpp xs ⟨D, (n / 5 % 1024).toNat, ty, 0⟩).1.k) ⟨D, (n / 5 % 1024).toNat, ty, 0⟩ hQ II hlen hg FG FF (N10 _ (.head _)).1 (N10 _ (.tail _ (.head _))).1 hq2 (by omega) (fun x hx => (List.mem_cons.mp (p2.subset (.tail _ hx))).symm) (fun _ => hny (by omega) (N10 _ (.tail _ (.tail _ (.head _)))).1) p1 (perm_out p2 hpe) (by omega)
  · show wpAny _ _ _ _ _ _
    (with_reducible rename News _ _ _ (_ :: _) => NN)
    (with_reducible rename Fr g _ _ _ => FF)
    (with_reducible rename decide _ = true => hemp)
    have hd0 : hd = [] := by simpa using hemp
    clear hemp
    subst hd0
    have xs0 : xs = [] := List.map_eq_nil_iff.mp (List.perm_nil.mp hperm)
    subst xs0
    have vs0 : vs = [] := by cases hints; rfl
    subst vs0
    have P1 := NN _ (.tail _ (.head _))
    have P2 := NN _ (.tail _ (.tail _ (.tail _ (.tail _ (.head _)))))
    have P3 := NN _ (.tail _ (.tail _ (.tail _ (.tail _ (.tail _ (.head _))))))
    have hDh : @Ne Nat lh D := aD.2.2.2.1
    have hDd : @Ne Nat ld D := aD.2.2.1
    have N3 : News g L _ [(lh, W.listOf #[] e), (ld, W.listOf #[] e2), (D, tupOf (flts (nm (n / 5 % 1024).toNat) ty) 0)] := fun q hq => by
      rcases List.mem_cons.mp hq with rfl | hq
      · exact P3
      rcases List.mem_cons.mp hq with rfl | hq
      · exact P2
      rw [List.mem_singleton.mp hq]; exact P1
    clear NN P1 P2 P3
    refine gain (refused_useS rfl X₀ T₀ (dicts_of FG) X T B FF N3 hDh hne hDd ?_)
    intro h4 tk4 g4 TT F4 l4 d4 hle4
    clear N3 FF
    dsimp only at hle4
    (try dsimp only)
    w_strict (k_steps)
    exact deed_none hQ II hg FG TT F4 l4 d4 (by omega)
  · show wpAny _ _ _ _ _ _
    (with_reducible rename News _ _ _ (_ :: _) => NN)
    (with_reducible rename Fr g _ _ _ => FF)
    have hDh : @Ne Nat D lh := fun q => aD.2.2.2.1 q.symm
    have hDd : @Ne Nat D ld := fun q => aD.2.2.1 q.symm
    obtain ⟨z1, z2, z3⟩ := tok_nz hT hpos
    have P1 := NN _ (.tail _ (.head _))
    have P2 := NN _ (.tail _ (.tail _ (.tail _ (.tail _ (.head _)))))
    have P3 := NN _ (.tail _ (.tail _ (.tail _ (.tail _ (.tail _ (.head _))))))
    have hDg : g.get? D = none := P1.2.2
    have hDb : b.get? D = none := by
      cases q : b.get? D with
      | none => rfl
      | some o => rw [FG.keep _ _ q] at hDg; cases hDg
    have hcy : ∀ x ∈ xs, Cst ⟨D, (n / 5 % 1024).toNat, ty, 0⟩ x ∧ Cst x ⟨D, (n / 5 % 1024).toNat, ty, 0⟩ := fun x hx => cst_new (y := ⟨D, (n / 5 % 1024).toNat, ty, 0⟩) (htok x hx) hT
    have hokk : ∀ {h : Heap}, h.get? D = some (tupOf (flts (nm (n / 5 % 1024).toNat) ty) 0) → ItOk h ⟨D, (n / 5 % 1024).toNat, ty, 0⟩ := fun q => ⟨q, hkf, z1, z2, z3⟩
    have hny : ∀ {h : Heap} {tk : Nat}, tk3 ≤ tk → h.get? D = some (tupOf (flts (nm (n / 5 % 1024).toNat) ty) 0) → NewIt b xs h tk ⟨D, (n / 5 % 1024).toNat, ty, 0⟩ := fun q r => ⟨hokk r, hT.wide (Nat.zero_le _) q, hDb, hcy⟩
    have NN2 : News g L _ [(lh, W.listOf (vals xs).toArray e), (ld, W.listOf vs.toArray e2), (D, tupOf (flts (nm (n / 5 % 1024).toNat) ty) 0)] := fun q hq => by
      rcases List.mem_cons.mp hq with rfl | hq
      · exact P3
      rcases List.mem_cons.mp hq with rfl | hq
      · exact P2
      rw [List.mem_singleton.mp hq]; exact P1
    clear NN
    have N3 : News g L _ [(ld, W.listOf vs.toArray e2), (lh, W.listOf (vals xs).toArray e), (D, tupOf (flts (nm (n / 5 % 1024).toNat) ty) 0)] := fun q hq => by
      rcases List.mem_cons.mp hq with rfl | hq
      · exact P2
      rcases List.mem_cons.mp hq with rfl | hq
      · exact P3
      rw [List.mem_singleton.mp hq]; exact P1
    clear NN2 P1 P2 P3
    (with_reducible rename decide _ = false => hemp)
    have hxs : 0 < xs.length := by
      rw [← hhl]
      refine Nat.pos_of_ne_zero fun q => absurd (hemp.symm.trans ?_) Bool.false_ne_true
      rw [List.length_eq_zero_iff.mp q]; rfl
    have hq0 : ItOk g (gd xs (0 : Int).toNat) := hOKg _ (gd_mem hxs)
    refine gain (kso_min FF N3 ⟨_, (N3 _ (.head _)).1, rfl, _, rfl⟩ hints (by rw [List.length_map]; omega) rfl ?_)
    intro h4 M t4 tk4 F4 N4 hM hMl hle4
    clear N3 FF
    dsimp only at hle4
    have hMr := least_root hHp hperm hxs hM hMl
    k_sweep
    (try dsimp only)
    w_strict (k_steps)
    show wpAny _ _ _ _ _ _
    (with_reducible rename News _ _ _ (_ :: _) => N6)
    (with_reducible rename Fr g _ _ _ => FF)
    refine remove_ints FF N6 (by simp; exact ⟨hne, hDd⟩) hints hM (by omega) ?_
    intro q2 h5 hq2 F5 N5
    rw [hMr, map_erase] at hq2
    clear N6 FF
    k_sweep
    (try dsimp only)
    w_strict (k_steps)
    · show wpAny _ _ _ _ _ _
      (with_reducible rename Fr g _ _ _ => FF)
      have N6 : News g L h5 [(lh, W.listOf (vals xs).toArray e), (ld, W.listOf q2.toArray (e2 + 1))] := fun q hq => by
        rcases List.mem_cons.mp hq with rfl | hq
        · exact N5 _ (.tail _ (.head _))
        rw [List.mem_singleton.mp hq]
        exact N5 _ (.head _)
      clear N5
      refine pop_use X T FF N6 (by simp; exact fun q => hne q.symm) rfl (Nat.le_of_ble_eq_true rfl) (Nat.le_of_ble_eq_true rfl) (fun x hx => (hOKg x hx).keep FF.keep) hCx hlen9 hxs ?_
      intro h6 tk6 e6 hle6 _ F6 N8
      clear N6 FF
      dsimp only at hle6
      k_sweep
      (try dsimp only)
      w_strict (k_steps)
      show wpAny _ _ _ _ _ _
      (with_reducible rename Fr g _ _ _ => FF)
      obtain ⟨p1, p2, p3⟩ := pop_ok hHp hxs
      have hr : (hpop xs).1 ∈ xs := by rw [p3]; exact gd_mem hxs
      refine fair_use X₀ T₀ FG FF N8 rfl (Nat.le_of_ble_eq_true rfl) (Nat.le_of_ble_eq_true rfl) ((hOKg _ hr).keep FF.keep) (hfr _ hr) (show 1 ≤ tk6 by omega) (by rw [p3]; exact hMr) ?_
      intro h8 tk8 hle8 F8 N10
      clear N8 FF
      dsimp only at hle8
      k_sweep
      (try dsimp only)
      w_strict (k_steps)
      (with_reducible rename Fr g _ _ _ => FF)
      have hl := p2.length_eq
      rw [List.length_cons] at hl
      exact deed_fin (hd.erase (gd xs 0).k) (gd xs 0) hQ II hlen hg FG FF (N10 _ (.head _)).1 (N10 _ (.tail _ (.head _))).1 hq2 (by omega) (fun x hx => .inl (p2.subset (.tail _ hx))) (fun _ => old_new II ((hOKg _ (gd_mem hxs)).keep FF.keep) (gd_mem hxs) (by omega)) p1 (by rw [← p3]; exact perm_out p2 hperm) (by omega)
    · show wpAny _ _ _ _ _ _
      (with_reducible rename Fr g _ _ _ => FF)
      (with_reducible rename News _ _ _ (_ :: _) => N5)
      have hk0 : (gd xs 0).k < 1024 := hq0.lt
      refine rgbH_use (k := (gd xs 0).k) X T FF N5 rfl (Nat.le_of_ble_eq_true rfl) (Nat.le_of_ble_eq_true rfl) hk0 ?_
      intro Dr h6 tk6 tr hle6 F6 N6 _ v1 v2 v3
      clear N5 FF
      dsimp only at hle6 v1 v2 v3
      k_sweep
      (try dsimp only)
      w_strict (k_steps)
      show wpAny _ _ _ _ _ _
      (with_reducible rename Fr g _ _ _ => FF)
      (with_reducible rename News _ _ _ (_ :: _) => N7)
      refine hsv_use (k := opp (gd xs 0).k) X T FF N7 rfl (Nat.le_of_ble_eq_true rfl) (Nat.le_of_ble_eq_true rfl) opp_lt ?_
      intro D2 h7 tk7 ty2 hle7 F7 N8 aD2 d1 d2 d3
      clear N7 FF
      dsimp only at hle7 d1 d2 d3
      k_sweep
      have hold : Old s.toks tk7 (nm (opp (gd xs 0).k)).2.2 ty2.2.2 (nm (gd xs 0).k).2.2 (gd xs 0).t.2.2 := old_of d3 v1 v2 v3 (by omega) (by omega)
      have f1 : Fsh s.toks tk7 ty2.1 := d1.wide (by omega) (Nat.le_refl _)
      have f2 : Fsh s.toks tk7 ty2.2.1 := d2.wide (by omega) (Nat.le_refl _)
      have hs7 : s.toks ≤ tk7 := by omega
      clear d1 d2 d3 v1 v2 v3
      have hDd2 : @Ne Nat D2 ld := fun q => aD2.2.1 q.symm
      have hDh2 : @Ne Nat D2 lh := fun q => aD2.2.2.1 q.symm
      have hcy2 : ∀ x ∈ xs, Cst ⟨D2, opp (gd xs 0).k, ty2, 0⟩ x ∧ Cst x ⟨D2, opp (gd xs 0).k, ty2, 0⟩ := fun x hx => cst_half (y := ⟨D2, opp (gd xs 0).k, ty2, 0⟩) (hCx _ (gd_mem hxs) x hx) (htok x hx) f1 f2 hold
      have htk2 : TokIn 0 tk7 ty2 := tok_half (y := ⟨D2, opp (gd xs 0).k, ty2, 0⟩) (htok _ (gd_mem hxs)) hs7 f1 f2 hold
      obtain ⟨w1, w2, w3⟩ := nz_half (y := ⟨D2, opp (gd xs 0).k, ty2, 0⟩) hpos hq0.n3 f1 f2 hold
      have hDb2 : b.get? D2 = none := by
        have hDg2 : g.get? D2 = none := (N8 _ (.head _)).2.2
        cases q : b.get? D2 with
        | none => rfl
        | some o => rw [FG.keep _ _ q] at hDg2; cases hDg2
      have hokk2 : ∀ {h : Heap}, h.get? D2 = some (tupOf (flts (nm (opp (gd xs 0).k)) ty2) 0) → ItOk h ⟨D2, opp (gd xs 0).k, ty2, 0⟩ := fun q => ⟨q, opp_lt, w1, w2, w3⟩
      have hny2 : ∀ {h : Heap} {tk : Nat}, tk7 ≤ tk → h.get? D2 = some (tupOf (flts (nm (opp (gd xs 0).k)) ty2) 0) → NewIt b xs h tk ⟨D2, opp (gd xs 0).k, ty2, 0⟩ := fun q r => ⟨hokk2 r, htk2.wide (Nat.le_refl _) q, hDb2, hcy2⟩
      have hM5 : (M + 512) % 1024 = ((opp (gd xs 0).k : Nat) : Int) := by rw [hMr]; unfold opp; omega
      clear hold f1 f2
      have N5 : News g L h7 [(ld, W.listOf q2.toArray (e2 + 1)), (lh, W.listOf (vals xs).toArray e), (D2, tupOf (flts (nm (opp (gd xs 0).k)) ty2) 0)] := fun q hq => by
        rcases List.mem_cons.mp hq with rfl | hq
        · exact N8 _ (.tail _ (.tail _ (.head _)))
        rcases List.mem_cons.mp hq with rfl | hq
        · exact N8 _ (.tail _ (.tail _ (.tail _ (.head _))))
        rw [List.mem_singleton.mp hq]; exact N8 _ (.head _)
      clear N8
      (try dsimp only)
      w_strict (k_steps)
      show wpAny _ _ _ _ _ _
      (with_reducible rename Fr g _ _ _ => FF)
      (with_reducible rename News _ _ _ (_ :: _) => N5)
      refine append_ints FF N5 (by simp; exact ⟨hne, fun q => hDd2 q⟩) hq2 (by have := List.length_erase_le (a := (gd xs 0).k) (l := hd); rw [List.length_map]; omega) ?_
      intro q3 h9 hq3 F6 N6
      clear N5 FF
      k_sweep
      (try dsimp only)
      w_strict (k_steps)
      show wpAny _ _ _ _ _ _
      (with_reducible rename Fr g _ _ _ => FF)
      have N7 : News g L h9 [(lh, W.listOf (vals xs).toArray e), (ld, W.listOf q3.toArray (e2 + 1 + 1)), (D2, tupOf (flts (nm (opp (gd xs 0).k)) ty2) 0)] := fun q hq => by
        rcases List.mem_cons.mp hq with rfl | hq
        · exact N6 _ (.tail _ (.head _))
        rcases List.mem_cons.mp hq with rfl | hq
        · exact N6 _ (.head _)
        exact N6 _ (.tail _ (.tail _ hq))
      clear N6
      refine rep_use (y := ⟨D2, (opp (gd xs 0).k), ty2, 0⟩) X T FF N7 (by simp; exact ⟨fun q => hne q.symm, hDh2⟩) rfl (Nat.le_of_ble_eq_true rfl) (Nat.le_of_ble_eq_true rfl) (fun x hx => (hOKg x hx).keep FF.keep) hCx hlen9 hxs (hokk2 (N7 _ (.tail _ (.tail _ (.head _)))).1) hcy2 (cst_self _) ?_
      intro hA tkA e7 hle7 _ F7 N8
      clear N7 FF
      dsimp only at hle7
      k_sweep
      (try dsimp only)
      w_strict (k_steps)
      show wpAny _ _ _ _ _ _
      (with_reducible rename Fr g _ _ _ => FF)
      obtain ⟨p1, p2, p3⟩ := rep_ok (y := ⟨D2, (opp (gd xs 0).k), ty2, 0⟩) hHp hxs
      have hr : (hrep xs ⟨D2, (opp (gd xs 0).k), ty2, 0⟩).1 ∈ xs := by rw [p3]; exact gd_mem hxs
      refine fair_use X₀ T₀ FG FF N8 rfl (Nat.le_of_ble_eq_true rfl) (Nat.le_of_ble_eq_true rfl) ((hOKg _ hr).keep FF.keep) (hfr _ hr) (show 1 ≤ tkA by omega) (by rw [p3]; exact hMr) ?_
      intro h8 tk8 hle8 F8 N10
      clear N8 FF
      dsimp only at hle8
      k_sweep
      (try dsimp only)
      w_strict (k_steps)
      (with_reducible rename Fr g _ _ _ => FF)
      have hl := p2.length_eq
      rw [List.length_cons, List.length_cons] at hl
      have pm := rep_perm p2 hperm (by rw [p3]; exact hperm.subset (List.mem_map_of_mem (gd_mem hxs)))
      rw [p3] at pm
      exact deed_fin (hd.erase (gd xs 0).k ++ [(opp (gd xs 0).k)]) ⟨D2, (opp (gd xs 0).k), ty2, 0⟩ hQ II hlen hg FG FF (N10 _ (.head _)).1 (N10 _ (.tail _ (.head _))).1 (by rw [List.map_append, List.map_singleton, ← hM5]; exact hq3) (by omega) (fun x hx => (List.mem_cons.mp (p2.subset (.tail _ hx))).symm) (fun _ => hny2 (by omega) (N10 _ (.tail _ (.tail _ (.head _)))).1) p1 pm (by omega)
    · skip
      show wpAny _ _ _ _ _ _
      (with_reducible rename Fr g _ _ _ => FF)
      (with_reducible rename News _ _ _ (_ :: _) => N5)
      refine append_ints FF N5 (by simp; exact ⟨hne, fun q => hDd q⟩) hq2 (by have := List.length_erase_le (a := (gd xs 0).k) (l := hd); rw [List.length_map]; omega) ?_
      intro q3 h6 hq3 F6 N6
      clear N5 FF
      k_sweep
      (try dsimp only)
      w_strict (k_steps)
      show wpAny _ _ _ _ _ _
      (with_reducible rename Fr g _ _ _ => FF)
      have N7 : News g L h6 [(lh, W.listOf (vals xs).toArray e), (ld, W.listOf q3.toArray (e2 + 1 + 1)), (D, tupOf (flts (nm (n / 5 % 1024).toNat) ty) 0)] := fun q hq => by
        rcases List.mem_cons.mp hq with rfl | hq
        · exact N6 _ (.tail _ (.head _))
        rcases List.mem_cons.mp hq with rfl | hq
        · exact N6 _ (.head _)
        exact N6 _ (.tail _ (.tail _ hq))
      clear N6
      refine rep_use (y := ⟨D, (n / 5 % 1024).toNat, ty, 0⟩) X T FF N7 (by simp; exact ⟨fun q => hne q.symm, hDh⟩) rfl (Nat.le_of_ble_eq_true rfl) (Nat.le_of_ble_eq_true rfl) (fun x hx => (hOKg x hx).keep FF.keep) hCx hlen9 hxs (hokk (N7 _ (.tail _ (.tail _ (.head _)))).1) hcy (cst_self _) ?_
      intro h7 tk7 e7 hle7 _ F7 N8
      clear N7 FF
      dsimp only at hle7
      k_sweep
      (try dsimp only)
      w_strict (k_steps)
      show wpAny _ _ _ _ _ _
      (with_reducible rename Fr g _ _ _ => FF)
      obtain ⟨p1, p2, p3⟩ := rep_ok (y := ⟨D, (n / 5 % 1024).toNat, ty, 0⟩) hHp hxs
      have hr : (hrep xs ⟨D, (n / 5 % 1024).toNat, ty, 0⟩).1 ∈ xs := by rw [p3]; exact gd_mem hxs
      refine fair_use X₀ T₀ FG FF N8 rfl (Nat.le_of_ble_eq_true rfl) (Nat.le_of_ble_eq_true rfl) ((hOKg _ hr).keep FF.keep) (hfr _ hr) (show 1 ≤ tk7 by omega) (by rw [p3]; exact hMr) ?_
      intro h8 tk8 hle8 F8 N10
      clear N8 FF
      dsimp only at hle8
      k_sweep
      (try dsimp only)
      w_strict (k_steps)
      (with_reducible rename Fr g _ _ _ => FF)
      have hl := p2.length_eq
      rw [List.length_cons, List.length_cons] at hl
      have pm := rep_perm p2 hperm (by rw [p3]; exact hperm.subset (List.mem_map_of_mem (gd_mem hxs)))
      rw [p3] at pm
      exact deed_fin (hd.erase (gd xs 0).k ++ [(n / 5 % 1024).toNat]) ⟨D, (n / 5 % 1024).toNat, ty, 0⟩ hQ II hlen hg FG FF (N10 _ (.head _)).1 (N10 _ (.tail _ (.head _))).1 (by rw [List.map_append, List.map_singleton, ← hmod]; exact hq3) (by omega) (fun x hx => (List.mem_cons.mp (p2.subset (.tail _ hx))).symm) (fun _ => hny (by omega) (N10 _ (.tail _ (.tail _ (.head _)))).1) p1 pm (by omega)
end Mine
end -- D3
section -- L0
theorem Mine.calm_L0 : True := by
  w_top off
  trivial
open PySem PySem.W PySem.Calls PyProof.Rows
set_option Elab.async false
set_option maxRecDepth 100000
namespace Mine
theorem deed_specS {w : World} {mean : ExcName → Option Value} {mg mb : Str → Option Value} {b : Heap} {s : Shared} {Q E : Value → Shared → Prop} {cn₀ : Str} {cs₀ : Scope} {L₀ a₀ lh ld : Addr} {ccd₀ : Value} {m₀ : Str → Option Value} {xs : List It} {hd : List Nat} {n : Int} {t : Tok} (hk : cs₀.kind = .function)
  (B₀ : Below callerA b [] b) (X₀ : (Mine.hd.heap_39 w.params).In b) (T₀ : Top Mine.hd.view_39 (looseW Mine.hd.view_39 []) mean mg mb b) (F₀ : Fr b L₀ s.heap m₀) (hL1 : lh ≠ L₀) (hL2 : ld ≠ L₀) (I : Inv b s lh ld xs hd) (hlen : xs.length < 800)
  (hQ : ∀ h' tk xs' hd', s.toks ≤ tk → Kp [lh, ld, L₀] s.heap h' → Fr b L₀ h' m₀ → Inv b { s with heap := h', toks := tk } lh ld xs' hd' → xs'.length ≤ xs.length + 1 → Q (.bool true) { s with heap := h', toks := tk }) :
  wpAny (model PySem.Challenge.rw_mq0226_01.row.prog w) (callerA.deeper (envOf cn₀ cs₀ L₀ a₀ ccd₀)) (call (.ref 110) [.ref lh, .ref ld, .int n t]) Q E s := by
  obtain ⟨k, ns, ig, ic, mo⟩ := cs₀
  cases hk
  exact deed_spec (cs₀ := ⟨.function, ns, ig, ic, mo⟩) B₀ X₀ T₀ F₀ hL1 hL2 I hlen hQ
/-- one turn of a for over a list -/
def LTurn (J : Addr → Nat → Shared → Prop) (I : Addr) (i : Nat) (Q : Flow → Shared → Prop) (f : Flow) (s : Shared) : Prop := match f with
  | .next | .cont => J I (i + 1) s
  | .brk => Q .next s
  | .ret v => Q (.ret v) s
section
variable {prog : Program} {w : World} {A : Around} {s : Shared} {env : Env}
theorem for_listL {target : Expr} {body : List Stmt} {Q : Flow → Shared → Prop} {E : Value → Shared → Prop} {items : Array Value} {l : Addr} (hh : A.handled = none)
    (J : Addr → Nat → Shared → Prop) (hl : s.heap.IsList l items)
    (h0 : J s.heap.objs.size 0 { s with heap := s.heap.push { cls := .type "list_iterator", data := .fields #[.ref l, .int 0 0] } })
    (hJ : ∀ I i s', J I i s' → s'.heap.IsListIter I l i ∧ s'.heap.IsList l items)
    (turn : ∀ I i v s' h', J I i s' → items[i]? = some v → h'.IsListIter I l (i + 1) → Heap.SameBut I s'.heap h' →
      wpAny (model prog w) A (assign target env v) (fun _ s₂ => wpAny (model prog w) A (execs body env) (LTurn J I i Q) (fun _ _ => False) s₂) (fun _ _ => False) { s' with heap := h' })
    (done : ∀ I s' h', J I items.size s' → Heap.ExtBut I s'.heap h' → Q .next { s' with heap := h' })
    (ht : ∀ it v, letOwnedTupleGo target it v = pure () := by intro _ _; rfl) :
    wpAny (model prog w) A (pyIter (.ref l)) (fun it s₂ => codeAny (model prog w) A (.forLoop target it body [] env) (fun r s' => match r with | .ok f => Q f s' | .error e => cameBackBy (model prog w) A env E e s') s₂) E s := by
  refine for_list (pos := default) (iter := target) hh J hl h0 hJ (fun I i v s' h' hj hv hit hsb => ?_) done ht
  refine wpAny_mono (turn I i v s' h' hj hv hit hsb) (fun _ s₂ q => wpAny_mono q (fun f s₃ r => ?_) fun _ _ q => q.elim) fun _ _ q => q.elim
  cases f <;> exact r
end
/-- the items, as a part of a ledger -/
def itl (xs : List It) : List (Addr × Obj) := xs.map fun x => (x.a, tupOf (flts (nm x.k) x.t) x.n)
theorem itl_ok {b h : Heap} {L : Addr} {xs : List It} {rest : List (Addr × Obj)} {x : It} (N : News b L h rest) (hs : ∀ p ∈ itl xs, p ∈ rest) (hx : x ∈ xs) : h.get? x.a = some (tupOf (flts (nm x.k) x.t) x.n) :=
  (N (x.a, tupOf (flts (nm x.k) x.t) x.n) (hs _ (List.mem_map_of_mem (f := fun x : It => (x.a, tupOf (flts (nm x.k) x.t) x.n)) hx))).1
/-- the invariant, from the ledger -/
theorem inv_of {b h : Heap} {s : Shared} {L lh ld : Addr} {xs : List It} {hd : List Nat} {vs : List Value} {e e2 tk : Nat} {news : List (Addr × Obj)} (I : Inv b s lh ld xs hd) (N : News b L h news)
    (h1 : (ld, W.listOf vs.toArray e2) ∈ news) (h2 : (lh, W.listOf (vals xs).toArray e) ∈ news) (h3 : ∀ p ∈ itl xs, p ∈ news) (hi : IntsAre vs (hd.map fun (k : Nat) => (k : Int))) (htk : s.toks ≤ tk) : Inv b { s with heap := h, toks := tk } lh ld xs hd := by
  obtain ⟨⟨e', H⟩, _, hne, hbh, hbd, hHp, hperm, htok, hpos, hfr⟩ := I
  refine ⟨⟨e, (N _ h2).1, fun x hx => ?_, H.cst, H.len⟩, ⟨vs, e2, (N _ h1).1, hi⟩, hne, hbh, hbd, hHp, hperm, fun x hx => (htok x hx).wide (Nat.le_refl _) htk, Nat.le_trans hpos htk, hfr⟩
  have k := H.ok x hx
  exact ⟨itl_ok N h3 hx, k.lt, k.n1, k.n2, k.n3⟩
/-- the ledger, from the invariant -/
theorem news_inv {b : Heap} {s : Shared} {L lh ld : Addr} {xs : List It} {hd : List Nat} {rest : List (Addr × Obj)} {m : Str → Option Value} (I : Inv b s lh ld xs hd) (F : Fr b L s.heap m) (hL1 : lh ≠ L) (hL2 : ld ≠ L) (R : News b L s.heap rest) :
    ∃ vs e e2, IntsAre vs (hd.map fun (k : Nat) => (k : Int)) ∧ News b L s.heap ((ld, W.listOf vs.toArray e2) :: (lh, W.listOf (vals xs).toArray e) :: (rest ++ itl xs)) := by
  obtain ⟨⟨e, H⟩, ⟨vs, e2, hvs, hints⟩, hne, hbh, hbd, hHp, hperm, htok, hpos, hfr⟩ := I
  refine ⟨vs, e, e2, hints, fun p hp => ?_⟩
  rcases List.mem_cons.mp hp with rfl | hp
  · exact ⟨hvs, hL2, hbd⟩
  rcases List.mem_cons.mp hp with rfl | hp
  · exact ⟨H.at_, hL1, hbh⟩
  rcases List.mem_append.mp hp with hp | hp
  · exact R p hp
  obtain ⟨x, hx, rfl⟩ := List.mem_map.mp hp
  refine ⟨(H.ok x hx).at_, fun q => ?_, hfr x hx⟩
  obtain ⟨oL, es, ep, hL, r, _⟩ := F.ns
  have := (H.ok x hx).at_
  rw [show x.a = L from q, hL] at this
  rw [Option.some.inj this] at r
  cases r
theorem ints_get : ∀ {vs : List Value} {ns : List Int}, IntsAre vs ns → ∀ {i : Nat} {v : Value}, vs[i]? = some v → ∃ n t, v = .int n t
  | _, _, .nil, i, v, h => by simp at h
  | _, _, .cons n t r, 0, v, h => ⟨n, t, by simpa using h.symm⟩
  | _, _, .cons n t r, i + 1, v, h => ints_get r (by simpa using h)
section
variable {prog : Program} {w : World} {A : Around} {E : Value → Shared → Prop} {s : Shared} {g : Heap} {L l : Addr} {e k : Nat} {news : List (Addr × Obj)} {vs : List Value} {Q : Value → Shared → Prop}
theorem lenN (N : News g L s.heap news) (hm : (l, W.listOf vs.toArray e) ∈ news) (hl : vs.length = k) (hb : k < 1000) (h : Q (.int (k : Int) (s.toks + 1)) { s with toks := s.toks + 1 + 1 }) : wpAny (model prog w) A (call (.builtin "len") [.ref l]) Q E s := by
  refine len_list (items := vs.toArray) ⟨_, (N _ hm).1, rfl, e, rfl⟩ ?_ ?_
  · rw [List.size_toArray]; omega
  · rw [List.size_toArray, hl]; exact h
end
end Mine
end -- L0
section -- L1
theorem Mine.calm_L1 : True := by
  w_top off
  trivial
open PySem PySem.W PySem.Calls PyProof.Rows
set_option Elab.async false
set_option maxRecDepth 100000
namespace Mine
/-- what holds between two turns of the law's for -/
def JF (b : Heap) (L lh ld l : Addr) (ws : List Value) (s₁ : Shared) (I : Addr) (i : Nat) (s' : Shared) : Prop :=
  ∃ h tk m' xs hl oI, s' = { s₁ with heap := h, toks := tk } ∧ Fr b L h m' ∧ m' (Str.ofString "heap") = some (.ref lh) ∧ m' (Str.ofString "held") = some (.ref ld) ∧ Inv b { s₁ with heap := h, toks := tk } lh ld xs hl ∧ xs.length ≤ i ∧
    oI.cls = .type "list_iterator" ∧ oI.data = .fields #[.ref l, .int (i : Int) 0] ∧ News b L h [(I, oI), (l, W.listOf ws.toArray 0)] ∧ I ≠ l
theorem jf_start {b : Heap} {L lh ld l : Addr} {ws : List Value} {s s₁ : Shared} {m : Str → Option Value} {news : List (Addr × Obj)} (hs : s = { s₁ with heap := s.heap, toks := s.toks }) (F : Fr b L s.heap m) (N : News b L s.heap news)
    (h1 : (l, W.listOf ws.toArray 0) ∈ news) (h2 : (ld, W.listOf #[] 0) ∈ news) (h3 : (lh, W.listOf #[] 0) ∈ news) (m1 : m (Str.ofString "heap") = some (.ref lh)) (m2 : m (Str.ofString "held") = some (.ref ld)) (hne : lh ≠ ld) (htk : 1 ≤ s.toks) :
    JF b L lh ld l ws s₁ s.heap.objs.size 0 { s with heap := s.heap.push { cls := .type "list_iterator", data := .fields #[.ref l, .int 0 0] } } := by
  have N' := N.push F { cls := .type "list_iterator", data := .fields #[.ref l, .int 0 0] }
  refine ⟨s.heap.push { cls := .type "list_iterator", data := .fields #[.ref l, .int 0 0] }, s.toks, m, [], [], { cls := .type "list_iterator", data := .fields #[.ref l, .int 0 0] }, by rw [hs], F.push _, m1, m2, ?_, Nat.le_refl _, rfl, rfl, ?_, fun q => ?_⟩
  · have P2 := N' _ (.tail _ h2)
    have P3 := N' _ (.tail _ h3)
    exact ⟨⟨0, P3.1, (fun x hx => nomatch hx), (fun x hx => nomatch hx), by decide⟩, ⟨[], 0, P2.1, .nil⟩, hne, P3.2.2, P2.2.2, fun i h0 hi => absurd hi (Nat.not_lt_zero _), .refl _, (fun x hx => nomatch hx), htk, (fun x hx => nomatch hx)⟩
  · intro p hp
    rcases List.mem_cons.mp hp with rfl | hp
    · exact N' _ (.head _)
    rw [List.mem_singleton.mp hp]; exact N' _ (.tail _ h1)
  · exact Nat.lt_irrefl _ (q ▸ Heap.lt_size (N _ h1).1)
theorem sb_keep {h h' : Heap} {I : Addr} {oI : Obj} {p : Addr × Obj} (hsb : Heap.SameBut I h h') (hI : h.get? I = some oI) (hc : oI.cls = .type "list_iterator") (hp : h.get? p.1 = some p.2) (hne : p.2.cls ≠ .type "list_iterator") : h'.get? p.1 = some p.2 :=
  (hsb.2 p.1 (fun q => hne (by rw [q, hI] at hp; rw [← Option.some.inj hp]; exact hc))).trans hp
theorem news_turn {b h h' : Heap} {L lh ld l I : Addr} {xs : List It} {ws vs : List Value} {e e2 : Nat} {oI oI' : Obj} (N : News b L h ((ld, W.listOf vs.toArray e2) :: (lh, W.listOf (vals xs).toArray e) :: ([(I, oI), (l, W.listOf ws.toArray 0)] ++ itl xs)))
    (hc : oI.cls = .type "list_iterator") (hsb : Heap.SameBut I h h') (hI' : h'.get? I = some oI') : News b L h' ((ld, W.listOf vs.toArray e2) :: (lh, W.listOf (vals xs).toArray e) :: (I, oI') :: (l, W.listOf ws.toArray 0) :: itl xs) := by
  have PI := N (I, oI) (.tail _ (.tail _ (.head _)))
  intro p hp
  rcases List.mem_cons.mp hp with rfl | hp
  · have P := N _ (.head _)
    exact ⟨sb_keep hsb PI.1 hc P.1 (by simp), P.2⟩
  rcases List.mem_cons.mp hp with rfl | hp
  · have P := N _ (.tail _ (.head _))
    exact ⟨sb_keep hsb PI.1 hc P.1 (by simp), P.2⟩
  rcases List.mem_cons.mp hp with rfl | hp
  · exact ⟨hI', PI.2⟩
  rcases List.mem_cons.mp hp with rfl | hp
  · have P := N _ (.tail _ (.tail _ (.tail _ (.head _))))
    exact ⟨sb_keep hsb PI.1 hc P.1 (by simp), P.2⟩
  have P := N _ (.tail _ (.tail _ (.tail _ (.tail _ hp))))
  obtain ⟨x, hx, rfl⟩ := List.mem_map.mp hp
  exact ⟨sb_keep hsb PI.1 hc P.1 (by simp), P.2⟩
theorem jf_end {b h h5 : Heap} {s₁ : Shared} {L lh ld l I : Addr} {xs : List It} {hl : List Nat} {ws vs : List Value} {e e2 tk5 tk i : Nat} {oI : Obj} {m : Str → Option Value} {news : List (Addr × Obj)} (I5 : Inv b { s₁ with heap := h5, toks := tk5 } lh ld xs hl) (F : Fr b L h m) (N : News b L h news)
    (h1 : (ld, W.listOf vs.toArray e2) ∈ news) (h2 : (lh, W.listOf (vals xs).toArray e) ∈ news) (h3 : (I, oI) ∈ news) (h4 : (l, W.listOf ws.toArray 0) ∈ news) (h6 : ∀ p ∈ itl xs, p ∈ news) (hi : IntsAre vs (hl.map fun (k : Nat) => (k : Int))) (htk : tk5 ≤ tk)
    (m1 : m (Str.ofString "heap") = some (.ref lh)) (m2 : m (Str.ofString "held") = some (.ref ld)) (hx : xs.length ≤ i) (c : oI.cls = .type "list_iterator") (d : oI.data = .fields #[.ref l, .int (i : Int) 0]) (hIl : I ≠ l) : JF b L lh ld l ws s₁ I i { s₁ with heap := h, toks := tk } := by
  refine ⟨h, tk, m, xs, hl, oI, rfl, F, m1, m2, inv_of (s := { s₁ with heap := h5, toks := tk5 }) I5 N h1 h2 h6 hi htk, hx, c, d, fun p hp => ?_, hIl⟩
  rcases List.mem_cons.mp hp with rfl | hp
  · exact N _ h3
  rw [List.mem_singleton.mp hp]; exact N _ h4
theorem tup_neI {w : World} {prog : Program} {s : Shared} {Q E : Value → Shared → Prop} {A : Around} {g : Heap} {L b : Addr} {m : Str → Option Value} {news : List (Addr × Obj)} {u : K3} {k : Nat} {x : It} {xs : List It} (X : (Mine.hd.heap_39 w.params).In g) (F : Fr g L s.heap m) (N : News g L s.heap news)
    (hs : ∀ p ∈ itl xs, p ∈ news) (hx : x ∈ xs) (mb : (b, tupOf (flts (nm x.k) u) k) ∈ news) (hlt : x.k < 1024) (h1 : NZ x.t) (h2 : NZ u) (hu : A.units < cLine) (h : Q (.bool false) s) : wpAny (model prog w) A (compareOp .NotEq (.ref x.a) (.ref b)) Q E s :=
  tup_ne hu (apt_of_teq (feq_nm hlt) h1.1 h1.2.1 h1.2.2 h2.1 h2.2.1 h2.2.2) (booked_of (X.keeps F.keep)) (itl_ok N hs hx) (N _ mb).1 (feq_nm hlt) h
/-- what holds between two turns of the law's while -/
def JW (b : Heap) (L lh ld : Addr) (s₁ : Shared) (n : Nat) (s' : Shared) : Prop :=
  ∃ h tk m' xs hl, s' = { s₁ with heap := h, toks := tk } ∧ Fr b L h m' ∧ m' (Str.ofString "heap") = some (.ref lh) ∧ m' (Str.ofString "held") = some (.ref ld) ∧ Inv b { s₁ with heap := h, toks := tk } lh ld xs hl ∧ xs.length < 100 ∧ n = xs.length
theorem eb_keep {h h' : Heap} {I a : Addr} {oI o : Obj} (he : Heap.ExtBut I h h') (hI : h.get? I = some oI) (hc : oI.cls = .type "list_iterator") (hp : h.get? a = some o) (hne : o.cls ≠ .type "list_iterator") : h'.get? a = some o :=
  he a o (fun q => hne (by rw [q, hI] at hp; rw [← Option.some.inj hp]; exact hc)) hp
theorem jw_start {b h h' : Heap} {s₁ : Shared} {L lh ld l I : Addr} {xs : List It} {hl : List Nat} {ws : List Value} {tk : Nat} {oI : Obj} {m : Str → Option Value} (Iv : Inv b { s₁ with heap := h, toks := tk } lh ld xs hl) (F : Fr b L h m) (N : News b L h [(I, oI), (l, W.listOf ws.toArray 0)]) (c : oI.cls = .type "list_iterator")
    (he : Heap.ExtBut I h h') (m1 : m (Str.ofString "heap") = some (.ref lh)) (m2 : m (Str.ofString "held") = some (.ref ld)) (hx : xs.length < 100) {tk' : Nat} (htk : tk ≤ tk') : JW b L lh ld s₁ xs.length { s₁ with heap := h', toks := tk' } := by
  have PI := N _ (.head _)
  obtain ⟨⟨e, H⟩, ⟨vs, e2, hvs, hints⟩, hne, hbh, hbd, hHp, hperm, htok, hpos, hfr⟩ := Iv
  refine ⟨h', tk', m, xs, hl, rfl, fr_step (X := [I]) F (fun a o e n => he a o (by simpa using n) e) (by simp; exact ⟨PI.2.2, PI.2.1⟩), m1, m2, ⟨⟨e, eb_keep he PI.1 c H.at_ (by simp), fun x hx => ?_, H.cst, H.len⟩, ⟨vs, e2, eb_keep he PI.1 c hvs (by simp), hints⟩, hne, hbh, hbd, hHp, hperm, fun x hx => (htok x hx).wide (Nat.le_refl _) htk, Nat.le_trans hpos htk, hfr⟩, hx, rfl⟩
  have k := H.ok x hx
  exact ⟨eb_keep he PI.1 c k.at_ (by simp), k.lt, k.n1, k.n2, k.n3⟩
theorem inv_sub {b h : Heap} {s : Shared} {L lh ld : Addr} {xs ys : List It} {hd hd' : List Nat} {vs : List Value} {e e2 tk : Nat} {news : List (Addr × Obj)} (I : Inv b s lh ld xs hd) (N : News b L h news)
    (h1 : (ld, W.listOf vs.toArray e2) ∈ news) (h2 : (lh, W.listOf (vals ys).toArray e) ∈ news) (h3 : ∀ p ∈ itl xs, p ∈ news) (hsub : ∀ y ∈ ys, y ∈ xs) (hHp' : Hp ys) (hperm' : List.Perm (ys.map It.k) hd') (hi : IntsAre vs (hd'.map fun (k : Nat) => (k : Int))) (htk : s.toks ≤ tk) (hlen : ys.length < 900) : Inv b { s with heap := h, toks := tk } lh ld ys hd' := by
  obtain ⟨⟨e', H⟩, _, hne, hbh, hbd, hHp, hperm, htok, hpos, hfr⟩ := I
  refine ⟨⟨e, (N _ h2).1, fun x hx => ?_, fun x hx y hy => H.cst x (hsub x hx) y (hsub y hy), hlen⟩, ⟨vs, e2, (N _ h1).1, hi⟩, hne, hbh, hbd, hHp', hperm', fun x hx => (htok x (hsub x hx)).wide (Nat.le_refl _) htk, Nat.le_trans hpos htk, fun x hx => hfr x (hsub x hx)⟩
  have k := H.ok x (hsub x hx)
  exact ⟨itl_ok N h3 (hsub x hx), k.lt, k.n1, k.n2, k.n3⟩
theorem itl_ne {h : Heap} {l : Addr} {its : Array Value} {e : Nat} {xs : List It} (hl : h.get? l = some (W.listOf its e)) (hok : ∀ x ∈ xs, ItOk h x) : ∀ p ∈ itl xs, p.1 ≠ l := fun p hp => by
  obtain ⟨x, hx, rfl⟩ := List.mem_map.mp hp
  exact it_ne (hok x hx) hl
theorem fair_useB {w : World} {mean : ExcName → Option Value} {mg mb : Str → Option Value} {s : Shared} {Q E : Value → Shared → Prop} {A : Around} {b : Heap} {L : Addr} {m : Str → Option Value} {news : List (Addr × Obj)} {y : It} {M : Int} {tn : Tok} (X : (Mine.hd.heap_39 w.params).In b) (T : Top Mine.hd.view_39 (looseW Mine.hd.view_39 []) mean mg mb b) (F : Fr b L s.heap m) (N : News b L s.heap news) (hh : A.handled = none) (hd : A.depth ≤ 380) (hu : A.units ≤ 350)
    (hy : ItOk s.heap y) (hb : b.get? y.a = none) (hs : 1 ≤ s.toks) (hM : M = (y.k : Int))
    (h : ∀ h' tk, s.toks ≤ tk → Fr b L h' m → News b L h' news → Q (.bool true) { s with heap := h', toks := tk }) :
    wpAny (model PySem.Challenge.rw_mq0226_01.row.prog w) A (call (.ref 96) [.ref y.a, .int M tn]) Q E s := by
  subst hM
  refine weaken hh hd hu (gain (fair_spec ⟨X, T⟩ (kp_fr F) hy.lt hy.at_ hy.n1 hy.n2 hy.n3 hs hb fun h' tk kp hle => ?_))
  exact h h' tk hle (fr_step (X := []) F kp (by simp)) fun p hp => ⟨kp _ _ (N p hp).1 (by simp), (N p hp).2⟩
local macro_rules | `(tactic| walk_at "compareOp Eq ref ref") => `(tactic| refine halt_at ?_)
local macro_rules | `(tactic| walk_at "compareOp NotEq ref ref") => `(tactic| (k_here; (with_reducible show wpAny _ _ (compareOp CmpOp.NotEq (Value.ref (It.a _)) (Value.ref _)) _ _ _); refine halt_at ?_))
local macro_rules | `(tactic| walk_at "execs cons") => `(tactic| (k_here; (with_reducible refine execs_T ?_); intro tk htk; (try dsimp only at htk); (try dsimp only)))
local macro_rules | `(tactic| walk_at "execs nil") => `(tactic| ((with_reducible refine wpAny_execs_nil ?_); try dsimp only))
local macro_rules | `(tactic| walk_at "TokPost") => `(tactic| ((with_reducible refine tokPost_ ?_); intro htk; (try dsimp only at htk); (try dsimp only)))
local macro_rules | `(tactic| walk_at "eval Name") => `(tactic| (k_here; k_dflt (refine' ld ?k1 ?k2 ?_; (case k1 => k_asm); (case k2 => first | exact rfl | assumption); k_whole)))
local macro_rules | `(tactic| walk_at "exec For") => `(tactic| refine halt_at ?_)
local macro_rules | `(tactic| walk_at "exec For Name BinOp") => `(tactic| refine halt_at ?_)
local macro_rules | `(tactic| walk_at "exec For Name BinOp cons nil") => `(tactic| refine halt_at ?_)
local macro_rules | `(tactic| walk_at "exec While") => `(tactic| refine halt_at ?_)
local macro_rules | `(tactic| walk_at "exec While Compare cons nil") => `(tactic| refine halt_at ?_)
local macro_rules | `(tactic| walk_at "pyIter ref") => `(tactic| refine halt_at ?_)
local macro_rules | `(tactic| walk_at "call ref") => `(tactic| refine halt_at ?_)
local macro_rules | `(tactic| walk_at "call builtin:list.remove") => `(tactic| refine halt_at ?_)
local macro_rules | `(tactic| walk_at "call builtin:min") => `(tactic| refine halt_at ?_)
local macro_rules | `(tactic| walk_at "subscriptTail") => `(tactic| refine halt_at ?_)
local macro_rules | `(tactic| walk_at "call builtin:len") => `(tactic| (k_here; k_dflt (refine' lenN ?k1 ?k2 ?k3 ?k4 ?_; (case k1 => k_asm); (case k2 => k_mem); (case k3 => assumption); (case k4 => omega); k_whole)))
set_option maxHeartbeats 8000000 in
theorem law_walk : PySem.Challenge.rw_mq0226_01.Holds := by
  refine Mine.hd ?_
  w_strict (
    k_fill
    intro w s₀ s₁ mg mb G Y fa o pm cd doc dV kV ho hdd hcd hD hmg hg args vls as hpre hlay hrd hwl hlo
    have KX := kIn_of Y
    k_behind G ho hdd hcd hD hmg hpre hlay hrd hwl hlo cd
    (all_goals try k_fold)
    k_steps)
  show wpAny _ _ _ _ _ _
  refine wpAny_mono (E := fun _ _ => False) ?_ (fun _ _ q => q) (fun _ _ q => q.elim)
  refine wpAny_For ?_
  w_strict (k_steps)
  show wpAny _ _ _ _ _ _
  dsimp only
  rename_i lh q1 q2 ld q3 hlt1 q4 q5 q6 q7 q8 q9 r1 r2 r3 q10 q11 q12 hIs hC q13 q14 q15 q16 q17 D ws h FF NN hI hlt
  (with_reducible rename Top _ _ _ _ _ _ => T)
  have hne : lh ≠ ld := Nat.ne_of_lt hlt1
  have hDlh : @Ne Nat D lh := fun q => by omega
  have hDld : @Ne Nat D ld := fun q => by omega
  have hLlh : lh ≠ s₁.heap.objs.size := (NN (lh, W.listOf #[] 0) (by k_mem)).2.1
  have hLld : ld ≠ s₁.heap.objs.size := (NN (ld, W.listOf #[] 0) (by k_mem)).2.1
  have hwl : ws.length ≤ 30 := by
    rw [hI.length, List.length_append, hC]
    simp only [List.length_cons, List.length_nil]
    omega
  refine for_listL (s := { s₁ with heap := h, toks := _ }) rfl (JF s₁.heap s₁.heap.objs.size lh ld D ws s₁) ⟨_, (NN _ (.head _)).1, rfl, _, rfl⟩ (jf_start rfl FF NN (.head _) (by k_mem) (by k_mem) rfl rfl hne (Nat.succ_le_succ (Nat.zero_le _))) ?hJ ?turn ?done
  case hJ =>
    rintro I i s' ⟨h, tk, m', xs, hl, oI, rfl, _, _, _, _, _, c, d, N, _⟩
    exact ⟨⟨oI, (N _ (.head _)).1, c, d⟩, ⟨_, (N _ (.tail _ (.head _))).1, rfl, _, rfl⟩⟩
  case turn =>
    clear FF NN hlt
    rintro I i v s' h' ⟨h2, tk2, m', xs, hl, oI, rfl, F2, m1, m2, Iv, hxi, c, d, N2, hIl⟩ hv ⟨oI', hI', c', d'⟩ hsb
    obtain ⟨n, t, rfl⟩ := ints_get hI (by simpa using hv)
    have hil : i < ws.length := by simpa using (Array.getElem?_eq_some_iff.mp hv).1
    dsimp only at hsb
    have PI := N2 _ (.head _)
    obtain ⟨vs, e, e2, hints, NA⟩ := news_inv Iv F2 hLlh hLld N2
    have N3 := news_turn NA c hsb hI'
    have F3 : Fr s₁.heap s₁.heap.objs.size h' m' := fr_step (X := [I]) F2 (fun a o e n => (hsb.2 a (by simpa using n)).trans e) (by simp; exact ⟨PI.2.2, PI.2.1⟩)
    clear NA N2 F2 hv hsb
    k_sweep
    dsimp only
    w_strict (k_steps)
    show wpAny _ _ _ _ _ _
    (with_reducible rename Fr _ _ _ _ => FF)
    (with_reducible rename News _ _ _ (_ :: _) => NN)
    refine deed_specS rfl (below_caller _) KX T FF hLlh hLld (inv_of (s := { s₁ with heap := h2, toks := tk2 }) Iv NN (.head _) (.tail _ (.head _)) (fun p hp => .tail _ (.tail _ (.tail _ (.tail _ hp)))) hints (by dsimp only; omega)) (by omega) ?_
    intro h5 tk5 xs5 hl5 hle5 kp F5 I5 hx5
    dsimp only at hle5
    have QI := NN (I, oI') (.tail _ (.tail _ (.head _)))
    have QD := NN (D, _) (.tail _ (.tail _ (.tail _ (.head _))))
    have hIlh : I ≠ lh := fun q => by
      have z := (NN _ (.tail _ (.head _))).1
      rw [← q, QI.1] at z
      have := congrArg Obj.cls (Option.some.inj z)
      rw [c'] at this
      simp at this
    have hIld : I ≠ ld := fun q => by
      have z := (NN _ (.head _)).1
      rw [← q, QI.1] at z
      have := congrArg Obj.cls (Option.some.inj z)
      rw [c'] at this
      simp at this
    have R5 : News s₁.heap s₁.heap.objs.size h5 [(I, oI'), (D, W.listOf ws.toArray 0)] := fun p hp => by
      rcases List.mem_cons.mp hp with rfl | hp
      · exact ⟨kp _ _ QI.1 (by simp; exact ⟨hIlh, hIld, QI.2.1⟩), QI.2⟩
      rw [List.mem_singleton.mp hp]
      exact ⟨kp _ _ QD.1 (by simp; exact ⟨hDlh, hDld, QD.2.1⟩), QD.2⟩
    obtain ⟨vs5, e5, e25, hints5, N5⟩ := news_inv I5 F5 hLlh hLld R5
    (simp only [List.cons_append, List.nil_append] at N5)
    have hv5 : (vals xs5).length = xs5.length := vals_len _
    have hs5 : vs5.length = xs5.length := by rw [hints5.length, List.length_map, ← I5.perm.length_eq, List.length_map]
    have hx5' : xs5.length < 100 := by omega
    clear NN FF kp QI QD R5 hints
    (try dsimp only at N5 F5)
    k_sweep
    (try dsimp only)
    w_strict (k_steps)
    · exact absurd rfl (by assumption)
    · (with_reducible rename Fr _ _ _ _ => FF)
      (with_reducible rename News _ _ _ (_ :: _) => NN)
      exact jf_end (i := i + 1) I5 FF NN (.tail _ (.head _)) (.tail _ (.tail _ (.head _))) (.tail _ (.tail _ (.tail _ (.head _)))) (.tail _ (.tail _ (.tail _ (.tail _ (.head _))))) (fun p hp => .tail _ (.tail _ (.tail _ (.tail _ (.tail _ hp))))) hints5 (by omega) m1 m2 (by omega) c' d' hIl
    · show wpAny _ _ _ _ _ _
      (with_reducible rename Fr _ _ _ _ => FF)
      (with_reducible rename News _ _ _ (_ :: _) => NN)
      (with_reducible rename decide _ = false => hemp)
      have hxs : 0 < xs5.length := by
        rw [← hs5, hints5.length]
        refine Nat.pos_of_ne_zero fun q => absurd (hemp.symm.trans ?_) Bool.false_ne_true
        rw [List.length_eq_zero_iff.mp q]; rfl
      refine item_itR NN (.tail _ (.tail _ (.head _))) (by decide) (show (0 : Int).toNat < xs5.length from hxs) (by omega) ?_
      (try dsimp only)
      w_strict (k_steps)
      show wpAny _ _ _ _ _ _
      refine gain (kso_min FF NN ⟨_, (NN _ (.tail _ (.head _))).1, rfl, _, rfl⟩ hints5 (by rw [← hints5.length]; omega) rfl ?_)
      intro h6 M t6 tk6 F6 N6 hM hMl hle6
      clear NN FF
      dsimp only at hle6
      have hMr := least_root I5.hp I5.perm hxs hM hMl
      k_sweep
      (try dsimp only)
      w_strict (k_steps)
      show wpAny _ _ _ _ _ _
      (with_reducible rename Fr _ _ _ _ => FF)
      (with_reducible rename News _ _ _ (_ :: _) => NN)
      obtain ⟨eL, HL⟩ := I5.lay
      have hit := HL.ok _ (gd_mem hxs)
      refine name_use (k := (gd xs5 0).k) KX T FF NN rfl (Nat.le_of_ble_eq_true rfl) (Nat.le_of_ble_eq_true rfl) hMr hit.lt ?_
      intro Dn h7 tk7 tn hle7 F7 N7 aN v1 v2 v3
      clear NN FF
      dsimp only at hle7
      have nz7 := nz_fsh v1 v2 v3 (by dsimp only; omega)
      clear v1 v2 v3 aN
      k_sweep
      (try dsimp only)
      w_strict (k_steps)
      show wpAny _ _ _ _ _ _
      (with_reducible rename Fr _ _ _ _ => FF)
      (with_reducible rename News _ _ _ (_ :: _) => NN)
      refine tup_neI (x := gd xs5 0) (xs := xs5) KX FF NN (fun p hp => by repeat (first | exact hp | refine List.Mem.tail _ ?_)) (gd_mem hxs) (.head _) hit.lt ⟨hit.n1, hit.n2, hit.n3⟩ nz7 (Nat.le_of_ble_eq_true rfl) ?_
      (try dsimp only)
      w_strict (k_steps)
      exact jf_end (i := i + 1) I5 FF NN (by k_mem) (by k_mem) (by k_mem) (by k_mem) (fun p hp => by repeat (first | exact hp | refine List.Mem.tail _ ?_)) hints5 (by omega) m1 m2 (by omega) c' d' hIl
  case done =>
    clear FF NN hlt
    rintro I s' h' ⟨h2, tk2, m', xs, hl, oI, rfl, F2, m1, m2, Iv, hxi, c, d, N2, hIl⟩ he
    have hx0 : xs.length < 100 := by rw [List.size_toArray] at hxi; omega
    dsimp only
    w_strict (k_steps)
    show wpAny _ _ _ _ _ _
    refine while_rule (JW s₁.heap s₁.heap.objs.size lh ld s₁) xs.length (jw_start Iv F2 N2 c he m1 m2 hx0 (by omega)) ?_
    clear Iv F2 N2 m1 m2 he c d hIl hxi hx0
    clear m' xs hl oI
    rintro n s' ⟨h3, tk3, m3, xs, hl, rfl, F3, m1, m2, Iv, hx, rfl⟩
    obtain ⟨vs, e, e2, hints, NA⟩ := news_inv Iv F3 hLlh hLld (rest := []) (fun p hp => nomatch hp)
    (simp only [List.nil_append] at NA)
    have hvs : vs.length = xs.length := by rw [hints.length, List.length_map, ← Iv.perm.length_eq, List.length_map]
    (try dsimp only at NA F3)
    k_sweep
    w_strict (k_steps)
    · show wpAny _ _ _ _ _ _
      (with_reducible rename Fr _ _ _ _ => FF)
      (with_reducible rename News _ _ _ (_ :: _) => NN)
      (with_reducible rename decide _ = true => hemp)
      have hl0 : hl = [] := by simpa using hemp
      clear hemp
      have xs0 : xs = [] := by
        have hp := Iv.perm
        rw [hl0] at hp
        exact List.map_eq_nil_iff.mp (List.perm_nil.mp hp)
      subst xs0
      refine eq_intsK (vs := []) (us := []) (ns := []) (ms := []) ⟨_, (NN _ (.tail _ (.tail _ (.tail _ (.head _))))).1, rfl, _, rfl⟩ .nil ⟨_, (NN _ (.head _)).1, rfl, _, rfl⟩ .nil (Nat.le_of_ble_eq_true rfl) ?_
      (try dsimp only)
      w_strict (k_steps)
    · show wpAny _ _ _ _ _ _
      (with_reducible rename Fr _ _ _ _ => FF)
      (with_reducible rename News _ _ _ (_ :: _) => NN)
      (with_reducible rename decide _ = false => hemp)
      have hxs : 0 < xs.length := by
        rw [← hvs, hints.length]
        refine Nat.pos_of_ne_zero fun q => absurd (hemp.symm.trans ?_) Bool.false_ne_true
        rw [List.length_eq_zero_iff.mp q]; rfl
      clear hemp
      have NB : News s₁.heap s₁.heap.objs.size _ ((ld, W.listOf vs.toArray e2) :: (lh, W.listOf (vals xs).toArray e) :: itl xs) := fun p hp => NN p (.tail _ hp)
      clear NN
      refine gain (kso_min FF NB ⟨_, (NB _ (.head _)).1, rfl, _, rfl⟩ hints (by rw [← hints.length]; omega) rfl ?_)
      intro h6 M t6 tk6 F6 N6 hM hMl hle6
      clear NB FF
      dsimp only at hle6
      have hMr := least_root Iv.hp Iv.perm hxs hM hMl
      obtain ⟨eL, HL⟩ := Iv.lay
      k_sweep
      (try dsimp only)
      w_strict (k_steps)
      show wpAny _ _ _ _ _ _
      (with_reducible rename Fr _ _ _ _ => FF)
      (with_reducible rename News _ _ _ (_ :: _) => NN)
      have hok1 : ∀ {h : Heap}, News s₁.heap s₁.heap.objs.size h (itl xs) → ∀ x ∈ xs, ItOk h x := fun N x hx => ⟨itl_ok N (fun p hp => hp) hx, (HL.ok x hx).lt, (HL.ok x hx).n1, (HL.ok x hx).n2, (HL.ok x hx).n3⟩
      refine remove_ints FF NN (fun p hp => ?hr) hints hM (by rw [← hints.length]; omega) ?_
      case hr =>
        rcases List.mem_cons.mp hp with rfl | hp
        · exact hne
        · exact itl_ne (NN _ (.head _)).1 (hok1 fun p hp => NN p (.tail _ (.tail _ hp))) p hp
      intro q2 h7 hq2 F7 N7
      rw [hMr, map_erase] at hq2
      clear NN FF
      k_sweep
      (try dsimp only)
      w_strict (k_steps)
      show wpAny _ _ _ _ _ _
      (with_reducible rename Fr _ _ _ _ => FF)
      (with_reducible rename News _ _ _ (_ :: _) => NN)
      have NB : News s₁.heap s₁.heap.objs.size _ ((lh, W.listOf (vals xs).toArray e) :: (ld, W.listOf q2.toArray (e2 + 1)) :: itl xs) := fun p hp => by
        rcases List.mem_cons.mp hp with rfl | hp
        · exact NN _ (.tail _ (.head _))
        rcases List.mem_cons.mp hp with rfl | hp
        · exact NN _ (.head _)
        exact NN _ (.tail _ (.tail _ hp))
      clear NN
      refine pop_use KX T FF NB (fun p hp => ?hr) rfl (Nat.le_of_ble_eq_true rfl) (Nat.le_of_ble_eq_true rfl) (hok1 fun p hp => NB p (.tail _ (.tail _ hp))) HL.cst (by omega) hxs ?_
      case hr =>
        rcases List.mem_cons.mp hp with rfl | hp
        · exact fun q => hne q.symm
        · exact itl_ne (NB _ (.head _)).1 (hok1 fun p hp => NB p (.tail _ (.tail _ hp))) p hp
      intro h8 tk8 e8 hle8 _ F8 N8
      clear NB FF
      dsimp only at hle8
      k_sweep
      (try dsimp only)
      w_strict (k_steps)
      show wpAny _ _ _ _ _ _
      (with_reducible rename Fr _ _ _ _ => FF)
      (with_reducible rename News _ _ _ (_ :: _) => NN)
      obtain ⟨p1, p2, p3⟩ := pop_ok Iv.hp hxs
      have hr : (hpop xs).1 ∈ xs := by rw [p3]; exact gd_mem hxs
      refine fair_useB KX T FF NN rfl (Nat.le_of_ble_eq_true rfl) (Nat.le_of_ble_eq_true rfl) (hok1 (fun p hp => NN p (.tail _ (.tail _ hp))) _ hr) (Iv.fresh _ hr) (by have := Iv.pos; dsimp only at this ⊢; omega) (by rw [p3]; exact hMr) ?_
      intro h9 tk9 hle9 F9 N9
      clear NN FF
      dsimp only at hle9
      k_sweep
      (try dsimp only)
      w_strict (k_steps)
      (with_reducible rename Fr _ _ _ _ => FF)
      (with_reducible rename News _ _ _ (_ :: _) => NN)
      have hlq := p2.length_eq
      rw [List.length_cons] at hlq
      refine ⟨(hpop xs).2.length, by omega, _, _, _, (hpop xs).2, hl.erase (gd xs 0).k, rfl, FF, m1, m2, inv_sub (s := { s₁ with heap := h3, toks := tk3 }) Iv NN (.tail _ (.head _)) (.head _) (fun p hp => .tail _ (.tail _ hp)) (fun y hy => p2.subset (.tail _ hy)) p1 (by rw [← p3]; exact perm_out p2 Iv.perm) hq2 (by dsimp only; omega) (by omega), by omega, rfl⟩
end Mine
end -- L1
set_option maxRecDepth 100000 in
set_option maxHeartbeats 8000000 in
theorem PySem.Challenge.cw_mq0226_01_holds : PySem.Challenge.rw_mq0226_01.Holds := by
  exact Mine.law_walk
