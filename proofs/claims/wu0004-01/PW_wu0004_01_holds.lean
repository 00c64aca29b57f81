import PyProof.Rows.All
import Wide.All
import OpenK.AllK
import Wide.FinOn
import PySem.Challenge.RW_wu0004_01
/-! wu0004-01 (law). Parts: the head; the entry of a call; a rule for comprehensions; plain laws; the contract of each function; the law's body. -/
set_option Elab.async false
set_option linter.all false
set_option compiler.extract_closed false
open PySem PySem.W PySem.Calls PyProof.Rows
set_option maxRecDepth 100000
set_option maxHeartbeats 8000000

namespace Mine
/-- the view leaves out the four rows that name the modules -/
def isDef : Stmt → Bool
  | .Assign .. => false
  | _ => true
def view : Program := { PySem.Challenge.pw_wu0004_01 with main := { PySem.Challenge.pw_wu0004_01.main with body := PySem.Challenge.pw_wu0004_01.main.body.filter isDef } }
/-- the looks at the law's text, one by one (the library's line for this, `o_law`, costs 1.8 MB) -/
theorem law_said : OpenLaw.wellSaid PySem.Challenge.rw_wu0004_01 = true := by
  unfold OpenLaw.wellSaid OpenRow.wellSaid OpenRow.partSaid looksOpen
  repeat' (first | with_reducible refine look_both ?_ ?_ | decide +kernel)
section
/-! the head with the whole top checked at once by the kernel: a tenth of the size of the head in pieces -/
local macro_rules | `(tactic| o_law) => `(tactic| refine holds_law Mine.law_said fun said => ?_)
local macro_rules | `(tactic| o_head $H) => `(tactic| (
  (refine holds_open (q := Mine.view) (loose := []) (Xt := fun s => xlAt Mine.view [] s && recOk (RowW.records (OpenRow.toRowW (OpenLaw.row PySem.Challenge.rw_wu0004_01))) s) (XP := XL Mine.view []) (Yf := Hook.obs $H) (Ya := Hook.val $H) (YP := Hook.says $H) (N := 1190) ?hl (Hook.of $H) (Hook.keeps $H) (fun s e => xl_of s (Bool.and_eq_true_iff.mp e).1) XL.keeps (by rfl) (by rfl) (by rfl) (fun s e => recFacts_of (Bool.and_eq_true_iff.mp e).2) (by rfl) (by first | assumption | decide +kernel) (by decide +kernel) ⟨rfl, rfl, rfl, rfl, rfl, by decide +kernel⟩ ?hw ?hc)
  (case hl => exact fun w => by kernel_rfl)))
open_top hd for PySem.Challenge.rw_wu0004_01
end

theorem fill : (fun (_ : OpenLaw) (_ : Params → Frag) => True) PySem.Challenge.rw_wu0004_01 hd.heap_1 := by
  k_fill
  w_top off
  trivial
section
/-! Base -/
local macro_rules | `(tactic| walk_at "no key") => `(tactic| fail)
/-- everything stays -/
def Ext (h h' : Heap) : Prop := ∀ b o, h.get? b = some o → h'.get? b = some o
theorem Ext.refl (h : Heap) : Ext h h := fun _ _ e => e
theorem Ext.trans {a b c : Heap} (x : Ext a b) (y : Ext b c) : Ext a c := fun p o e => y p o (x p o e)

/-- the ground of the law: the top's objects stand in G, and G stands in h -/
structure Cx (w : World) (mean : ExcName → Option Value) (mg mb : Str → Option Value) (G h : Heap) : Prop where
  X : (hd.heap_1 w.params).In G
  T : Top view (looseW view []) mean mg mb G
  S : Ext G h
theorem Cx.ext {w : World} {mean : ExcName → Option Value} {mg mb : Str → Option Value} {G h h' : Heap} (C : Cx w mean mg mb G h) (e : Ext h h') : Cx w mean mg mb G h' := ⟨C.X, C.T, C.S.trans e⟩

/-- an object that the call has made -/
structure Ob (G h : Heap) (p : Addr × Obj) : Prop where
  is : h.get? p.1 = some p.2
  new : G.get? p.1 = none
def Obs (G h : Heap) (l : List (Addr × Obj)) : Prop := ∀ p ∈ l, Ob G h p

abbrev Aof (d u : Nat) : Around := { handled := none, depth := d, frames := none, guards := none, units := u }
structure Fits (A : Around) (d u : Nat) : Prop where
  h : A.handled = none
  d : A.depth ≤ d
  u : A.units ≤ u
theorem below_fits {Γ : Ctx} {A : Around} {d u : Nat} (f : Fits A d u) (b : Γ.Below A) : Γ.Below (Aof d u) :=
  ⟨b.1.trans f.h, Nat.le_trans b.2.1 f.d, (fun _ h => nomatch h), (fun _ h => nomatch h), Nat.le_trans b.2.2.2.2 f.u⟩
theorem codeAny_fits {M : Model} {A : Around} {c : Code} {R : Result → Shared → Prop} {s : Shared} {d u : Nat} (f : Fits A d u) (h : codeAny M (Aof d u) c R s) : codeAny M A c R s :=
  fun Γ p hc hb => h Γ p hc (below_fits f hb)

theorem fr_ext {h₀ h h' : Heap} {L : Addr} {m : Str → Option Value} (F : Fr h₀ L h m) (e : Ext h h') : Fr h₀ L h' m :=
  ⟨F.ns.keeps e, fun b o q => e b o (F.keep b o q), F.above⟩
theorem news_ext {h₀ h h' : Heap} {L : Addr} {news : List (Addr × Obj)} (N : News h₀ L h news) (e : Ext h h') : News h₀ L h' news :=
  fun p hp => ⟨e _ _ (N p hp).1, (N p hp).2.1, (N p hp).2.2⟩
theorem news_tail {h₀ h : Heap} {L : Addr} {p : Addr × Obj} {news : List (Addr × Obj)} (N : News h₀ L h (p :: news)) : News h₀ L h news := fun q hq => N q (.tail _ hq)
/-- what a call hands back: objects that were not there before -/
def Made (h h' : Heap) (l : List (Addr × Obj)) : Prop := ∀ p ∈ l, h'.get? p.1 = some p.2 ∧ h.get? p.1 = none
theorem news_made {h₀ h h' : Heap} {L : Addr} {m : Str → Option Value} {news l : List (Addr × Obj)} (F : Fr h₀ L h m) (N : News h₀ L h news) (e : Ext h h') (M : Made h h' l) : News h₀ L h' (l ++ news) := by
  intro p hp
  rcases List.mem_append.mp hp with hp | hp
  · obtain ⟨q1, q2⟩ := M p hp
    refine ⟨q1, fun q => ?_, ?_⟩
    · obtain ⟨oL, _, _, hL, _⟩ := F.ns
      rw [← q, q2] at hL
      cases hL
    · cases q : h₀.get? p.1 with
      | none => rfl
      | some o => rw [F.keep _ _ q] at q2; cases q2
  · exact news_ext N e p hp
theorem made_ne {h₀ h h' : Heap} {L : Addr} {news l : List (Addr × Obj)} (N : News h₀ L h news) (M : Made h h' l) : ∀ p ∈ l, ∀ q ∈ news, p.1 ≠ q.1 := by
  intro p hp q hq e
  have a := (M p hp).2
  rw [e, (N q hq).1] at a
  cases a

/-- two addresses that are not one: kept from omega's eyes -/
def NeA (a b : Nat) : Prop := a ≠ b
theorem NeA.l {a b : Nat} (h : NeA a b) : a ≠ b := h
theorem NeA.r {a b : Nat} (h : NeA a b) : b ≠ a := fun e => h e.symm
def AllNe (d : Addr) : List (Addr × Obj) → Prop
  | [] => True
  | p :: r => NeA d p.1 ∧ AllNe d r
def AllNe2 : List (Addr × Obj) → List (Addr × Obj) → Prop
  | [], _ => True
  | p :: r, l => AllNe p.1 l ∧ AllNe2 r l
theorem allNe_of {d : Addr} : ∀ {l : List (Addr × Obj)}, (∀ q ∈ l, d ≠ q.1) → AllNe d l
  | [], _ => trivial
  | _ :: _, h => ⟨h _ (.head _), allNe_of fun q hq => h q (.tail _ hq)⟩
theorem allNe2_of : ∀ {k l : List (Addr × Obj)}, (∀ p ∈ k, ∀ q ∈ l, p.1 ≠ q.1) → AllNe2 k l
  | [], _, _ => trivial
  | _ :: _, _, h => ⟨allNe_of (h _ (.head _)), allNe2_of fun p hp => h p (.tail _ hp)⟩
theorem made_apart {h₀ h h' : Heap} {L : Addr} {news l : List (Addr × Obj)} (N : News h₀ L h news) (M : Made h h' l) : AllNe2 l news := allNe2_of (made_ne N M)

/-- what the body of a call hands on -/
def Back (s : Shared) (hid : List (Addr × Obj)) (P : Value → List (Addr × Obj) → Prop) (v : Value) (s' : Shared) : Prop :=
  ∃ L' m' news' g, Fr g L' s'.heap m' ∧ News g L' s'.heap news' ∧ g = hideAll s.heap (hid.map (·.1)) ∧ (∀ p ∈ hid, p ∈ news') ∧ ∃ l, (∀ p ∈ l, p ∈ news') ∧ (∀ p ∈ l, ∀ q ∈ hid, p.1 ≠ q.1) ∧ P v l ∧ ∃ h' tk', s' = { s with heap := h', toks := tk' }

theorem back_mk {s : Shared} {g h' : Heap} {L' : Addr} {m' : Str → Option Value} {hid l news' : List (Addr × Obj)} {P : Value → List (Addr × Obj) → Prop} {v : Value} {tk' : Nat}
    (F : Fr g L' h' m') (N : News g L' h' news') (hg : g = hideAll s.heap (hid.map (·.1))) (hP : P v l) (hi : ∀ p ∈ hid, p ∈ news') (hl : ∀ p ∈ l, p ∈ news') (hn : ∀ p ∈ l, ∀ q ∈ hid, p.1 ≠ q.1) : Back s hid P v { s with heap := h', toks := tk' } :=
  ⟨_, _, _, _, F, N, hg, hi, l, hl, hn, hP, _, _, rfl⟩

theorem back_one {s : Shared} {g h' : Heap} {L' : Addr} {m' : Str → Option Value} {hid news' : List (Addr × Obj)} {P : Value → List (Addr × Obj) → Prop} {t : Addr} {o : Obj} {tk' : Nat}
    (F : Fr g L' h' m') (N : News g L' h' news') (hg : g = hideAll s.heap (hid.map (·.1))) (hm : (t, o) ∈ news') (hi : ∀ p ∈ hid, p ∈ news') (hn : ∀ q ∈ hid, t ≠ q.1) (hP : P (.ref t) [(t, o)]) : Back s hid P (.ref t) { s with heap := h', toks := tk' } :=
  back_mk F N hg hP hi (fun p hp => by cases hp with | head => exact hm | tail _ q => cases q) (fun p hp => by cases hp with | head => exact hn | tail _ q => cases q)
theorem back_zero {s : Shared} {g h' : Heap} {L' : Addr} {m' : Str → Option Value} {hid news' : List (Addr × Obj)} {P : Value → List (Addr × Obj) → Prop} {v : Value} {tk' : Nat}
    (F : Fr g L' h' m') (N : News g L' h' news') (hg : g = hideAll s.heap (hid.map (·.1))) (hi : ∀ p ∈ hid, p ∈ news') (hP : P v []) : Back s hid P v { s with heap := h', toks := tk' } :=
  back_mk F N hg hP hi (fun _ h => nomatch h) (fun _ h => nomatch h)

theorem not_hidden : ∀ (l : List Addr) {h : Heap} {b : Addr}, (hideAll h l).get? b = none → b ∉ l → h.get? b = none
  | l, h, b, e, n => by
    cases q : h.get? b with
    | none => rfl
    | some o => rw [hideAll_get l q n] at e; cases e

theorem Back.ext {s s' : Shared} {hid : List (Addr × Obj)} {P : Value → List (Addr × Obj) → Prop} {v : Value} (hh : ∀ p ∈ hid, s.heap.get? p.1 = some p.2) (b : Back s hid P v s') :
    ∃ l h' tk', s' = { s with heap := h', toks := tk' } ∧ Ext s.heap h' ∧ Made s.heap h' l ∧ P v l := by
  obtain ⟨L', m', news', g, F, N, hg, hi, l, h1, h2, h3, h', tk', rfl⟩ := b
  subst hg
  refine ⟨l, h', tk', rfl, fun b o e => ?_, fun p hp => ?_, h3⟩
  · by_cases q : b ∈ hid.map (·.1)
    · obtain ⟨p, hp, rfl⟩ := List.mem_map.mp q
      rw [hh p hp] at e
      rw [← e]
      exact (N p (hi p hp)).1
    · exact F.keep b o (hideAll_get _ e q)
  · refine ⟨(N p (h1 p hp)).1, not_hidden _ (N p (h1 p hp)).2.2 fun q => ?_⟩
    obtain ⟨q, hq, e⟩ := List.mem_map.mp q
    exact h2 p hp q hq e.symm

section
variable {prog : Program} {w : World} {mean : ExcName → Option Value} {mg mb : Str → Option Value} {G : Heap} {A : Around} {s : Shared} {d u : Nat}
  {name qual : Str} {params : Arguments} {body : List Stmt} {scope : Scope} {dV kV doc pm cdv ct oc : Value} {an od : Option Addr} {osl : Array (Option Value)} {f : Addr} {args : List Value} {binds : List (Str × Value)}
  {Q E : Value → Shared → Prop}

theorem enterB (P : Value → List (Addr × Obj) → Prop) (hid : List (Addr × Obj)) (C : Cx w mean mg mb G s.heap) (hA : Fits A d u) (hh : Obs G s.heap hid)
    (hQ : ∀ v l h' tk', Ext s.heap h' → Made s.heap h' l → P v l → Q v { s with heap := h', toks := tk' })
    (ho : (hd.heap_1 w.params).lookup f = some ⟨oc, od, .func (fnOf name qual params body scope dV kV doc pm an cdv ct), osl⟩) (hcd : codeIn (hd.heap_1 w.params) cdv qual = true) (hroom : d < recursionLimit)
    (hbind : BindsTo s (fnOf name qual params body scope dV kV doc pm an cdv ct) ⟨args, []⟩ binds) (hloc : ∀ y ∈ binds, scope.names.lookup y.1 = some .local)
    (h : ∀ g L' h₁ tk, @LE.le Nat _ (s.toks + binds.length) tk → g = hideAll s.heap (hid.map (·.1)) → Fr g L' h₁ (fun y => binds.reverse.lookup y) → News g L' h₁ hid → (hd.heap_1 w.params).In g → Top view (looseW view []) mean mg mb g → (∀ p ∈ hid, p.1 < L') →
      wpAny (model prog w) ((Aof d u).deeper (envOf qual scope L' f cdv)) (execs body (envOf qual scope L' f cdv))
        (fun fl s' => Back s hid P (match fl with | .ret v => v | _ => .none) s')
        (fun _ _ => False)
        { s with heap := h₁, toks := tk })
    (hco : scope.isCoroutine = false) (hgen : scope.isGenerator = false) (hk : scope.kind = .function)
    (hcell : ∀ x ∈ scope.names, x.2 ≠ .cell) : wpAny (model prog w) A (call (.ref f) args) Q E s := by
  refine wpAny_call (codeAny_fits hA ?_)
  refine codeAny_call_def (fd := fnOf name qual params body scope dV kV doc pm an cdv ct) (body := body) (binds := binds) hroom (C.S _ _ (C.X _ _ ho)) rfl (C.T.nolimit.keeps C.S) (codeRec_of (C.X.keeps C.S) hcd) rfl hbind hcell hloc (fun h₁ hns hk₁ => ?_) hco hgen hk
  have st : Ext G (hideAll s.heap (hid.map (·.1))) := fun b o e => hideAll_get _ (C.S b o e) (fun q => by
    obtain ⟨p, hp, rfl⟩ := List.mem_map.mp q
    rw [(hh p hp).new] at e; cases e)
  refine wpAny_mono (h _ s.heap.objs.size h₁ _ (Nat.le_refl _) rfl ⟨hns, fun b o e => hk₁ b o (of_hideAll _ e), Nat.le_of_eq (hideAll_size _ _)⟩
    (fun p hp => ⟨hk₁ _ _ (hh p hp).is, Nat.ne_of_lt (Heap.lt_size (hh p hp).is), hideAll_none _ (List.mem_map_of_mem hp)⟩) (C.X.keeps st) (C.T.keeps st) (fun p hp => Heap.lt_size (hh p hp).is)) (fun fl s' hl => ?_) (fun _ _ y => y.elim)
  obtain ⟨l, h', tk', rfl, e1, e2, e3⟩ := Back.ext (fun p hp => (hh p hp).is) hl
  exact hQ _ _ _ _ e1 e2 e3
theorem enterC (P : Value → List (Addr × Obj) → Prop) (hid : List (Addr × Obj)) (C : Cx w mean mg mb G s.heap) (hA : Fits A d u) (hh : Obs G s.heap hid)
    (hQ : ∀ v l h' tk', Ext s.heap h' → Made s.heap h' l → P v l → Q v { s with heap := h', toks := tk' })
    (ho : (hd.heap_1 w.params).lookup f = some ⟨oc, od, .func (fnOf name qual params body scope dV kV doc pm an cdv ct), osl⟩) (hcd : codeIn (hd.heap_1 w.params) cdv qual = true) (hroom : d < recursionLimit)
    (hbind : BindsTo s (fnOf name qual params body scope dV kV doc pm an cdv ct) ⟨args, []⟩ binds) (hloc : (binds.all fun y => scope.names.lookup y.1 == some .local || scope.names.lookup y.1 == some .cell) = true)
    (hnd : ((cellsFrom 0 scope.names []).map (·.1)).Nodup)
    (h : ∀ g L' h₁ tk cells, @LE.le Nat _ s.toks tk → g = hideAll s.heap (hid.map (·.1)) → Fr g L' h₁ (bindL (envOfC qual scope L' f cdv).kindOf binds fun _ => none) → News g L' h₁ (cells ++ hid) →
      CellsAre (bindC (envOfC qual scope L' f cdv).kindOf binds fun _ => none) (cellsFrom (L' + 1) scope.names []) cells → (hd.heap_1 w.params).In g → Top view (looseW view []) mean mg mb g → (∀ p ∈ hid, p.1 < L') →
      wpAny (model prog w) ((Aof d u).deeper (envOfC qual scope L' f cdv)) (execs body (envOfC qual scope L' f cdv))
        (fun fl s' => Back s hid P (match fl with | .ret v => v | _ => .none) s')
        (fun _ _ => False)
        { s with heap := h₁, toks := tk })
    (hco : scope.isCoroutine = false) (hgen : scope.isGenerator = false) (hk : scope.kind = .function) : wpAny (model prog w) A (call (.ref f) args) Q E s := by
  refine wpAny_call (codeAny_fits hA ?_)
  refine codeAny_call_function (fd := fnOf name qual params body scope dV kV doc pm an cdv ct) hroom (C.S _ _ (C.X _ _ ho)) rfl hco hgen rfl (codeRec_of (C.X.keeps C.S) hcd) (hbind _ _ _ _ ?_)
  refine wpAny_with_toks (n := s.toks) (Nat.le_refl _) (wpAny_newFunctionEnv_cells hk (kindsX hloc _) fun env' he s' x hle => ?_)
  subst he
  refine ⟨((C.T.nolimit.keeps C.S)).keeps x.toInCall.keep, codeAny_func ?_⟩
  obtain ⟨h₁, tk, rfl, _⟩ := x.done
  have hk₁ := x.toInCall.keep
  obtain ⟨cells, NC, Y⟩ := Cl.news (h₀ := s.heap) (Nat.le_refl _) fun n c hm => ⟨x.cell n c (lookup_of_mem_nodup (cellsFrom_names scope.names 0 (s.heap.objs.size + 1) [] [] rfl ▸ hnd) hm), x.above n c hm⟩
  have st : Ext G (hideAll s.heap (hid.map (·.1))) := fun b o e => hideAll_get _ (C.S b o e) (fun q => by
    obtain ⟨p, hp, rfl⟩ := List.mem_map.mp q
    rw [(hh p hp).new] at e; cases e)
  refine wpAny_mono (h _ s.heap.objs.size h₁ tk cells hle rfl ⟨x.toInCall.ns, fun b o e => hk₁ b o (of_hideAll _ e), Nat.le_of_eq (hideAll_size _ _)⟩ (fun p hp => ?_) Y (C.X.keeps st) (C.T.keeps st) (fun p hp => Heap.lt_size (hh p hp).is)) (fun fl s' hl => ?_) (fun _ _ y => y.elim)
  · rcases List.mem_append.mp hp with hp | hp
    · refine ⟨(NC p hp).1, (NC p hp).2.1, ?_⟩
      cases q : (hideAll s.heap (hid.map (·.1))).get? p.1 with
      | none => rfl
      | some o => have := of_hideAll _ q; rw [(NC p hp).2.2] at this; cases this
    · exact ⟨hk₁ _ _ (hh p hp).is, Nat.ne_of_lt (Heap.lt_size (hh p hp).is), hideAll_none _ (List.mem_map_of_mem hp)⟩
  · obtain ⟨l, h', tk', rfl, e1, e2, e3⟩ := Back.ext (fun p hp => (hh p hp).is) hl
    exact hQ _ _ _ _ e1 e2 e3
end
theorem mem_nil' {α : Type} {P : α → Prop} : ∀ p ∈ ([] : List α), P p := fun _ h => nomatch h
theorem mem_cons' {α : Type} {P : α → Prop} {a : α} {l : List α} (h : P a) (r : ∀ p ∈ l, P p) : ∀ p ∈ a :: l, P p := fun p hp => by
  cases hp with
  | head => exact h
  | tail _ q => exact r p q
theorem obs_nil {G h : Heap} : Obs G h [] := mem_nil'
theorem obs_cons {G h : Heap} {p : Addr × Obj} {l : List (Addr × Obj)} (a : Ob G h p) (b : Obs G h l) : Obs G h (p :: l) := mem_cons' a b
end
section
/-! CompG -/
open LCg (NsObj CompEnd Off3 Off1 FinE FinA SrcAt)

/-- a comprehension's one test, or none -/
def tst (t : Option Expr) (env : Env) : Sem Bool := match t with
  | none => pure true
  | some c => isTrue c env (eval c env)

section
variable {prog : Program} {w : World} {A : Around} {E : Value → Shared → Prop} {s : Shared} {h₀ : Heap} {L : Addr} {m : Str → Option Value} {env : Env}

theorem tests_of {t : Option Expr} {Q : Bool → Shared → Prop} (h : wpAny (model prog w) A (tst t env) Q E s) :
    wpAny (model prog w) A (forIn t.toList true fun c r => if r = true then do let ok ← isTrue c env (eval c env); pure (ForInStep.yield ok) else pure (ForInStep.yield r)) Q E s := by
  cases t with
  | none => exact h
  | some c => exact wpAny_tests_one h

theorem loop_any {elt target iter : Expr} {t : Option Expr} {scope : Scope} {pos : Pos} {it acc : Value} {R : Result → Shared → Prop} (I : Nat → Shared → Prop)
    (turn : ∀ n s, I n s → wpAny (model prog w) A (pyNext it) (fun r s₁ => match r with
      | none => R (.ok .next) s₁
      | some v => wpAny (model prog w) A (letOwnedTupleGo target it v) (fun _ s₂ => wpAny (model prog w) A (assign target env v) (fun _ s₃ =>
          wpAny (model prog w) A (tst t env) (fun ok s₄ => if ok = true then
            wpAny (model prog w) A (eval elt env) (fun x s₅ =>
              wpAny (model prog w) A (call (.builtin "list.append") [acc, x]) (fun _ s₆ => ∃ k, k < n ∧ I k s₆) (notedBy (model prog w) A env fun e s' => R (.error e) s') s₅) (notedBy (model prog w) A env fun e s' => R (.error e) s') s₄
            else ∃ k, k < n ∧ I k s₄) (notedBy (model prog w) A env fun e s' => R (.error e) s') s₃) (notedBy (model prog w) A env fun e s' => R (.error e) s') s₂)
          (notedBy (model prog w) A env fun e s' => R (.error e) s') s₁) (notedBy (model prog w) A env fun e s' => R (.error e) s') s)
    (n : Nat) (h : I n s) : codeAny (model prog w) A (.compLoop (.ListComp elt [⟨target, iter, t.toList, 0⟩] scope pos) 0 it acc env) R s := by
  refine codeAny_loop rfl I (fun n s hI => ?_) n h
  show wpAny _ A ((compTurn (.ListComp elt [⟨target, iter, t.toList, 0⟩] scope pos) 0 it acc env).onRaise (fun x => do noteFrame x env; theTreesLotGoes x)) _ _ s
  refine wpAny_noted ?_
  rw [compTurn_list]
  refine wpAny_bind (wpAny_standAt (wpAny_bind (wpAny_mono (turn n s hI) (fun r s₁ h₁ => ?_) fun _ _ q => q)))
  cases r with
  | none => exact wpAny_pure h₁
  | some v =>
    refine wpAny_bind (wpAny_mono h₁ (fun _ s₂ h₂ => ?_) fun _ _ q => q)
    refine wpAny_bind (wpAny_mono h₂ (fun _ s₃ h₃ => ?_) fun _ _ q => q)
    refine wpAny_bind (wpAny_mono (tests_of h₃) (fun ok s₄ h₄ => ?_) fun _ _ q => q)
    cases ok with
    | false => exact wpAny_pure ⟨rfl, h₄⟩
    | true => exact wpAny_bind (wpAny_bind (wpAny_mono h₄ (fun x s₅ h₅ => wpAny_bind (wpAny_mono h₅ (fun _ s₆ h₆ => wpAny_pure (wpAny_pure ⟨rfl, h₆⟩)) fun _ _ q => q)) fun _ _ q => q))

/-- the turns of a comprehension that are left -/
def Turns (prog : Program) (w : World) (A : Around) (h₀ : Heap) (L : Addr) (m : Str → Option Value) (env : Env) (t : Option Expr) (elt : Expr) (scope : Scope) (cl : List (Str × Addr)) (s : Shared)
    (P : Nat → Value → Prop) (S : List (Addr × Obj) → Prop) (Can : Value → List (Addr × Obj) → Prop) (Bd : Value → List (Addr × Obj) → (Str → Option Value) → Prop) (Fin : List Value → List (Addr × Obj) → Prop) : Nat → Nat → List Value → List (Addr × Obj) → Prop
  | 0, _, ys, news => Fin ys news
  | k + 1, i, ys, news => ∀ v, P i v → Can v news ∧ ∀ I oI C oC D m₂ h tk (E' : Value → Shared → Prop), @LE.le Nat _ s.toks tk → NsObj oC m₂ → Bd v news m₂ → Fr h₀ L h m → News h₀ L h ((I, oI) :: (C, oC) :: (D, LCg.lst ys) :: news) → Off3 I C D news → S news → ((@Ne Nat I C) ∧ (@Ne Nat I D) ∧ (@Ne Nat C D)) →
      wpAny (model prog w) A (tst t (compEnvC scope cl C env)) (fun ok s' => if ok = true then
        wpAny (model prog w) A (eval elt (compEnvC scope cl C env)) (CompEnd h₀ L m { s with heap := h, toks := tk } I oI C oC D (LCg.lst ys) S (fun y news' => Turns prog w A h₀ L m env t elt scope cl s P S Can Bd Fin k (i + 1) (ys ++ [y]) news')) E' s'
        else CompEnd h₀ L m { s with heap := h, toks := tk } I oI C oC D (LCg.lst ys) S (fun _ news' => Turns prog w A h₀ L m env t elt scope cl s P S Can Bd Fin k (i + 1) ys news') .none s') E' { s with heap := h, toks := tk }

/-- the target can be bound -/
def Asg (prog : Program) (w : World) (A : Around) (h₀ : Heap) (L : Addr) (env : Env) (target : Expr) (scope : Scope) (cl : List (Str × Addr)) (I : Addr) (St : Nat → Heap → Prop) (Can : Value → List (Addr × Obj) → Prop) (Bd : Value → List (Addr × Obj) → (Str → Option Value) → Prop) : Prop :=
  ∀ i C m' v news (s : Shared) (Q E : Unit → Shared → Prop) (E' : Value → Shared → Prop), St i s.heap → Can v news → News h₀ L s.heap news → s.heap.Ns C m' →
    (∀ h' tk' m'', h'.Ns C m'' → Bd v news m'' → (∀ b o, b ≠ C → s.heap.get? b = some o → h'.get? b = some o) → Q () { s with heap := h', toks := tk' }) →
    wpAny (model prog w) A (letOwnedTupleGo target (.ref I) v) (fun _ s' => wpAny (model prog w) A (assign target (compEnvC scope cl C env) v) Q E' s') E' s

theorem keep_but {h h' : Heap} {I : Addr} (hk : ∀ b o, b ∉ [I] → h.get? b = some o → h'.get? b = some o) : ∀ b o, b ≠ I → h.get? b = some o → h'.get? b = some o := fun b o hb e => hk b o (by simpa using hb) e

theorem block_G {target elt iter : Expr} {t : Option Expr} {scope : Scope} {cl : List (Str × Addr)} {pos : Pos} {s₂ : Shared} {I : Addr} {fp : List Addr} {n : Nat} {P : Nat → Value → Prop} {St : Nat → Heap → Prop} {S : List (Addr × Obj) → Prop} {news : List (Addr × Obj)}
    {Can : Value → List (Addr × Obj) → Prop} {Bd : Value → List (Addr × Obj) → (Str → Option Value) → Prop} {Fin : List Value → List (Addr × Obj) → Prop} {RR : Value → Addr → Result → Shared → Prop}
    (W : Walks prog w A I fp [I] n P St) (hsz : n ≤ sizeLine) (hIo : ∀ i h, St i h → ∃ o, h.get? I = some o)
    (hSt : ∀ i h h' o nw, St i h → h.get? I = some o → h'.get? I = some o → (∀ b o, h₀.get? b = some o → h'.get? b = some o) → News h₀ L h' nw → S nw → St i h')
    (hTg : Asg prog w A h₀ L env target scope cl I St Can Bd)
    (hcell : ∀ y ∈ scope.names, y.2 ≠ .cell) (hkind : scope.kind = .function) (hst : St 0 s₂.heap) (hfp : ∀ b ∈ fp, @LT.lt Nat _ b s₂.heap.objs.size)
    (F : Fr h₀ L s₂.heap m) (N : News h₀ L s₂.heap news) (hIL : L ≠ I) (hI₀ : h₀.get? I = none) (off : ∀ p ∈ news, p.1 ≠ I) (hS : S news)
    (R : Turns prog w A h₀ L m env t elt scope cl s₂ P S Can Bd Fin n 0 [] news)
    (hRR : ∀ D C h tk m' ys news', Fr h₀ L h m → News h₀ L h ((D, LCg.lst ys) :: news') → Off1 D news' → h.Ns C m' → h₀.get? C = none → h₀.get? D = none → C ≠ L → D ≠ L → C ≠ D → (∀ p ∈ news', p.1 ≠ C) → Fin ys news' → RR (.ref D) C (.ok .next) { s₂ with heap := h, toks := tk }) :
    wpAny (model prog w) A (newList []) (fun acc s₃ => wpAny (model prog w) A (newFunctionEnv scope env.globals cl [] env.qual none .none (some env)) (fun cenv s₄ =>
      codeAny (model prog w) A (.compStart (.ListComp elt [⟨target, iter, t.toList, 0⟩] scope pos) 0 (.ref I) acc { cenv with scope := relabel scope env }) (RR acc cenv.locals) s₄) E s₃) E s₂ := by
  refine wpAny_newObj_type (wpAny_newFunctionEnv hcell (by intro y hy; simp at hy) (fun h₁ hns₁ hsb₁ => ?_) hkind)
  dsimp only at hns₁ hsb₁ ⊢
  -- the two new objects: D the list that is made, C the names of the comprehension
  generalize hH : s₂.heap.push { cls := .type "list", dict := none, data := .seq ([] : List Value).toArray } = H at hns₁ hsb₁ ⊢
  generalize hDn : s₂.heap.objs.size = D at *
  have hCs : H.objs.size = D + 1 := by rw [← hH, Heap.size_push, hDn]
  generalize hCn : H.objs.size = C at *
  have lt_of : ∀ b o, s₂.heap.get? b = some o → @LT.lt Nat _ b D := fun b o e => hDn ▸ Heap.lt_size e
  have old : ∀ b o, s₂.heap.get? b = some o → h₁.get? b = some o := fun b o e => hsb₁.extBut b o (neN (by have := lt_of b o e; omega)) (Heap.get?_push_of_some _ (hH ▸ Heap.get?_push_of_some _ e))
  have hacc : h₁.get? D = some (LCg.lst []) := hsb₁.extBut _ _ (neN (by omega)) (Heap.get?_push_of_some _ (hH ▸ hDn ▸ Heap.get?_push_size _ rfl))
  have none_at : ∀ a, @LE.le Nat _ D a → h₀.get? a = none := fun a ha => by
    cases e : h₀.get? a with
    | none => rfl
    | some o => have := lt_of a o (F.keep a o e); omega
  have hD₀ := none_at D (Nat.le_refl _)
  have hC₀ := none_at C (by omega)
  have hLD : @LT.lt Nat _ L D := hDn ▸ F.ns.lt
  have hID : @LT.lt Nat _ I D := hfp I (W.sub I (List.mem_singleton.mpr rfl))
  have nD : ∀ b ∈ fp, b ≠ D := fun b hb => neN (by have := hfp b hb; omega)
  have nC : ∀ b ∈ fp, b ≠ C := fun b hb => neN (by have := hfp b hb; omega)
  have off₀ : Off3 I C D news := Off3.of fun p hp => by
    have := lt_of _ _ (N p hp).1
    exact ⟨off p hp, neN (by omega), neN (by omega)⟩
  have loop : ∀ s₃ : Shared, s₃ = { s₂ with heap := h₁, toks := s₂.toks + ([] : List (Str × Value)).length } →
      codeAny (model prog w) A (.compLoop (.ListComp elt [⟨target, iter, t.toList, 0⟩] scope pos) 0 (.ref I) (.ref D) (compEnvC scope cl C env)) (RR (.ref D) C) s₃ := by
    rintro s₃ rfl
    refine loop_any (env := compEnvC scope cl C env)
      (fun k s' => ∃ h' tk i ys m' nw, s' = { s₂ with heap := h', toks := tk } ∧ @LE.le Nat _ s₂.toks tk ∧ i ≤ n ∧ k = n + 1 - i ∧ ys.length ≤ i ∧ St i h' ∧ Fr h₀ L h' m ∧ h'.Ns C m' ∧ News h₀ L h' ((D, LCg.lst ys) :: nw) ∧
        Off3 I C D nw ∧ S nw ∧ Turns prog w A h₀ L m env t elt scope cl s₂ P S Can Bd Fin (n - i) i ys nw) ?_ (n + 1)
      ⟨h₁, _, 0, [], _, news, rfl, Nat.le_add_right _ _, Nat.zero_le _, rfl, Nat.le_refl _, W.frame _ _ _ hst (fun b _ o e => old b o e), F.keeps old, hns₁, ?_, off₀, hS, R⟩
    · rintro k s' ⟨h', tk, i, ys, m', nw, rfl, htk, hi, rfl, hyl, hst', F', hn', N', off', hS', R'⟩
      have offm := off'.mem
      by_cases hlt : i < n
      · obtain ⟨j, hj⟩ : ∃ j, n - i = j + 1 := ⟨n - i - 1, by omega⟩
        rw [hj] at R'
        refine wpAny_with_toks (n := s₂.toks) htk (W.item i _ _ _ hlt hst' fun v h₂ tk₂ hPv hst₂ hk₂ htk₂ => ?_)
        obtain ⟨hcan, R₁⟩ := R' v hPv
        have kI := keep_but hk₂
        have F₂ : Fr h₀ L h₂ m := ⟨F'.ns.at' fun o e => kI L o hIL e, fun b o e => kI b o (fun q => by rw [q, hI₀] at e; cases e) (F'.keep b o e), F'.above⟩
        have N₂ : News h₀ L h₂ ((D, LCg.lst ys) :: nw) := fun p hp => by
          refine ⟨kI _ _ ?_ (N' p hp).1, (N' p hp).2⟩
          rcases List.mem_cons.mp hp with rfl | hp
          · exact neN (by omega)
          · exact (offm p hp).1
        refine wpAny_with_toks (n := s₂.toks) htk₂ (wpAny_mono (hTg (i + 1) C m' v nw _ (fun _ s' => s₂.toks ≤ s'.toks → _) (fun _ _ => True) _ hst₂ hcan (fun p hp => N₂ p (.tail _ hp)) (hn'.at' fun o e => kI C o (neN (by omega)) e) fun h₃ tk₃ m'' hn₃ hbd hk₃ htk₃ => ?_) (fun _ s' h hle => wpAny_with_toks (n := s₂.toks) hle (wpAny_mono h (fun _ s'' h' hle' => h' hle') fun _ _ x _ => x)) fun _ _ x _ => x)
        have hst₃ : St (i + 1) h₃ := W.frame _ _ _ hst₂ fun b hb o e => hk₃ b o (nC b hb) e
        obtain ⟨oI, heI⟩ := hIo _ _ hst₃
        obtain ⟨oC, heC, hoC⟩ := LCg.ns_obj hn₃
        have F₃ : Fr h₀ L h₃ m := ⟨F₂.ns.at' fun o e => hk₃ L o (neN (by omega)) e, fun b o e => hk₃ b o (fun q => by rw [q, hC₀] at e; cases e) (F₂.keep b o e), F₂.above⟩
        have N₃ : News h₀ L h₃ ((I, oI) :: (C, oC) :: (D, LCg.lst ys) :: nw) := fun p hp => by
          rcases List.mem_cons.mp hp with rfl | hp
          · exact ⟨heI, Ne.symm hIL, hI₀⟩
          · rcases List.mem_cons.mp hp with rfl | hp
            · exact ⟨heC, (neN (by omega)), hC₀⟩
            · refine ⟨hk₃ _ _ ?_ (N₂ p hp).1, (N₂ p hp).2⟩
              rcases List.mem_cons.mp hp with rfl | hp
              · exact neN (by omega)
              · exact (offm p hp).2.1
        refine wpAny_mono (wpAny_toks_of (n := s₂.toks) htk₃ (R₁ I oI C oC D m'' h₃ _ _ htk₃ hoC hbd F₃ N₃ off' hS' ⟨neN (by omega), neN (by omega), neN (by omega)⟩)) (fun ok s₄ ⟨htk₄, h₄⟩ => ?_) fun _ _ e => e.2
        cases ok with
        | true =>
          simp only [if_true] at h₄ ⊢
          refine wpAny_mono (wpAny_toks_of (n := s₂.toks) htk₄ h₄) (fun y s₅ ⟨htk₅, h₅⟩ => ?_) fun _ _ e => e.2
          obtain ⟨h₄, tk₄, nw₄, rfl, F₄, N₄, off₄, hS₄, R₄⟩ := h₅
          have zI := (N₄ (I, oI) (.head _)).1
          have zC := (N₄ (C, oC) (.tail _ (.head _))).1
          have zD := (N₄ (D, LCg.lst ys) (.tail _ (.tail _ (.head _)))).1
          have N₅ : News h₀ L h₄ nw₄ := fun p hp => N₄ p (.tail _ (.tail _ (.tail _ hp)))
          have hst₄ : St (i + 1) h₄ := hSt _ _ _ _ _ hst₃ heI zI F₄.keep N₅ hS₄
          have offm₄ := off₄.mem
          refine append_at (hsz := by show ys.toArray.size ≤ sizeLine; rw [List.size_toArray]; omega) zD fun h₅ hs₅ hD₅ => ?_
          refine ⟨n + 1 - (i + 1), by omega, h₅, tk₄, i + 1, ys ++ [y], _, nw₄, rfl, htk₅, hlt, rfl, by rw [List.length_append, List.length_singleton]; omega,
            W.frame _ _ _ hst₄ fun b hb o e => hs₅.extBut b o (nD b hb) e, F₄.change hs₅ (neN (by omega)) hD₀, (hoC.ns zC).sameBut hs₅ (neN (by omega)), fun p hp => ?_, off₄, hS₄, ?_⟩
          · rcases List.mem_cons.mp hp with rfl | hp
            · exact ⟨hD₅.trans (congrArg some (LCg.lst_snoc ys y)), (neN (by omega)), hD₀⟩
            · exact ⟨hs₅.extBut _ _ (offm₄ p hp).2.2 (N₅ p hp).1, (N₅ p hp).2⟩
          · rw [show n - (i + 1) = j by omega]; exact R₄
        | false =>
          simp only [Bool.false_eq_true, if_false] at h₄ ⊢
          obtain ⟨h₅, tk₄, nw₄, rfl, F₄, N₄, off₄, hS₄, R₄⟩ := h₄
          have zI := (N₄ (I, oI) (.head _)).1
          have zC := (N₄ (C, oC) (.tail _ (.head _))).1
          have N₅ : News h₀ L h₅ nw₄ := fun p hp => N₄ p (.tail _ (.tail _ (.tail _ hp)))
          refine ⟨n + 1 - (i + 1), by omega, h₅, tk₄, i + 1, ys, _, nw₄, rfl, htk₄, hlt, rfl, by omega, hSt _ _ _ _ _ hst₃ heI zI F₄.keep N₅ hS₄, F₄, hoC.ns zC, fun p hp => ?_, off₄, hS₄, ?_⟩
          · rcases List.mem_cons.mp hp with rfl | hp
            · exact N₄ _ (.tail _ (.tail _ (.head _)))
            · exact N₅ p hp
          · rw [show n - (i + 1) = j by omega]; exact R₄
      · obtain rfl : i = n := Nat.le_antisymm hi (Nat.not_lt.mp hlt)
        rw [Nat.sub_self] at R'
        refine W.done _ _ _ hst' fun h₂ tk₂ hk₂ => ?_
        have kI := keep_but hk₂
        refine hRR D C h₂ tk₂ m' ys nw ⟨F'.ns.at' fun o e => kI L o hIL e, fun b o e => kI b o (fun q => by rw [q, hI₀] at e; cases e) (F'.keep b o e), F'.above⟩ (fun p hp => ?_) off'.one (hn'.at' fun o e => kI C o (neN (by omega)) e) hC₀ hD₀ (neN (by omega)) (neN (by omega)) (neN (by omega)) (fun p hp => (offm p hp).2.1) R'
        refine ⟨kI _ _ ?_ (N' p hp).1, (N' p hp).2⟩
        rcases List.mem_cons.mp hp with rfl | hp
        · exact neN (by omega)
        · exact (offm p hp).1
    · intro p hp
      rcases List.mem_cons.mp hp with rfl | hp
      · exact ⟨hacc, (neN (by omega)), hD₀⟩
      · exact ⟨old _ _ (N p hp).1, (N p hp).2⟩
  exact codeAny_compStart_list (loop _ rfl) (W.self 0 _ _ _ (W.frame _ _ _ hst fun b _ o e => old b o e) (loop _ rfl))

/-- what stands behind «in»: it can be iterated -/
def Itb (prog : Program) (w : World) (A : Around) (h₀ : Heap) (L : Addr) (env : Env) (target : Expr) (scope : Scope) (cl : List (Str × Addr)) (xv : Value) (s₁ : Shared) (n : Nat) (P : Nat → Value → Prop) (S : List (Addr × Obj) → Prop) (Can : Value → List (Addr × Obj) → Prop) (Bd : Value → List (Addr × Obj) → (Str → Option Value) → Prop) (news : List (Addr × Obj)) : Prop :=
  ∀ (Q : Value → Shared → Prop) (E' : Value → Shared → Prop),
    (∀ I fp St h, Walks prog w A I fp [I] n P St → (∀ i h, St i h → ∃ o, h.get? I = some o) →
      (∀ i h h' o nw, St i h → h.get? I = some o → h'.get? I = some o → (∀ b o, h₀.get? b = some o → h'.get? b = some o) → News h₀ L h' nw → S nw → St i h') →
      Asg prog w A h₀ L env target scope cl I St Can Bd → St 0 h → (∀ b ∈ fp, @LT.lt Nat _ b h.objs.size) → Ext s₁.heap h → L ≠ I → h₀.get? I = none → (∀ p ∈ news, p.1 ≠ I) → Q (.ref I) { s₁ with heap := h }) →
    wpAny (model prog w) A (pyIter xv) Q E' s₁

def SrcG (prog : Program) (w : World) (A : Around) (h₀ : Heap) (L : Addr) (m : Str → Option Value) (env : Env) (target : Expr) (t : Option Expr) (elt : Expr) (scope : Scope) (cl : List (Str × Addr)) (Fin : Shared → List Value → List (Addr × Obj) → Prop) (xv : Value) (s₁ : Shared) : Prop :=
  ∃ n P S Can Bd news, Fr h₀ L s₁.heap m ∧ News h₀ L s₁.heap news ∧ S news ∧ n ≤ sizeLine ∧ Itb prog w A h₀ L env target scope cl xv s₁ n P S Can Bd news ∧
    ∀ s₂ : Shared, (∃ h, s₂ = { s₁ with heap := h }) → Turns prog w A h₀ L m env t elt scope cl s₂ P S Can Bd (Fin s₂) n 0 [] news

theorem ListComp_G {target elt iter : Expr} {t : Option Expr} {scope : Scope} {cl : List (Str × Addr)} {pos : Pos} {Q : Value → Shared → Prop} (_F₀ : Fr h₀ L s.heap m)
    (hclos : closureFor scope env = pure cl) (hcell : ∀ y ∈ scope.names, y.2 ≠ .cell) (hkind : scope.kind = .function)
    (hnames : ∀ y ∈ scope.names, y.2 = .local → scope.names.lookup y.1 = some .local)
    (h : wpAny (model prog w) A (eval iter env) (SrcG prog w A h₀ L m env target t elt scope cl (fun s₂ => FinE h₀ L m s₂ Q)) E s)
    (hs : ∀ x, foldedSetIterable iter env x = pure x := by intro _; rfl) :
    wpAny (model prog w) A (eval (.ListComp elt [⟨target, iter, t.toList, 0⟩] scope pos) env) Q E s := by
  rw [eval_ListComp]
  refine wpAny_comprehension_free (use := none) rfl hs hclos hkind hnames (wpAny_mono h (fun xv s₁ h₁ => ?_) fun _ _ e => e)
  obtain ⟨n, P, S, Can, Bd, news, F, N, hS, hsz, hit, R⟩ := h₁
  refine hit _ _ fun I fp St g W hIo hSt hTg hst hfp up hIL hI₀ off => ?_
  refine block_G W hsz hIo hSt hTg hcell hkind hst hfp (fr_ext F up) (news_ext N up) hIL hI₀ off hS (R _ ⟨_, rfl⟩) ?_
  intro D C h tk m' ys nw F' N' o1 hn hC₀ hD₀ hCL hDL hCD offC fin
  refine ⟨m', hn, fun h'' hs'' => fin D h'' tk (F'.change hs'' hCL hC₀) (fun p hp => ?_) o1⟩
  refine ⟨hs''.extBut _ _ ?_ (N' p hp).1, (N' p hp).2⟩
  rcases List.mem_cons.mp hp with rfl | hp
  · exact Ne.symm hCD
  · exact offC p hp

theorem Assign_ListComp_G {target elt iter : Expr} {t : Option Expr} {y : Str} {py : Pos} {scope : Scope} {cl : List (Str × Addr)} {pos spos : Pos} {Q : Flow → Shared → Prop} (_F₀ : Fr h₀ L s.heap m) (hLe : env.locals = L)
    (hsw : swapsWith (.ListComp elt [⟨target, iter, t.toList, 0⟩] scope pos) (some (.Name y py)) spos.line env = pure true)
    (hclos : closureFor scope env = pure cl) (hcell : ∀ z ∈ scope.names, z.2 ≠ .cell) (hkind : scope.kind = .function)
    (hnames : ∀ z ∈ scope.names, z.2 = .local → scope.names.lookup z.1 = some .local)
    (hy : env.kindOf y = some .local) (hp : (env.scope.kind == .class || (env.scope.kind == .module && env.locals != env.globals)) = false)
    (h : wpAny (model prog w) A (eval iter env) (SrcG prog w A h₀ L m env target t elt scope cl (fun s₂ => FinA h₀ L m s₂ y Q)) E s)
    (hs : ∀ x, foldedSetIterable iter env x = pure x := by intro _; rfl) :
    wpAny (model prog w) A (exec (.Assign [.Name y py] (.ListComp elt [⟨target, iter, t.toList, 0⟩] scope pos) spos) env) Q E s := by
  subst hLe
  rw [exec_Assign_Name_used _ _ _ _ hsw]
  refine wpAny_bind (wpAny_standAt (wpAny_bind ?_))
  show wpAny _ A (do let _ ← comprehension (.ListComp elt [⟨target, iter, t.toList, 0⟩] scope pos) scope env _ (newList []) false (eval iter env) (some (assign (.Name y py) env))) _ _ s
  refine wpAny_bind (wpAny_mono (wpAny_comprehension_free (use := some (assign (.Name y py) env)) (Q := fun _ s' => Q .next s') rfl hs hclos hkind hnames
    (wpAny_mono h (fun xv s₁ h₁ => ?_) fun _ _ e => e)) (fun _ s' hq => wpAny_pure (wpAny_pure hq)) fun _ _ e => e)
  obtain ⟨n, P, S, Can, Bd, news, F, N, hS, hsz, hit, R⟩ := h₁
  refine hit _ _ fun I fp St g W hIo hSt hTg hst hfp up hIL hI₀ off => ?_
  refine block_G W hsz hIo hSt hTg hcell hkind hst hfp (fr_ext F up) (news_ext N up) hIL hI₀ off hS (R _ ⟨_, rfl⟩) ?_
  intro D C h' tk m' ys nw F' N' o1 hn hC₀ hD₀ hCL hDL hCD offC fin
  show wpAny _ A (assign (.Name y py) env (.ref D)) _ _ _
  refine wpAny_assign_Name (wpAny_storeName_local hy F'.ns (fun h₂ hn₂ hs₂ => ?_) hp)
  have hL₀ : h₀.get? env.locals = none := Heap.get?_none_of_le F'.above
  have F₂ : Fr h₀ env.locals h₂ (fun z => if z = y then some (.ref D) else m z) := ⟨hn₂, fun b o e => hs₂.extBut b o (fun q => by rw [q, hL₀] at e; cases e) (F'.keep b o e), F'.above⟩
  refine ⟨m', hn.sameBut hs₂ hCL, fun h'' hs'' => fin D h'' _ (F₂.change hs'' hCL hC₀) (fun p hp => ?_) o1⟩
  have z : h₂.get? p.1 = some p.2 := hs₂.extBut _ _ (N' p hp).2.1 (N' p hp).1
  refine ⟨hs''.extBut _ _ ?_ z, (N' p hp).2⟩
  rcases List.mem_cons.mp hp with rfl | hp
  · exact Ne.symm hCD
  · exact offC p hp

/-! the targets -/
def CanAny (_ : Value) (_ : List (Addr × Obj)) : Prop := True
def BdName (x : Str) (v : Value) (_ : List (Addr × Obj)) (m₂ : Str → Option Value) : Prop := m₂ x = some v
abbrev tupN (l : List Value) (k : Nat) : Obj := { cls := .type "tuple", data := .seq l.toArray k }
def Can3 (v : Value) (news : List (Addr × Obj)) : Prop := ∃ t a b c k, v = .ref t ∧ (t, tupN [a, b, c] k) ∈ news
def Bd3 (x y z : Str) (v : Value) (news : List (Addr × Obj)) (m₂ : Str → Option Value) : Prop := ∃ t a b c k, v = .ref t ∧ (t, tupN [a, b, c] k) ∈ news ∧ m₂ x = some a ∧ m₂ y = some b ∧ m₂ z = some c

theorem asg_name {x : Str} {px : Pos} {scope : Scope} {cl : List (Str × Addr)} {I : Addr} {St : Nat → Heap → Prop} (hkind : scope.kind = .function) (hx : scope.names.lookup x = some .local) :
    Asg prog w A h₀ L env (.Name x px) scope cl I St CanAny (BdName x) := by
  intro i C m' v news s Q E E' hst _ N hn hQ
  refine wpAny_pure ?_
  refine wpAny_assign_Name (wpAny_storeName_local (lookup_relabel_local hx) hn (fun h₃ hn₃ hs₃ => ?_) (by simp [compEnvC, relabel, hkind]))
  exact hQ h₃ _ _ hn₃ (by simp [BdName]) fun b o hb e => hs₃.extBut b o hb e

theorem asg_3 {x y z : Str} {px py pz tp : Pos} {tk : Nat} {scope : Scope} {cl : List (Str × Addr)} {I : Addr} {St : Nat → Heap → Prop} (hh : A.handled = none) (hLI : ∀ i h, St i h → ∃ l j, h.IsListIter I l j) (hkind : scope.kind = .function)
    (hx : scope.names.lookup x = some .local) (hy : scope.names.lookup y = some .local) (hz : scope.names.lookup z = some .local) (hxy : x ≠ y) (hxz : x ≠ z) (hyz : y ≠ z) :
    Asg prog w A h₀ L env (.Tuple [.Name x px, .Name y py, .Name z pz] tk tp) scope cl I St Can3 (Bd3 x y z) := by
  rintro i C m' v news s Q E E' hst ⟨t, a, b, c, k, rfl, hm⟩ N hn hQ
  have ht : IsTup s.heap t #[a, b, c] := ⟨_, (N _ hm).1, rfl, k, rfl⟩
  obtain ⟨lI, jI, hLi⟩ := hLI _ _ hst
  refine wpAny_letOwnedTupleGo_listiter hLi ?_
  refine assign_Tuple_tuple hh ht rfl rfl fun h₅ he => ?_
  have he' : ∀ b o, s.heap.get? b = some o → h₅.get? b = some o := fun b o e => he b o (Nat.ne_of_lt (Heap.lt_size e)) e
  have st := fun {u : Str} (hu : scope.names.lookup u = some .local) => (lookup_relabel_local hu : (compEnvC scope cl C env).kindOf u = some .local)
  have pl : ((compEnvC scope cl C env).scope.kind == .class || ((compEnvC scope cl C env).scope.kind == .module && (compEnvC scope cl C env).locals != (compEnvC scope cl C env).globals)) = false := by simp [compEnvC, relabel, hkind]
  refine assignInOrder_cons (wpAny_assign_Name (wpAny_storeName_local (st hx) (hn.at' fun o e => he' _ o e) (fun h₆ hn₆ hs₆ => ?_) pl))
  refine assignInOrder_cons (wpAny_assign_Name (wpAny_storeName_local (st hy) hn₆ (fun h₇ hn₇ hs₇ => ?_) pl))
  refine assignInOrder_cons (wpAny_assign_Name (wpAny_storeName_local (st hz) hn₇ (fun h₈ hn₈ hs₈ => ?_) pl))
  refine assignInOrder_nil ?_
  refine hQ h₈ _ _ hn₈ ⟨t, a, b, c, k, rfl, hm, by simp [hxy, hxz], by simp [hyz], by simp⟩ fun b o hb e => ?_
  exact hs₈.extBut b o hb (hs₇.extBut b o hb (hs₆.extBut b o hb (he' b o e)))

/-! the sources -/
theorem itb_list {target : Expr} {scope : Scope} {cl : List (Str × Addr)} {ax : Addr} {its : Array Value} {s₁ : Shared} {Can : Value → List (Addr × Obj) → Prop} {Bd : Value → List (Addr × Obj) → (Str → Option Value) → Prop} {news : List (Addr × Obj)}
    (hh : A.handled = none) (F : Fr h₀ L s₁.heap m) (N : News h₀ L s₁.heap news) (hS : SrcAt h₀ ax its news)
    (hT : ∀ I, Asg prog w A h₀ L env target scope cl I (fun i h => h.IsListIter I ax i ∧ h.IsList ax its) Can Bd) :
    Itb prog w A h₀ L env target scope cl (.ref ax) s₁ its.size (fun i v => its[i]? = some v) (SrcAt h₀ ax its) Can Bd news := by
  intro Q E' hQ
  have hl := hS.list F.keep N
  have hlt : @LT.lt Nat _ ax s₁.heap.objs.size := by obtain ⟨_, e, _⟩ := hl; exact Heap.lt_size e
  refine wpAny_pyIter_list hl ?_
  have up : ∀ b o, s₁.heap.get? b = some o → (s₁.heap.push { cls := .type "list_iterator", data := .fields #[.ref ax, .int 0 0] }).get? b = some o := fun b o e => Heap.get?_push_of_some _ e
  refine hQ s₁.heap.objs.size _ _ _ (Walks.list hh s₁.heap.objs.size ax (Nat.ne_of_lt hlt) its) (fun i h st => by obtain ⟨o, e, _⟩ := st.1; exact ⟨o, e⟩) LCg.list_st (hT _)
    ⟨⟨_, Heap.get?_push_size _ rfl, rfl, rfl⟩, hl.push _⟩ (fun b hb => ?_) up (Nat.ne_of_lt F.ns.lt) (next_is_new F) (fun p hp => Nat.ne_of_lt (Heap.lt_size (N p hp).1))
  show @LT.lt Nat _ b (s₁.heap.push _).objs.size
  rw [Heap.size_push]
  rcases List.mem_cons.mp hb with rfl | hb
  · exact Nat.lt_succ_self _
  · rw [List.mem_singleton.mp hb]; exact Nat.lt_succ_of_lt hlt

def SrcT (ax : Addr) (its : Array Value) (nw : List (Addr × Obj)) : Prop := ∃ o, (ax, o) ∈ nw ∧ o.cls = .type "tuple" ∧ ∃ n, o.data = .seq its n
theorem SrcT.tup {h : Heap} {ax : Addr} {its : Array Value} {nw : List (Addr × Obj)} (S : SrcT ax its nw) (N : News h₀ L h nw) : h.IsTuple ax its := by
  obtain ⟨o, hm, hc, n, hd⟩ := S
  exact ⟨o, (N _ hm).1, hc, n, hd⟩
theorem itb_tup {target : Expr} {scope : Scope} {cl : List (Str × Addr)} {ax : Addr} {its : Array Value} {s₁ : Shared} {Can : Value → List (Addr × Obj) → Prop} {Bd : Value → List (Addr × Obj) → (Str → Option Value) → Prop} {news : List (Addr × Obj)}
    (hh : A.handled = none) (F : Fr h₀ L s₁.heap m) (N : News h₀ L s₁.heap news) (hS : SrcT ax its news)
    (hT : ∀ I, Asg prog w A h₀ L env target scope cl I (fun i h => h.IsTupleIter I ax i ∧ h.IsTuple ax its) Can Bd) :
    Itb prog w A h₀ L env target scope cl (.ref ax) s₁ its.size (fun i v => its[i]? = some v) (SrcT ax its) Can Bd news := by
  intro Q E' hQ
  have hl := hS.tup N
  have hlt : @LT.lt Nat _ ax s₁.heap.objs.size := by obtain ⟨_, e, _⟩ := hl; exact Heap.lt_size e
  refine wpAny_pyIter_tuple hl ?_
  have up : ∀ b o, s₁.heap.get? b = some o → (s₁.heap.push { cls := .type "tuple_iterator", data := .fields #[.ref ax, .int 0 0] }).get? b = some o := fun b o e => Heap.get?_push_of_some _ e
  refine hQ s₁.heap.objs.size _ _ _ (Walks.tuple hh s₁.heap.objs.size ax (Nat.ne_of_lt hlt) its) (fun i h st => by obtain ⟨o, e, _⟩ := st.1; exact ⟨o, e⟩)
    (fun i h h' o nw st e e' k N' S' => ⟨by obtain ⟨o', q, r⟩ := st.1; rw [e] at q; cases q; exact ⟨o, e', r⟩, S'.tup N'⟩) (hT _)
    ⟨⟨_, Heap.get?_push_size _ rfl, rfl, rfl⟩, hl.push _⟩ (fun b hb => ?_) up (Nat.ne_of_lt F.ns.lt) (next_is_new F) (fun p hp => Nat.ne_of_lt (Heap.lt_size (N p hp).1))
  show @LT.lt Nat _ b (s₁.heap.push _).objs.size
  rw [Heap.size_push]
  rcases List.mem_cons.mp hb with rfl | hb
  · exact Nat.lt_succ_self _
  · rw [List.mem_singleton.mp hb]; exact Nat.lt_succ_of_lt hlt

theorem itb_range {target : Expr} {scope : Scope} {cl : List (Str × Addr)} {r : Addr} {a b : Int} {t u v : Tok} {n : Nat} {s₁ : Shared} {Can : Value → List (Addr × Obj) → Prop} {Bd : Value → List (Addr × Obj) → (Str → Option Value) → Prop} {news : List (Addr × Obj)}
    (hh : A.handled = none) (F : Fr h₀ L s₁.heap m) (N : News h₀ L s₁.heap news) (hr : IsRange s₁.heap r a b 1 t u v) (hsm : Builtin.Range.small a b 1 = true) (hn : Builtin.Range.rangeSize a b 1 = ((n : Nat) : Int))
    (hT : ∀ I, Asg prog w A h₀ L env target scope cl I (fun i h => IsRangeIter h I (a + (i : Nat) * 1) ((n : Int) - (i : Nat)) 1) Can Bd) :
    Itb prog w A h₀ L env target scope cl (.ref r) s₁ n (fun i v => ∃ t, v = .int (a + (i : Int)) t) (fun _ => True) Can Bd news := by
  intro Q E' hQ
  refine wpAny_pyIter_range hr hsm ?_
  refine hQ s₁.heap.objs.size _ _ _ (LCg.range_walks hh a n) (fun i h st => ⟨_, st⟩) LCg.range_st (hT _) (by show IsRangeIter _ _ _ _ _; rw [hn]; simpa using Heap.get?_push_size _ rfl) (fun b hb => ?_)
    (fun _ _ e => Heap.get?_push_of_some _ e) (Nat.ne_of_lt F.ns.lt) (next_is_new F) (fun p hp => Nat.ne_of_lt (Heap.lt_size (N p hp).1))
  rw [List.mem_singleton.mp hb]
  show @LT.lt Nat _ s₁.heap.objs.size (s₁.heap.push _).objs.size
  rw [Heap.size_push]; exact Nat.lt_succ_self _

theorem asg_list3 {x y z : Str} {px py pz tp : Pos} {tk : Nat} {scope : Scope} {cl : List (Str × Addr)} {ax : Addr} {its : Array Value} (hh : A.handled = none) (hkind : scope.kind = .function)
    (hx : scope.names.lookup x = some .local) (hy : scope.names.lookup y = some .local) (hz : scope.names.lookup z = some .local) (hxy : x ≠ y) (hxz : x ≠ z) (hyz : y ≠ z) (I : Addr) :
    Asg prog w A h₀ L env (.Tuple [.Name x px, .Name y py, .Name z pz] tk tp) scope cl I (fun i h => h.IsListIter I ax i ∧ h.IsList ax its) Can3 (Bd3 x y z) :=
  asg_3 hh (fun _ _ st => ⟨_, _, st.1⟩) hkind hx hy hz hxy hxz hyz

section
variable {t : Option Expr} {elt : Expr} {scope : Scope} {cl : List (Str × Addr)} {Fin : Shared → List Value → List (Addr × Obj) → Prop} {s₁ : Shared} {news : List (Addr × Obj)} {ax : Addr} {its : Array Value}

/-- a list, one name -/
theorem src_name {x : Str} {px : Pos} (n : Nat) (hn : its.size = n) (hh : A.handled = none) (F : Fr h₀ L s₁.heap m) (N : News h₀ L s₁.heap news) (hS : SrcAt h₀ ax its news) (hsz : n ≤ sizeLine) (hkind : scope.kind = .function) (hx : scope.names.lookup x = some .local)
    (h : ∀ g, Turns prog w A h₀ L m env t elt scope cl { s₁ with heap := g } (fun i v => its[i]? = some v) (SrcAt h₀ ax its) CanAny (BdName x) (Fin { s₁ with heap := g }) n 0 [] news) :
    SrcG prog w A h₀ L m env (.Name x px) t elt scope cl Fin (.ref ax) s₁ := by
  subst hn
  exact ⟨_, _, _, _, _, news, F, N, hS, hsz, itb_list hh F N hS (fun I => asg_name hkind hx), fun _ ⟨g, e⟩ => e ▸ h g⟩
/-- a list of threes, three names -/
theorem src_three {x y z : Str} {px py pz tp : Pos} {tk : Nat} (n : Nat) (hn : its.size = n) (hh : A.handled = none) (F : Fr h₀ L s₁.heap m) (N : News h₀ L s₁.heap news) (hS : SrcAt h₀ ax its news) (hsz : n ≤ sizeLine) (hkind : scope.kind = .function)
    (hx : scope.names.lookup x = some .local) (hy : scope.names.lookup y = some .local) (hz : scope.names.lookup z = some .local) (hxy : x ≠ y) (hxz : x ≠ z) (hyz : y ≠ z)
    (h : ∀ g, Turns prog w A h₀ L m env t elt scope cl { s₁ with heap := g } (fun i v => its[i]? = some v) (SrcAt h₀ ax its) Can3 (Bd3 x y z) (Fin { s₁ with heap := g }) n 0 [] news) :
    SrcG prog w A h₀ L m env (.Tuple [.Name x px, .Name y py, .Name z pz] tk tp) t elt scope cl Fin (.ref ax) s₁ := by
  subst hn
  exact ⟨_, _, _, _, _, news, F, N, hS, hsz, itb_list hh F N hS (asg_list3 hh hkind hx hy hz hxy hxz hyz), fun _ ⟨g, e⟩ => e ▸ h g⟩
theorem src_name_l {x : Str} {px : Pos} (n : Nat) {k : Nat} (hh : A.handled = none) (F : Fr h₀ L s₁.heap m) (N : News h₀ L s₁.heap news) (hm : (ax, ({ cls := .type "list", data := .seq its k } : Obj)) ∈ news) (hn : its.size = n) (hsz : n ≤ sizeLine) (hkind : scope.kind = .function) (hx : scope.names.lookup x = some .local)
    (h : ∀ g, Turns prog w A h₀ L m env t elt scope cl { s₁ with heap := g } (fun i v => its[i]? = some v) (SrcAt h₀ ax its) CanAny (BdName x) (Fin { s₁ with heap := g }) n 0 [] news) :
    SrcG prog w A h₀ L m env (.Name x px) t elt scope cl Fin (.ref ax) s₁ := src_name n hn hh F N (.inr ⟨_, hm, rfl, _, rfl⟩) hsz hkind hx h
theorem src_three_l {x y z : Str} {px py pz tp : Pos} {tk : Nat} (n : Nat) {k : Nat} (hh : A.handled = none) (F : Fr h₀ L s₁.heap m) (N : News h₀ L s₁.heap news) (hm : (ax, ({ cls := .type "list", data := .seq its k } : Obj)) ∈ news) (hn : its.size = n) (hsz : n ≤ sizeLine) (hkind : scope.kind = .function)
    (hx : scope.names.lookup x = some .local) (hy : scope.names.lookup y = some .local) (hz : scope.names.lookup z = some .local) (hxy : x ≠ y) (hxz : x ≠ z) (hyz : y ≠ z)
    (h : ∀ g, Turns prog w A h₀ L m env t elt scope cl { s₁ with heap := g } (fun i v => its[i]? = some v) (SrcAt h₀ ax its) Can3 (Bd3 x y z) (Fin { s₁ with heap := g }) n 0 [] news) :
    SrcG prog w A h₀ L m env (.Tuple [.Name x px, .Name y py, .Name z pz] tk tp) t elt scope cl Fin (.ref ax) s₁ := src_three n hn hh F N (.inr ⟨_, hm, rfl, _, rfl⟩) hsz hkind hx hy hz hxy hxz hyz h
/-- a tuple, one name -/
theorem src_name_t {x : Str} {px : Pos} (n : Nat) {k : Nat} (hh : A.handled = none) (F : Fr h₀ L s₁.heap m) (N : News h₀ L s₁.heap news) (hm : (ax, ({ cls := .type "tuple", data := .seq its k } : Obj)) ∈ news) (hn : its.size = n) (hsz : n ≤ sizeLine) (hkind : scope.kind = .function) (hx : scope.names.lookup x = some .local)
    (h : ∀ g, Turns prog w A h₀ L m env t elt scope cl { s₁ with heap := g } (fun i v => its[i]? = some v) (SrcT ax its) CanAny (BdName x) (Fin { s₁ with heap := g }) n 0 [] news) :
    SrcG prog w A h₀ L m env (.Name x px) t elt scope cl Fin (.ref ax) s₁ := by
  subst hn
  exact ⟨_, _, _, _, _, news, F, N, ⟨_, hm, rfl, _, rfl⟩, hsz, itb_tup hh F N ⟨_, hm, rfl, _, rfl⟩ (fun I => asg_name hkind hx), fun _ ⟨g, e⟩ => e ▸ h g⟩
/-- a range, one name -/
theorem src_range {x : Str} {px : Pos} {r : Addr} {a b : Int} {tk u v : Tok} {n : Nat} (hh : A.handled = none) (F : Fr h₀ L s₁.heap m) (N : News h₀ L s₁.heap news) (hr : IsRange s₁.heap r a b 1 tk u v) (hsm : Builtin.Range.small a b 1 = true) (hn : Builtin.Range.rangeSize a b 1 = ((n : Nat) : Int)) (hsz : n ≤ sizeLine)
    (hkind : scope.kind = .function) (hx : scope.names.lookup x = some .local)
    (h : ∀ g, Turns prog w A h₀ L m env t elt scope cl { s₁ with heap := g } (fun i v => ∃ t, v = .int (a + (i : Int)) t) (fun _ => True) CanAny (BdName x) (Fin { s₁ with heap := g }) n 0 [] news) :
    SrcG prog w A h₀ L m env (.Name x px) t elt scope cl Fin (.ref r) s₁ :=
  ⟨_, _, _, _, _, news, F, N, trivial, hsz, itb_range hh F N hr hsm hn (fun I => asg_name hkind hx), fun _ ⟨g, e⟩ => e ▸ h g⟩
end

/-! the turns -/
section
variable {t : Option Expr} {elt c : Expr} {scope : Scope} {cl : List (Str × Addr)} {P : Nat → Value → Prop} {S : List (Addr × Obj) → Prop} {Can : Value → List (Addr × Obj) → Prop} {Bd : Value → List (Addr × Obj) → (Str → Option Value) → Prop} {Fin : List Value → List (Addr × Obj) → Prop} {k i : Nat} {ys : List Value} {news : List (Addr × Obj)} {its : Array Value}

/-- one turn's walk: the test and the element, or the element alone -/
abbrev Step (prog : Program) (w : World) (A : Around) (h₀ : Heap) (L : Addr) (m : Str → Option Value) (env : Env) (t : Option Expr) (elt : Expr) (scope : Scope) (cl : List (Str × Addr)) (s : Shared) (S : List (Addr × Obj) → Prop) (yes : Value → List (Addr × Obj) → Prop) (no : List (Addr × Obj) → Prop)
    (ys : List Value) (news : List (Addr × Obj)) (B : (Str → Option Value) → Prop) : Prop :=
  ∀ I oI C oC D m₂ h tk (E' : Value → Shared → Prop), @LE.le Nat _ s.toks tk → NsObj oC m₂ → B m₂ → Fr h₀ L h m → News h₀ L h ((I, oI) :: (C, oC) :: (D, LCg.lst ys) :: news) → Off3 I C D news → S news → ((@Ne Nat I C) ∧ (@Ne Nat I D) ∧ (@Ne Nat C D)) →
      wpAny (model prog w) A (tst t (compEnvC scope cl C env)) (fun ok s' => if ok = true then
        wpAny (model prog w) A (eval elt (compEnvC scope cl C env)) (CompEnd h₀ L m { s with heap := h, toks := tk } I oI C oC D (LCg.lst ys) S yes) E' s'
        else CompEnd h₀ L m { s with heap := h, toks := tk } I oI C oC D (LCg.lst ys) S (fun _ => no) .none s') E' { s with heap := h, toks := tk }

theorem Turns.zero (h : Fin ys news) : Turns prog w A h₀ L m env t elt scope cl s P S Can Bd Fin 0 i ys news := h
theorem Turns.succ (h : ∀ v, P i v → Can v news ∧ Step prog w A h₀ L m env t elt scope cl s S (fun y news' => Turns prog w A h₀ L m env t elt scope cl s P S Can Bd Fin k (i + 1) (ys ++ [y]) news') (fun news' => Turns prog w A h₀ L m env t elt scope cl s P S Can Bd Fin k (i + 1) ys news') ys news (Bd v news)) :
    Turns prog w A h₀ L m env t elt scope cl s P S Can Bd Fin (k + 1) i ys news := h
theorem Turns.name {x : Str} {v : Value} (hv : its[i]? = some v)
    (h : Step prog w A h₀ L m env t elt scope cl s S (fun y news' => Turns prog w A h₀ L m env t elt scope cl s (fun i v => its[i]? = some v) S CanAny (BdName x) Fin k (i + 1) (ys ++ [y]) news') (fun news' => Turns prog w A h₀ L m env t elt scope cl s (fun i v => its[i]? = some v) S CanAny (BdName x) Fin k (i + 1) ys news') ys news (fun m₂ => m₂ x = some v)) :
    Turns prog w A h₀ L m env t elt scope cl s (fun i v => its[i]? = some v) S CanAny (BdName x) Fin (k + 1) i ys news := by
  refine Turns.succ fun v' hv' => ⟨trivial, ?_⟩
  obtain rfl : v = v' := Option.some.inj (hv.symm.trans hv')
  exact h
theorem Turns.three {x y z : Str} {tt : Addr} {a b d : Value} {q : Nat} (hv : its[i]? = some (.ref tt)) (hm : (tt, tupN [a, b, d] q) ∈ news)
    (h : Step prog w A h₀ L m env t elt scope cl s S (fun y' news' => Turns prog w A h₀ L m env t elt scope cl s (fun i v => its[i]? = some v) S Can3 (Bd3 x y z) Fin k (i + 1) (ys ++ [y']) news') (fun news' => Turns prog w A h₀ L m env t elt scope cl s (fun i v => its[i]? = some v) S Can3 (Bd3 x y z) Fin k (i + 1) ys news') ys news (fun m₂ => m₂ x = some a ∧ m₂ y = some b ∧ m₂ z = some d)) :
    Turns prog w A h₀ L m env t elt scope cl s (fun i v => its[i]? = some v) S Can3 (Bd3 x y z) Fin (k + 1) i ys news := by
  refine Turns.succ fun v' hv' => ?_
  obtain rfl : Value.ref tt = v' := Option.some.inj (hv.symm.trans hv')
  refine ⟨⟨tt, a, b, d, q, rfl, hm⟩, fun I oI C oC D m₂ g tk E' hle hC hb F N off hSn ne => h I oI C oC D m₂ g tk E' hle hC ?_ F N off hSn ne⟩
  obtain ⟨t', a', b', d', q', e, hm', h1, h2, h3⟩ := hb
  obtain rfl : tt = t' := Value.ref.inj e
  have e1 := (N _ (.tail _ (.tail _ (.tail _ hm)))).1
  have e2 := (N _ (.tail _ (.tail _ (.tail _ hm')))).1
  dsimp only at e1 e2
  rw [e1] at e2
  injection e2 with e2
  injection e2 with _ _ e2 _
  injection e2 with e2 _
  injection e2 with e2
  injection e2 with q1 e2
  injection e2 with q2 e2
  injection e2 with q3 e2
  subst q1 q2 q3
  exact ⟨h1, h2, h3⟩
theorem Turns.rng {x : Str} {a : Int} (h : ∀ tk0 : Tok, Step prog w A h₀ L m env t elt scope cl s S (fun y news' => Turns prog w A h₀ L m env t elt scope cl s (fun i v => ∃ t, v = .int (a + (i : Int)) t) S CanAny (BdName x) Fin k (i + 1) (ys ++ [y]) news') (fun news' => Turns prog w A h₀ L m env t elt scope cl s (fun i v => ∃ t, v = .int (a + (i : Int)) t) S CanAny (BdName x) Fin k (i + 1) ys news') ys news (fun m₂ => m₂ x = some (.int (a + (i : Int)) tk0))) :
    Turns prog w A h₀ L m env t elt scope cl s (fun i v => ∃ t, v = .int (a + (i : Int)) t) S CanAny (BdName x) Fin (k + 1) i ys news := by
  refine Turns.succ fun v' ⟨tk0, hv'⟩ => ⟨trivial, ?_⟩
  subst hv'
  exact h tk0

/-- no test -/
theorem step_plain {yes : Value → List (Addr × Obj) → Prop} {no : List (Addr × Obj) → Prop} {B : (Str → Option Value) → Prop}
    (h : ∀ I oI C oC D m₂ h tk (E' : Value → Shared → Prop), @LE.le Nat _ s.toks tk → NsObj oC m₂ → B m₂ → Fr h₀ L h m → News h₀ L h ((I, oI) :: (C, oC) :: (D, LCg.lst ys) :: news) → Off3 I C D news → S news → ((@Ne Nat I C) ∧ (@Ne Nat I D) ∧ (@Ne Nat C D)) →
      wpAny (model prog w) A (eval elt (compEnvC scope cl C env)) (CompEnd h₀ L m { s with heap := h, toks := tk } I oI C oC D (LCg.lst ys) S yes) E' { s with heap := h, toks := tk }) :
    Step prog w A h₀ L m env none elt scope cl s S yes no ys news B := by
  intro I oI C oC D m₂ g tk E' hle a b c d e q f
  exact wpAny_pure (by simp only [if_true]; exact h I oI C oC D m₂ g tk E' hle a b c d e q f)
/-- a test -/
theorem step_test {yes : Value → List (Addr × Obj) → Prop} {no : List (Addr × Obj) → Prop} {B : (Str → Option Value) → Prop}
    (h : ∀ I oI C oC D m₂ h tk (E' : Value → Shared → Prop), @LE.le Nat _ s.toks tk → NsObj oC m₂ → B m₂ → Fr h₀ L h m → News h₀ L h ((I, oI) :: (C, oC) :: (D, LCg.lst ys) :: news) → Off3 I C D news → S news → ((@Ne Nat I C) ∧ (@Ne Nat I D) ∧ (@Ne Nat C D)) →
      wpAny (model prog w) A (isTrue c (compEnvC scope cl C env) (eval c (compEnvC scope cl C env))) (fun ok s' => if ok = true then
        wpAny (model prog w) A (eval elt (compEnvC scope cl C env)) (CompEnd h₀ L m { s with heap := h, toks := tk } I oI C oC D (LCg.lst ys) S yes) E' s'
        else CompEnd h₀ L m { s with heap := h, toks := tk } I oI C oC D (LCg.lst ys) S (fun _ => no) .none s') E' { s with heap := h, toks := tk }) :
    Step prog w A h₀ L m env (some c) elt scope cl s S yes no ys news B := h

/-- a turn's end: what was made on the way is let go -/
theorem compEnd_drop {s₁ : Shared} {I C D : Addr} {oI oC oD : Obj} {rest : Value → List (Addr × Obj) → Prop} {y : Value} {h' : Heap} {tk : Nat} {all : List (Addr × Obj)} (F : Fr h₀ L h' m) (N : News h₀ L h' all) (off : Off3 I C D news) (hS : S news)
    (sub : ∀ p ∈ (I, oI) :: (C, oC) :: (D, oD) :: news, p ∈ all) (r : rest y news) : CompEnd h₀ L m s₁ I oI C oC D oD S rest y { s₁ with heap := h', toks := tk } := ⟨h', tk, news, rfl, F, fun p hp => N p (sub p hp), off, hS, r⟩
theorem srcAt_more {ax : Addr} {p : Addr × Obj} (h : SrcAt h₀ ax its news) : SrcAt h₀ ax its (p :: news) := h.imp id fun ⟨o, hm, r⟩ => ⟨o, .tail _ hm, r⟩
/-- a turn's end: one object was made and is kept -/
theorem compEnd_keep {s₁ : Shared} {I C D : Addr} {oI oC oD : Obj} {rest : Value → List (Addr × Obj) → Prop} {y : Value} {h' : Heap} {tk : Nat} {p1 : Addr × Obj} {all : List (Addr × Obj)} (F : Fr h₀ L h' m) (N : News h₀ L h' (p1 :: all)) (off : Off3 I C D news) (hS : S (p1 :: news))
    (sub : ∀ p ∈ (I, oI) :: (C, oC) :: (D, oD) :: news, p ∈ p1 :: all) (h1 : @Ne Nat p1.1 I) (h2 : @Ne Nat p1.1 C) (h3 : @Ne Nat p1.1 D) (r : rest y (p1 :: news)) : CompEnd h₀ L m s₁ I oI C oC D oD S rest y { s₁ with heap := h', toks := tk } := by
  refine ⟨h', tk, p1 :: news, rfl, F, fun p hp => ?_, ⟨⟨h1, h2, h3⟩, off⟩, hS, r⟩
  cases hp with
  | head => exact N _ (sub _ (.head _))
  | tail _ hp => cases hp with
    | head => exact N _ (sub _ (.tail _ (.head _)))
    | tail _ hp => cases hp with
      | head => exact N _ (sub _ (.tail _ (.tail _ (.head _))))
      | tail _ hp => cases hp with
        | head => exact N _ (.head _)
        | tail _ hp => exact N _ (sub _ (.tail _ (.tail _ (.tail _ hp))))
theorem srcAt_app {ax : Addr} : ∀ (new : List (Addr × Obj)), SrcAt h₀ ax its news → SrcAt h₀ ax its (new ++ news) := fun _ h => h.imp id fun ⟨o, hm, r⟩ => ⟨o, List.mem_append_right _ hm, r⟩
/-- a turn's end: what stands ahead was made and is kept -/
theorem compEnd_pre {s₁ : Shared} {I C D : Addr} {oI oC oD : Obj} {rest : Value → List (Addr × Obj) → Prop} {y : Value} {h' : Heap} {tk : Nat} (new : List (Addr × Obj)) (F : Fr h₀ L h' m) (N : News h₀ L h' (new ++ (I, oI) :: (C, oC) :: (D, oD) :: news)) (off : Off3 I C D news) (hS : S (new ++ news))
    (hn : ∀ p ∈ new, @Ne Nat p.1 I ∧ @Ne Nat p.1 C ∧ @Ne Nat p.1 D) (r : rest y (new ++ news)) : CompEnd h₀ L m s₁ I oI C oC D oD S rest y { s₁ with heap := h', toks := tk } := by
  have at' : ∀ p ∈ (I, oI) :: (C, oC) :: (D, oD) :: news, p ∈ new ++ (I, oI) :: (C, oC) :: (D, oD) :: news := fun p hp => List.mem_append_right _ hp
  refine ⟨h', tk, new ++ news, rfl, F, fun p hp => ?_, ?_, hS, r⟩
  · cases hp with
    | head => exact N _ (at' _ (.head _))
    | tail _ hp => cases hp with
      | head => exact N _ (at' _ (.tail _ (.head _)))
      | tail _ hp => cases hp with
        | head => exact N _ (at' _ (.tail _ (.tail _ (.head _))))
        | tail _ hp =>
          rcases List.mem_append.mp hp with hp | hp
          · exact N _ (List.mem_append_left _ hp)
          · exact N _ (at' _ (.tail _ (.tail _ (.tail _ hp))))
  · refine Off3.of fun p hp => ?_
    rcases List.mem_append.mp hp with hp | hp
    · exact hn p hp
    · exact off.mem p hp
theorem compEnd_mono {s₁ : Shared} {I C D : Addr} {oI oC oD : Obj} {r r' : Value → List (Addr × Obj) → Prop} {y : Value} {s₂ : Shared} (h : CompEnd h₀ L m s₁ I oI C oC D oD S r y s₂) (k : ∀ nw, r y nw → r' y nw) : CompEnd h₀ L m s₁ I oI C oC D oD S r' y s₂ := by
  obtain ⟨h', tk, nw, e, F, N, off, hS, q⟩ := h
  exact ⟨h', tk, nw, e, F, N, off, hS, k _ q⟩

/-- turns by an invariant -/
theorem turns_ind {n : Nat} (J : Nat → List Value → List (Addr × Obj) → Prop)
    (step : ∀ i ys news v, i < n → J i ys news → P i v → Can v news ∧ Step prog w A h₀ L m env t elt scope cl s S (fun y news' => J (i + 1) (ys ++ [y]) news') (fun news' => J (i + 1) ys news') ys news (Bd v news))
    (fin : ∀ ys news, J n ys news → Fin ys news) : ∀ k i ys news, i + k = n → J i ys news → Turns prog w A h₀ L m env t elt scope cl s P S Can Bd Fin k i ys news
  | 0, i, ys, news, e, j => fin _ _ (by rw [← e]; exact j)
  | k + 1, i, ys, news, e, j => by
    refine Turns.succ fun v hv => ?_
    obtain ⟨c1, st⟩ := step i ys news v (by omega) j hv
    refine ⟨c1, fun I oI C oC D m₂ g tk E' hle a b c d e' q f => ?_⟩
    refine wpAny_mono (st I oI C oC D m₂ g tk E' hle a b c d e' q f) (fun ok s' h => ?_) fun _ _ x => x
    cases ok with
    | true =>
      simp only [if_true] at h ⊢
      exact wpAny_mono h (fun y s'' h' => compEnd_mono h' fun nw j' => turns_ind J step fin k (i + 1) _ _ (by omega) j') fun _ _ x => x
    | false =>
      simp only [Bool.false_eq_true, if_false] at h ⊢
      exact compEnd_mono h fun nw j' => turns_ind J step fin k (i + 1) _ _ (by omega) j'
/-- turns by an invariant that leaves the ledger as it is -/
theorem turns_same {n : Nat} {news₀ : List (Addr × Obj)} (J : Nat → List Value → Prop)
    (step : ∀ i ys v, i < n → J i ys → P i v → Can v news₀ ∧ Step prog w A h₀ L m env t elt scope cl s S (fun y news' => news' = news₀ ∧ J (i + 1) (ys ++ [y])) (fun news' => news' = news₀ ∧ J (i + 1) ys) ys news₀ (Bd v news₀))
    (fin : ∀ ys, J n ys → Fin ys news₀) (k i : Nat) (ys : List Value) (e : i + k = n) (j : J i ys) : Turns prog w A h₀ L m env t elt scope cl s P S Can Bd Fin k i ys news₀ := by
  refine turns_ind (n := n) (fun i ys news => news = news₀ ∧ J i ys) ?_ ?_ k i ys news₀ e ⟨rfl, j⟩
  · rintro i ys news v hi ⟨rfl, hj⟩ hv
    exact step i ys v hi hj hv
  · rintro ys news ⟨rfl, hj⟩
    exact fin ys hj
end
end
end
section
/-! Plain -/
local macro_rules | `(tactic| walk_at "no key") => `(tactic| fail)
/-- a row's stalk -/
def edgesOf (ws : List Int) : List Int := (ws.filter (fun w => decide (w ≠ 0))).map fun w => if 0 < w then 1 else -1
theorem edges_more {ws : List Int} {i : Nat} {w : Int} (h : ws[i]? = some w) : edgesOf (ws.take (i + 1)) = edgesOf (ws.take i) ++ edgesOf [w] := by
  rw [List.take_add_one, h]
  simp [edgesOf]
theorem ints_snoc : ∀ {vs : List Value} {ns : List Int} {n : Int} {t : Tok}, IntsAre vs ns → IntsAre (vs ++ [.int n t]) (ns ++ [n])
  | _, _, n, t, .nil => .cons n t .nil
  | _, _, _, _, .cons a b h => .cons a b (ints_snoc h)
theorem edges_up {ws : List Int} {i : Nat} {w : Int} {ys : List Value} {t : Tok} (h : ws[i]? = some w) (h0 : w ≠ 0) (h1 : 0 < w) (J : IntsAre ys (edgesOf (ws.take i))) : IntsAre (ys ++ [.int 1 t]) (edgesOf (ws.take (i + 1))) := by
  rw [edges_more h]
  have : edgesOf [w] = [1] := by simp [edgesOf, h0, h1]
  rw [this]; exact ints_snoc J
theorem edges_down {ws : List Int} {i : Nat} {w : Int} {ys : List Value} {t : Tok} (h : ws[i]? = some w) (h0 : w ≠ 0) (h1 : ¬ 0 < w) (J : IntsAre ys (edgesOf (ws.take i))) : IntsAre (ys ++ [.int (-1) t]) (edgesOf (ws.take (i + 1))) := by
  rw [edges_more h]
  have : edgesOf [w] = [-1] := by simp [edgesOf, h0, h1]
  rw [this]; exact ints_snoc J
theorem edges_flat {ws : List Int} {i : Nat} {w : Int} {ys : List Value} (h : ws[i]? = some w) (h0 : w = 0) (J : IntsAre ys (edgesOf (ws.take i))) : IntsAre ys (edgesOf (ws.take (i + 1))) := by
  rw [edges_more h]
  have : edgesOf [w] = [] := by simp [edgesOf, h0]
  rw [this, List.append_nil]; exact J
theorem ints_get : ∀ {vs : List Value} {ns : List Int} {i : Nat} {v : Value}, IntsAre vs ns → vs[i]? = some v → ∃ w tk, v = .int w tk ∧ ns[i]? = some w
  | _, _, 0, v, .cons a b h, e => by simp at e; exact ⟨a, b, e.symm, by simp⟩
  | _, _, i + 1, v, .cons a b h, e => by
    simp only [List.getElem?_cons_succ] at e ⊢
    exact ints_get h e
  | _, _, i, v, .nil, e => by simp at e
theorem ints_len {vs : List Value} {ns : List Int} (h : IntsAre vs ns) : vs.length = ns.length := by
  induction h with
  | nil => rfl
  | cons a b h ih => simp [ih]
/-- the worth of a stalk, edge by edge -/
def worthStep (first : Int) (st : Int × Int) (e : Int) : Int × Int :=
  let p := if e ≠ first ∨ st.1 < 4096 then st.1.fdiv 2 else st.1
  (p, st.2 + e * p)
def worthOf (es : List Int) : Int := (es.foldl (worthStep (es.headD 0)) (4096, 0)).2
theorem ints_head {vs : List Value} {ns : List Int} (h : IntsAre vs ns) (hn : ns ≠ []) : ∃ t, vs[0]? = some (.int (ns.headD 0) t) := by
  cases h with
  | nil => exact absurd rfl hn
  | cons a b h => exact ⟨b, rfl⟩
theorem ne_nil_of {ns : List Int} {i : Nat} {n : Int} (h : ns[i]? = some n) : ns ≠ [] := by rintro rfl; simp at h
theorem item0 {prog : Program} {w : World} {A : Around} {E : Value → Shared → Prop} {s : Shared} {h₀ : Heap} {L : Addr} {m : Str → Option Value} {value slice : PySem.Expr} {l : Addr} {vs : List Value} {ns : List Int} {u : Tok} {Q : Value → Shared → Prop}
    (F : Fr h₀ L s.heap m) (hl : h₀.IsList l vs.toArray) (hi : IntsAre vs ns) (hn : ns ≠ []) (h : ∀ t, Q (.int (ns.headD 0) t) s)
    (hs : subscripted slice false (.ref l) (.int 0 u) = operate [.ref l, .int 0 u] (getItem (.ref l) (.int 0 u)) := by with_unfolding_all rfl) :
    wpAny (model prog w) A (subscriptTail value slice (.ref l) (.int 0 u)) Q E s := by
  obtain ⟨t, e⟩ := ints_head hi hn
  exact item_litK (hl.at fun o e => F.keep l o e) (by decide) (by decide) e (h t) hs
/-- the names of worth's frame, in the loop -/
abbrev mapW (l : Addr) (u : Option Value) (p wv : Int) (t1 t2 : Tok) : Str → Option Value := fun y =>
  if y = PySem.Str.ofString "edge" then u else if y = PySem.Str.ofString "part" then some (.int p t1) else if y = PySem.Str.ofString "worth" then some (.int wv t2) else List.lookup y [(PySem.Str.ofString "edges", Value.ref l)].reverse
def JW (l : Addr) (ns : List Int) (i : Nat) (m : Str → Option Value) : Prop := ∃ u p wv t1 t2, m = mapW l u p wv t1 t2 ∧ (p, wv) = (ns.take i).foldl (worthStep (ns.headD 0)) (4096, 0)
theorem iter_W {prog : Program} {w : World} {A : Around} {E : Value → Shared → Prop} {s : Shared} {env : Env} {h₀ : Heap} {body : List Stmt} {Q : Flow → Shared → Prop} {l : Addr} {vs : List Value} {ns : List Int} {m₀ : Str → Option Value} {news : List (Addr × Obj)}
    (hh : A.handled = none) (hl : h₀.IsList l vs.toArray) (hi : IntsAre vs ns) (F : Fr h₀ env.locals s.heap m₀) (N : News h₀ env.locals s.heap news) (hj : JW l ns 0 m₀)
    (turn : ∀ i n t h tk own u p wv t1 t2, ns[i]? = some n → (p, wv) = (ns.take i).foldl (worthStep (ns.headD 0)) (4096, 0) → Fr h₀ env.locals h (fun y => if y = PySem.Str.ofString "edge" then some (.int n t) else mapW l u p wv t1 t2 y) → News h₀ env.locals h (own ++ news) →
      wpAny (model prog w) A (execs body env) (InvPost h₀ env.locals (JW l ns (i + 1)) (own ++ news) { s with heap := h, toks := tk } Q) E { s with heap := h, toks := tk })
    (done : ∀ u p wv t1 t2 h tk, (p, wv) = ns.foldl (worthStep (ns.headD 0)) (4096, 0) → Fr h₀ env.locals h (mapW l u p wv t1 t2) → News h₀ env.locals h news → Q .next { s with heap := h, toks := tk }) :
    wpAny (model prog w) A (pyIter (.ref l)) (fun it s₂ => LoopAtV prog w A h₀ env (PySem.Str.ofString "edge") body Q E it s₂) E s := by
  refine iter_inv (JW l ns) hh hl hi F N hj ?_ ?_
  · rintro i n t m₁ h tk own hn ⟨u, p, wv, t1, t2, rfl, e⟩ F' N'
    exact turn i n t h tk own u p wv t1 t2 hn e F' N'
  · rintro m₁ h tk ⟨u, p, wv, t1, t2, rfl, e⟩ F' N'
    rw [List.take_length] at e
    exact done u p wv t1 t2 h tk e F' N'
theorem pm_bits {ns : List Int} {i : Nat} {n : Int} (hpm : ∀ e ∈ ns, e = 1 ∨ e = -1) (hn : ns[i]? = some n) : Builtin.Int.intBits n ≤ 64 := by
  have h := hpm n (List.mem_of_getElem? hn)
  exact intBits_le_64 (by omega) (by omega)
theorem worth_more {ns : List Int} {i : Nat} {n p wv : Int} (hn : ns[i]? = some n) (e : (p, wv) = (ns.take i).foldl (worthStep (ns.headD 0)) (4096, 0)) : (ns.take (i + 1)).foldl (worthStep (ns.headD 0)) (4096, 0) = worthStep (ns.headD 0) (p, wv) n := by
  rw [List.take_add_one, hn, List.foldl_append, ← e]; rfl
theorem JW_init (l : Addr) (ns : List Int) (t1 t2 : Tok) : JW l ns 0 (fun y => if y = PySem.Str.ofString "part" then some (.int 4096 t1) else if y = PySem.Str.ofString "worth" then some (.int 0 t2) else List.lookup y [(PySem.Str.ofString "edges", Value.ref l)].reverse) := by
  refine ⟨none, 4096, 0, t1, t2, funext fun y => ?_, by simp⟩
  by_cases h : y = PySem.Str.ofString "edge"
  · subst h; rfl
  · simp only [mapW, if_neg h]
theorem JW_half {l : Addr} {ns : List Int} {i : Nat} {n p wv : Int} {u : Option Value} {t1 t2 te tp tw : Tok} (hn : ns[i]? = some n) (e : (p, wv) = (ns.take i).foldl (worthStep (ns.headD 0)) (4096, 0)) (c : n ≠ ns.headD 0 ∨ p < 4096) :
    JW l ns (i + 1) (fun y => if y = PySem.Str.ofString "worth" then some (.int (wv + n * p.fdiv 2) tw) else if y = PySem.Str.ofString "part" then some (.int (p.fdiv 2) tp) else if y = PySem.Str.ofString "edge" then some (.int n te) else mapW l u p wv t1 t2 y) := by
  refine ⟨some (.int n te), p.fdiv 2, wv + n * p.fdiv 2, tp, tw, funext fun y => ?_, ?_⟩
  · by_cases h1 : y = PySem.Str.ofString "edge"
    · subst h1; rfl
    · by_cases h2 : y = PySem.Str.ofString "part"
      · subst h2; rfl
      · by_cases h3 : y = PySem.Str.ofString "worth"
        · subst h3; rfl
        · simp only [mapW, if_neg h1, if_neg h2, if_neg h3]
  · rw [worth_more hn e]; simp only [worthStep, if_pos c]
theorem JW_same {l : Addr} {ns : List Int} {i : Nat} {n p wv : Int} {u : Option Value} {t1 t2 te tw : Tok} (hn : ns[i]? = some n) (e : (p, wv) = (ns.take i).foldl (worthStep (ns.headD 0)) (4096, 0)) (c : ¬ (n ≠ ns.headD 0 ∨ p < 4096)) :
    JW l ns (i + 1) (fun y => if y = PySem.Str.ofString "worth" then some (.int (wv + n * p) tw) else if y = PySem.Str.ofString "edge" then some (.int n te) else mapW l u p wv t1 t2 y) := by
  refine ⟨some (.int n te), p, wv + n * p, t1, tw, funext fun y => ?_, ?_⟩
  · by_cases h1 : y = PySem.Str.ofString "edge"
    · subst h1; rfl
    · by_cases h2 : y = PySem.Str.ofString "part"
      · subst h2; rfl
      · by_cases h3 : y = PySem.Str.ofString "worth"
        · subst h3; rfl
        · simp only [mapW, if_neg h1, if_neg h3]
  · rw [worth_more hn e]; simp only [worthStep, if_neg c]
theorem worth_end {ns : List Int} {p wv : Int} (e : (p, wv) = ns.foldl (worthStep (ns.headD 0)) (4096, 0)) : wv = worthOf ns := congrArg Prod.snd e
/-- what Int2AP writes: figures to the base 16, as letters -/
def apDig (k : Nat) : UInt8 := UInt8.ofNat (65 + k)
def apF : Nat → Nat → List UInt8
  | 0, _ => []
  | f + 1, n => if n = 0 then [] else apF f (n / 16) ++ [apDig (n % 16)]
def apL (n : Nat) : List UInt8 := apF 16 n
theorem apF_zero (f : Nat) : apF f 0 = [] := by cases f <;> simp [apF]
theorem apF_len : ∀ f n, (apF f n).length ≤ f
  | 0, _ => Nat.le_refl _
  | f + 1, n => by
    unfold apF
    split
    · exact Nat.zero_le _
    · rw [List.length_append, List.length_singleton]; exact Nat.succ_le_succ (apF_len f _)
abbrev apTab : Array UInt8 := #[65, 66, 67, 68, 69, 70, 71, 72, 73, 74, 75, 76, 77, 78, 79, 80]
abbrev mapA (b : Str → Option Value) (u : Option Value) (k : Int) (val : Array UInt8) (t1 t2 t3 : Tok) : Str → Option Value := fun y =>
  if y = PySem.Str.ofString "mod" then u else if y = PySem.Str.ofString "val" then some (.bytes val t2) else if y = PySem.Str.ofString "num" then some (.int k t1) else if y = PySem.Str.ofString "AP" then some (.bytes apTab t3) else b y
def JA (b : Str → Option Value) (N : Nat) (f : Nat) (m : Str → Option Value) (news : List (Addr × Obj)) : Prop := ∃ u k val t1 t2 t3, m = mapA b u k val t1 t2 t3 ∧ news = [] ∧ apF f k.toNat ++ val.toList = apL N ∧ 0 ≤ k ∧ k.toNat < 16 ^ f ∧ f ≤ 16
theorem JA_init (n : Int) (tn t1 t2 t3 : Tok) (hn : n.natAbs < 16 ^ 16) : JA (fun y => List.lookup y [(PySem.Str.ofString "num", Value.int n tn)].reverse) n.natAbs 16 (fun y => if y = PySem.Str.ofString "num" then some (.int (if n < 0 then -n else n) t1) else if y = PySem.Str.ofString "AP" then some (.bytes apTab t3) else if y = PySem.Str.ofString "val" then some (.bytes #[] t2) else List.lookup y [(PySem.Str.ofString "num", Value.int n tn)].reverse) [] := by
  have e : (if n < 0 then -n else n).toNat = n.natAbs := by split <;> omega
  refine ⟨none, if n < 0 then -n else n, #[], t1, t2, t3, funext fun y => ?_, rfl, ?_, ?_, ?_, Nat.le_refl _⟩
  · by_cases h1 : y = PySem.Str.ofString "mod"
    · subst h1; rfl
    · by_cases h2 : y = PySem.Str.ofString "num"
      · subst h2; rfl
      · by_cases h3 : y = PySem.Str.ofString "AP"
        · subst h3; rfl
        · by_cases h4 : y = PySem.Str.ofString "val"
          · subst h4; rfl
          · simp only [mapA, if_neg h1, if_neg h2, if_neg h3, if_neg h4]
  · rw [e]; simp [apL]
  · split <;> omega
  · rw [e]; exact hn
theorem JA_end {b : Str → Option Value} {N f : Nat} {val : Array UInt8} {k : Int} (e : apF f k.toNat ++ val.toList = apL N) (h : k = 0) : val = (apL N).toArray := by
  subst h
  rw [show (0 : Int).toNat = 0 from rfl, apF_zero, List.nil_append] at e
  rw [← e]
theorem JA_step {b : Str → Option Value} {N f : Nat} {u : Option Value} {val : Array UInt8} {k : Int} {t1 t2 t3 tm tk tv : Tok} (e : apF f k.toNat ++ val.toList = apL N) (h0 : 0 ≤ k) (hk : k.toNat < 16 ^ f) (hf : f ≤ 16) (hz : ¬ k = 0) :
    ∃ f', f' < f ∧ JA b N f' (fun y => if y = PySem.Str.ofString "val" then some (.bytes (#[apDig (k.fmod 16).toNat] ++ val) tv) else if y = PySem.Str.ofString "mod" then some (.int (k.fmod 16) tm) else if y = PySem.Str.ofString "num" then some (.int (k.fdiv 16) tk) else mapA b u k val t1 t2 t3 y) [] := by
  cases f with
  | zero => exfalso; simp at hk; omega
  | succ f =>
    have hm : k.fmod 16 = k % 16 := Int.fmod_eq_emod_of_nonneg _ (by decide)
    have hd : k.fdiv 16 = k / 16 := Int.fdiv_eq_ediv_of_nonneg _ (by decide)
    refine ⟨f, Nat.lt_succ_self _, some (.int (k.fmod 16) tm), k.fdiv 16, #[apDig (k.fmod 16).toNat] ++ val, tk, tv, t3, funext fun y => ?_, rfl, ?_, ?_, ?_, by omega⟩
    · by_cases h1 : y = PySem.Str.ofString "mod"
      · subst h1; rfl
      · by_cases h2 : y = PySem.Str.ofString "num"
        · subst h2; rfl
        · by_cases h3 : y = PySem.Str.ofString "val"
          · subst h3; rfl
          · simp only [mapA, if_neg h1, if_neg h2, if_neg h3]
    · rw [← e, hd, hm]
      have e1 : (k / 16).toNat = k.toNat / 16 := by omega
      have e2 : (k % 16).toNat = k.toNat % 16 := by omega
      have e3 : ¬ k.toNat = 0 := by omega
      simp only [apF, if_neg e3, e1, e2]
      simp
    · rw [hd]; omega
    · rw [hd]
      have : 16 ^ (f + 1) = 16 ^ f * 16 := rfl
      omega
theorem While_ap {prog : Program} {w : World} {A : Around} {E : Value → Shared → Prop} {Q : Flow → Shared → Prop} {s : Shared} {env : Env} {h₀ : Heap} {L : Addr} {test : PySem.Expr} {body : List Stmt} {pos : Pos} {m : Str → Option Value} {b : Str → Option Value} {N : Nat}
    (F : Fr h₀ L s.heap m) (Ns : News h₀ L s.heap []) (hJ : JA b N 16 m [])
    (turn : ∀ f u k val t1 t2 t3 h₁ tk₁, apF f k.toNat ++ val.toList = apL N → 0 ≤ k → k.toNat < 16 ^ f → f ≤ 16 → Fr h₀ L h₁ (mapA b u k val t1 t2 t3) → News h₀ L h₁ [] →
      wpAny (model prog w) A (isTrue test env (eval test env)) (fun b' s₂ =>
        if b' = true then wpAny (model prog w) A (execs body env) (WhileStep h₀ L s (JA b N) f) E s₂ else Q .next s₂) E { s with heap := h₁, toks := tk₁ })
    (hE : PassesOwn (model prog w) A env E := by passes_own) :
    wpAny (model prog w) A (exec (.While test body [] pos) env) Q E s :=
  While_inv (JA b N) F Ns hJ (fun f m₁ news₁ h₁ tk₁ F₁ N₁ ⟨u, k, val, t1, t2, t3, e1, e2, e3, e4, e5, e6⟩ => by
    subst e1 e2
    exact turn f u k val t1 t2 t3 h₁ tk₁ e3 e4 e5 e6 F₁ N₁) hE
theorem fm_lo (k : Int) : 0 ≤ k.fmod 16 := by rw [Int.fmod_eq_emod_of_nonneg _ (by decide)]; omega
theorem fm_hi (k : Int) : k.fmod 16 < 16 := by rw [Int.fmod_eq_emod_of_nonneg _ (by decide)]; omega
theorem picked_ap {m : Int} (h0 : 0 ≤ m) (h1 : m < 16) : KBy.picked apTab (some m) (some (m + 1)) = #[apDig m.toNat] := by
  have h : ∀ j : Fin 16, KBy.picked apTab (some (j.val : Int)) (some ((j.val : Int) + 1)) = #[apDig j.val] := by decide +kernel
  have := h ⟨m.toNat, by omega⟩
  rwa [show ((m.toNat : Nat) : Int) = m by omega] at this
theorem slice_ap {prog : Program} {w : World} {A : Around} {E : Value → Shared → Prop} {s : Shared} {value slice : PySem.Expr} {t a b : Tok} {h₀ : Heap} {L : Addr} {m : PySem.Str → Option Value} {news : List (Addr × Obj)} {Q : Value → Shared → Prop} {i : Int}
    (h0 : 0 ≤ i) (h1 : i < 16) (hF : Fr h₀ L s.heap m) (hN : News h₀ L s.heap news)
    (h : ∀ h' t' k, Fr h₀ L h' m → News h₀ L h' news → Q (.bytes #[apDig i.toNat] t') { s with heap := h', toks := k })
    (hs : subscripted slice false (.bytes apTab t) (.ref s.heap.objs.size) = operate [.ref s.heap.objs.size, .bytes apTab t] (getItem (.bytes apTab t) (.ref s.heap.objs.size)) := by with_unfolding_all rfl)
    (ht : ∀ r, letTemporaryGo value (.bytes apTab t) r = pure () := by intro _; with_unfolding_all rfl) :
    wpAny (model prog w) A (subscriptTail value slice (.bytes apTab t) (.ref s.heap.objs.size)) Q E { s with heap := s.heap.push { cls := .type "slice", data := .fields #[.int i a, .int (i + 1) b, .none] } } :=
  KBc.slice_K hF hN rfl (.int _ _) (.int _ _) (by decide) (fun h' t' k F N _ => picked_ap h0 h1 ▸ h h' t' k F N) hs ht
theorem ap_fits {f k N : Nat} {val : Array UInt8} {x : UInt8} (e : apF f k ++ val.toList = apL N) : (#[x] : Array UInt8).size + val.size ≤ 16777216 := by
  have h := congrArg List.length e
  rw [List.length_append] at h
  have hz : val.toList.length = val.size := Array.length_toList
  have := apF_len 16 N
  have e2 : (apL N).length = (apF 16 N).length := rfl
  show 1 + val.size ≤ 16777216
  omega
theorem news_none {h₀ h : Heap} {L : Addr} : News h₀ L h [] := fun _ hp => nomatch hp
/-! texts -/
theorem len_rep5 (x y z : Str) (hz : z.length ≤ 5) : (Txt.replace x y z).length ≤ 6 * x.length + 5 := by
  have h1 : (x.length + 1) * z.length ≤ (x.length + 1) * 5 := Nat.mul_le_mul_left _ hz
  unfold Txt.replace
  split
  · omega
  · have h2 := StrLaws.occ_length_le x y 0 x.length (x.length + 1)
    have hy : (Builtin.Str.glued y (Builtin.Str.partsBetween x (Builtin.Str.occurrences x y 0 x.length (x.length + 1)) y.length)).length = x.length := by rw [StrLaws.glued_between_self]
    rw [PySem.size_glued, PySem.length_partsBetween, Nat.add_sub_cancel] at hy
    rw [PySem.size_glued, PySem.length_partsBetween, Nat.add_sub_cancel]
    have h3 : (Builtin.Str.occurrences x y 0 x.length (x.length + 1)).length * z.length ≤ (x.length + 1) * z.length := Nat.mul_le_mul_right _ h2
    omega
theorem rep_le {x y z : Str} {a : Nat} (hz : z.length ≤ 5) (h : x.length ≤ a) : (Txt.replace x y z).length ≤ 6 * a + 5 := by
  have := len_rep5 x y z hz
  omega
theorem rep_none {x y z : Str} (h : (Builtin.Str.occurrences x y 0 x.length 1).isEmpty = true) : Txt.replace x y z = x := by
  have hno : ¬ ∃ i, i + y.length ≤ x.length ∧ Builtin.Str.subAt x y i = true := fun e => by
    have := (StrLaws.found_iff x y).mpr e
    rw [h] at this; cases this
  have he : (Builtin.Str.occurrences x y 0 x.length (x.length + 1)).isEmpty = true := by
    cases ho : Builtin.Str.occurrences x y 0 x.length (x.length + 1) with
    | nil => rfl
    | cons i r =>
      have := StrLaws.occ_spec x y 0 x.length (x.length + 1) i (by rw [ho]; exact .head _)
      exact absurd ⟨i, this⟩ hno
  unfold Txt.replace
  rw [he]; rfl
/-- a text as the escaping writes it, and as it is read again -/
def esc (x : Str) : Str := Txt.replace (Txt.replace (Txt.replace (Txt.replace x (PySem.Str.ofString "&") (PySem.Str.ofString "&amp;")) (PySem.Str.ofString "<") (PySem.Str.ofString "&lt;")) (PySem.Str.ofString ">") (PySem.Str.ofString "&gt;")) (PySem.Str.ofString "\r") (PySem.Str.ofString "&#xD;")
def unesc (x : Str) : Str := Txt.replace (Txt.replace (Txt.replace (Txt.replace x (PySem.Str.ofString "&gt;") (PySem.Str.ofString ">")) (PySem.Str.ofString "&lt;") (PySem.Str.ofString "<")) (PySem.Str.ofString "&#xD;") (PySem.Str.ofString "\r")) (PySem.Str.ofString "&amp;") (PySem.Str.ofString "&")
/-! names -/
def signs : Str := PySem.Str.ofString "\"\r&><-"
def lowOf (c : Int) : Int := c.fmod 4
def endOf (c : Int) : Int := lowOf c + 1 + (c.fdiv 4).fmod (4 - lowOf c)
def highOf (c : Int) : Int := endOf c + 1 + (c.fdiv 16).fmod (5 - endOf c)
def signAt (i : Int) : Str := Txt.item signs i
def nameOf (c : Int) (ws : List Int) : Str := (Txt.join (PySem.Str.ofString "") (ws.map fun e => signAt (if 0 < e then highOf c else lowOf c))) ++ signAt (endOf c)
theorem low_lo (c : Int) : 0 ≤ c.fmod 4 := by rw [Int.fmod_eq_emod_of_nonneg _ (by decide)]; omega
theorem low_hi (c : Int) : c.fmod 4 < 4 := by rw [Int.fmod_eq_emod_of_nonneg _ (by decide)]; omega
theorem fmod_lo (a : Int) {b : Int} (h : 0 < b) : 0 ≤ a.fmod b := by rw [Int.fmod_eq_emod_of_nonneg _ (by omega)]; exact Int.emod_nonneg _ (by omega)
theorem fmod_hi (a : Int) {b : Int} (h : 0 < b) : a.fmod b < b := by rw [Int.fmod_eq_emod_of_nonneg _ (by omega)]; exact Int.emod_lt_of_pos _ h
theorem div_low (c : Int) : (4 : Int) - c.fmod 4 ≠ 0 := by have := low_hi c; omega
theorem end_bounds (c : Int) : lowOf c < endOf c ∧ endOf c ≤ 4 := by
  have h1 := low_hi c
  have h2 := low_lo c
  have h3 := fmod_lo (c.fdiv 4) (b := 4 - c.fmod 4) (by omega)
  have h4 := fmod_hi (c.fdiv 4) (b := 4 - c.fmod 4) (by omega)
  unfold endOf lowOf
  omega
theorem div_end (c : Int) : (5 : Int) - (c.fmod 4 + 1 + (c.fdiv 4).fmod (4 - c.fmod 4)) ≠ 0 := by
  have := (end_bounds c).2
  unfold endOf lowOf at this
  omega
theorem high_bounds (c : Int) : endOf c < highOf c ∧ highOf c ≤ 5 := by
  have h1 := (end_bounds c).2
  have h3 := fmod_lo (c.fdiv 16) (b := 5 - endOf c) (by omega)
  have h4 := fmod_hi (c.fdiv 16) (b := 5 - endOf c) (by omega)
  unfold highOf
  omega
theorem low_fits (c : Int) : 0 ≤ lowOf c ∧ lowOf c ≤ 5 := ⟨low_lo c, by have := low_hi c; unfold lowOf; omega⟩
theorem end_fits (c : Int) : 0 ≤ endOf c ∧ endOf c ≤ 5 := ⟨by have := (end_bounds c).1; have := (low_fits c).1; omega, by have := (end_bounds c).2; omega⟩
theorem high_fits (c : Int) : 0 ≤ highOf c ∧ highOf c ≤ 5 := ⟨by have := (high_bounds c).1; have := (end_fits c).1; omega, (high_bounds c).2⟩
theorem item_signs {prog : Program} {w : World} {A : Around} {E : Value → Shared → Prop} {s : Shared} {value slice : PySem.Expr} {t u : Tok} {i : Int} {Q : Value → Shared → Prop} (b : 0 ≤ i ∧ i ≤ 5)
    (h : Q (.str (signAt i) s.toks) { s with toks := s.toks + 1 })
    (hs : subscripted slice false (.str signs t) (.int i u) = operate [.str signs t, .int i u] (getItem (.str signs t) (.int i u)) := by with_unfolding_all rfl)
    (ht : ∀ r, letTemporaryGo value (.str signs t) r = pure () := by intro _; with_unfolding_all rfl) :
    wpAny (model prog w) A (subscriptTail value slice (.str signs t) (.int i u)) Q E s :=
  item_str (fitsSsize_of (N := 100) (by omega) (by omega) (by decide)) (by have : ((signs.length : Nat) : Int) = 6 := by decide
                                                                           omega) (by have : ((signs.length : Nat) : Int) = 6 := by decide
                                                                                      omega) (fun _ => h) hs ht
theorem strs_snoc {ys : List Value} {xs : List Str} {x : Str} {t : Tok} (h : StrsAre ys xs) : StrsAre (ys ++ [.str x t]) (xs ++ [x]) := by
  induction h with
  | nil => exact .cons x t .nil
  | cons y u _ ih => exact .cons y u ih
theorem strs_map {ys : List Value} {ws : List Int} {f : Int → Str} {i : Nat} {e : Int} {t : Tok} {x : Str} (h : StrsAre ys ((ws.take i).map f)) (he : ws[i]? = some e) (hx : x = f e) : StrsAre (ys ++ [.str x t]) ((ws.take (i + 1)).map f) := by
  subst hx
  rw [List.take_add_one, he, Option.toList_some, List.map_append]
  exact strs_snoc h
theorem sum_short {f : Int → Str} (hf : ∀ e, (f e).length ≤ 1) : ∀ ws : List Int, ((ws.map f).map (·.length)).sum ≤ ws.length
  | [] => Nat.le_refl _
  | a :: r => by
    have h1 := sum_short hf r
    have h2 := hf a
    simp only [List.map_cons, List.sum_cons, List.length_cons] at h1 ⊢
    omega
theorem signAt_len (i : Int) : (signAt i).length = 1 := len_item _ _
theorem join_short {f : Int → Str} (hf : ∀ e, (f e).length ≤ 1) (ws : List Int) : (Txt.join (PySem.Str.ofString "") (ws.map f)).length ≤ ws.length := by
  have h2 := sum_short hf ws
  have h3 : (PySem.Str.ofString "").length = 0 := rfl
  unfold Txt.join
  rw [PySem.size_glued, h3, Nat.mul_zero]
  omega
/-- joining the texts of a list by nothing -/
theorem join_W {prog : Program} {w : World} {A : Around} {E : Value → Shared → Prop} {s : Shared} {h₀ : Heap} {L : Addr} {news : List (Addr × Obj)} {ys : List Value} {D : Addr} {t : Tok} {n : Nat} {f : Int → Str} {ws : List Int} {Q : Value → Shared → Prop}
    (N : News h₀ L s.heap news) (hm : (D, { cls := .type "list", data := .seq ys.toArray n }) ∈ news) (hJ : StrsAre ys (ws.map f)) (hf : ∀ e, (f e).length ≤ 1) (hlen : ws.length ≤ 100)
    (h : ∀ t' k, Q (.str (Txt.join (PySem.Str.ofString "") (ws.map f)) t') { s with toks := k }) : wpAny (model prog w) A (call (.builtin "str.join") [.str (PySem.Str.ofString "") t, .ref D]) Q E s :=
  join_listW (News.isList N hm) hJ (by decide) (by have := sum_short hf ws; rw [List.length_map]; omega) h
theorem signs_short (lo hi : Int) : ∀ e : Int, (signAt (if 0 < e then hi else lo)).length ≤ 1 := fun e => Nat.le_of_eq (signAt_len _)
theorem add_join {prog : Program} {w : World} {A : Around} {E : Value → Shared → Prop} {s : Shared} {t u : Tok} {f : Int → Str} {ws : List Int} {i : Int} {Q : Value → Shared → Prop}
    (hf : ∀ e, (f e).length ≤ 1) (hlen : ws.length ≤ 100)
    (h : ∀ t' tk, Q (.str (Txt.join (PySem.Str.ofString "") (ws.map f) ++ signAt i) t') { s with toks := tk }) :
    wpAny (model prog w) A (binaryOp .Add (.str (Txt.join (PySem.Str.ofString "") (ws.map f)) t) (.str (signAt i) u)) Q E s :=
  add_str h (by have h1 := join_short hf ws
                have h2 := signAt_len i
                rw [PySem.sizeLine_eq]; omega)
/-! words -/
abbrev mapR (b : Str → Option Value) (r : Nat) (t : Tok) : Str → Option Value := fun y => if y = PySem.Str.ofString "run" then some (.int r t) else b y
def Same (ns : List Int) (r : Nat) : Prop := ∀ j, j < r → ns[j]? = some (ns.headD 0)
def JRun (b : Str → Option Value) (news₀ : List (Addr × Obj)) (ns : List Int) (f : Nat) (m : Str → Option Value) (news : List (Addr × Obj)) : Prop :=
  ∃ r t, m = mapR b r t ∧ news = news₀ ∧ r + f = ns.length ∧ Same ns r
theorem While_run {prog : Program} {w : World} {A : Around} {E : Value → Shared → Prop} {Q : Flow → Shared → Prop} {s : Shared} {env : Env} {h₀ : Heap} {L : Addr} {test : PySem.Expr} {body : List Stmt} {pos : Pos} {b : Str → Option Value} {news : List (Addr × Obj)} {ns : List Int} {t₀ : Tok}
    (F : Fr h₀ L s.heap (fun y => if y = PySem.Str.ofString "run" then some (.int 0 t₀) else b y)) (Ns : News h₀ L s.heap news)
    (turn : ∀ (r : Nat) t h₁ tk₁, r ≤ ns.length → Same ns r → Fr h₀ L h₁ (mapR b r t) → News h₀ L h₁ news →
      wpAny (model prog w) A (isTrue test env (eval test env)) (fun b' s₂ =>
        if b' = true then wpAny (model prog w) A (execs body env) (WhileStep h₀ L s (JRun b news ns) (ns.length - r)) E s₂ else Q .next s₂) E { s with heap := h₁, toks := tk₁ })
    (hE : PassesOwn (model prog w) A env E := by passes_own) :
    wpAny (model prog w) A (exec (.While test body [] pos) env) Q E s :=
  While_inv (JRun b news ns) (n₀ := ns.length) F Ns ⟨0, t₀, rfl, rfl, Nat.zero_add _, fun j hj => absurd hj (Nat.not_lt_zero _)⟩ (fun f m₁ news₁ h₁ tk₁ F₁ N₁ ⟨r, t, e1, e2, e3, e4⟩ => by
    subst e1 e2
    have : f = ns.length - r := by omega
    subst this
    exact turn r t h₁ tk₁ (by omega) e4 F₁ N₁) hE
theorem While_run9 {prog : Program} {w : World} {A : Around} {E : Value → Shared → Prop} {Q : Flow → Shared → Prop} {s : Shared} {env : Env} {h₀ : Heap} {L : Addr} {test : PySem.Expr} {body : List Stmt} {pos : Pos} {b : Str → Option Value} {news : List (Addr × Obj)} {vs : List Value} {ns : List Int} {t₀ : Tok}
    (_hI : IntsAre vs ns) (F : Fr h₀ L s.heap (fun y => if y = PySem.Str.ofString "run" then some (.int 0 t₀) else b y)) (Ns : News h₀ L s.heap news)
    (turn : ∀ (r : Nat) t h₁ tk₁, r ≤ ns.length → Same ns r → Fr h₀ L h₁ (fun y => if y = PySem.Str.ofString "run" then some (.int (r : Int) t) else b y) → News h₀ L h₁ news →
      wpAny (model prog w) A (isTrue test env (eval test env)) (fun b' s₂ =>
        if b' = true then wpAny (model prog w) A (execs body env) (WhileStep h₀ L s (JRun b news ns) (ns.length - r)) E s₂ else Q .next s₂) E { s with heap := h₁, toks := tk₁ })
    (hE : PassesOwn (model prog w) A env E := by passes_own) :
    wpAny (model prog w) A (exec (.While test body [] pos) env) Q E s := While_run F Ns turn hE
theorem slice_from {prog : Program} {w : World} {A : Around} {E : Value → Shared → Prop} {s : Shared} {value slice : PySem.Expr} {h₀ : Heap} {L : Addr} {m : Str → Option Value} {news : List (Addr × Obj)} {l : Addr} {vs : List Value} {k : Nat} {a : Nat} {u : Tok} {ns : List Int} {Q : Value → Shared → Prop}
    (_hS : Same ns a) (F : Fr h₀ L s.heap m) (N : News h₀ L s.heap news) (hm : (l, { cls := .type "list", data := .seq vs.toArray k }) ∈ news) (hlen : vs.length ≤ 100)
    (h : ∀ h' D, Fr h₀ L h' m → News h₀ L h' ((D, { cls := .type "list", data := .seq (vs.drop (a + 1)).toArray }) :: news) → Q (.ref D) { s with heap := h' })
    (hs : subscripted slice false (.ref l) (.ref s.heap.objs.size) = operate [.ref s.heap.objs.size, .ref l] (getItem (.ref l) (.ref s.heap.objs.size)) := by with_unfolding_all rfl)
    (ht : ∀ r, letTemporaryGo value (.ref l) r = pure () := by intro _; with_unfolding_all rfl) :
    wpAny (model prog w) A (subscriptTail value slice (.ref l) (.ref s.heap.objs.size)) Q E { s with heap := s.heap.push { cls := .type "slice", data := .fields #[.int ((a : Int) + 1) u, .none, .none] } } :=
  slice_list F N (News.isList N hm) (.int _ _) .none (fun h' F' N' => by
    have e : slicePick vs.toArray (some ((a : Int) + 1)) none none = (vs.drop (a + 1)).toArray := slicePick_from' vs.toArray (a + 1)
    rw [e] at N'
    exact h h' _ F' N') hs ht (by rw [PySem.sizeLine_eq]; simp only [List.size_toArray]; omega)
theorem ints_drop : ∀ {vs : List Value} {ns : List Int} (k : Nat), IntsAre vs ns → IntsAre (vs.drop k) (ns.drop k)
  | _, _, 0, h => h
  | _, _, _ + 1, .nil => .nil
  | _, _, k + 1, .cons _ _ h => ints_drop k h
theorem idx_pos {vs : List Value} {ns : List Int} {i k : Nat} (hI : IntsAre vs ns) (hi : i < (vs.drop k).length) : 0 < ns.length := by
  rw [List.length_drop, ints_len hI] at hi
  omega
theorem ints_map {ys : List Value} {ws : List Int} {f : Int → Int} {i : Nat} {e x : Int} {t : Tok} (h : IntsAre ys ((ws.take i).map f)) (he : ws[i]? = some e) (hx : x = f e) : IntsAre (ys ++ [.int x t]) ((ws.take (i + 1)).map f) := by
  subst hx
  rw [List.take_add_one, he, Option.toList_some, List.map_append]
  exact ints_snoc h
def bitF (ns : List Int) : Int → Int := fun e => if e = ns.getD 0 0 then 1 else 0
abbrev JB {ns : List Int} {a : Nat} (_ : Same ns a) (i : Nat) (ys : List Value) : Prop := IntsAre ys (((ns.drop (a + 1)).take i).map (bitF ns))
theorem JB_end {vs : List Value} {ns : List Int} {a : Nat} {hS : Same ns a} {ys : List Value} (hI : IntsAre vs ns) (h : JB hS (vs.drop (a + 1)).length ys) : IntsAre ys ((ns.drop (a + 1)).map (bitF ns)) := by
  have e : (vs.drop (a + 1)).length = (ns.drop (a + 1)).length := by rw [List.length_drop, List.length_drop, ints_len hI]
  unfold JB at h
  rwa [e, List.take_length] at h
theorem len_W {prog : Program} {w : World} {A : Around} {E : Value → Shared → Prop} {s : Shared} {h₀ : Heap} {L : Addr} {news : List (Addr × Obj)} {D : Addr} {ys : List Value} {n : Nat} {ms : List Int} {Q : Value → Shared → Prop}
    (N : News h₀ L s.heap news) (hm : (D, { cls := .type "list", data := .seq ys.toArray n }) ∈ news) (hI : IntsAre ys ms) (hlen : ms.length ≤ 100)
    (h : Q (.int ms.length (s.toks + 1)) { s with toks := s.toks + 1 + 1 }) : wpAny (model prog w) A (call (.builtin "len") [.ref D]) Q E s :=
  len_itemI (News.isList N hm) hI (by omega) h
theorem foldl_rep (v : Value) (n : Nat) : ∀ acc : Array Value, List.foldl (fun x1 x2 => x1 ++ x2) acc (List.replicate n #[v]) = acc ++ (List.replicate n v).toArray := by
  induction n with
  | zero => intro acc; simp
  | succ n ih => intro acc; rw [List.replicate_succ, List.foldl_cons, ih, List.replicate_succ]; apply Array.ext'; simp
theorem ints_rep (n : Nat) (a : Int) (t : Tok) : IntsAre (List.replicate n (.int a t)) (List.replicate n a) := by
  induction n with
  | zero => exact .nil
  | succ n ih => exact .cons a t ih
theorem mul_W {prog : Program} {w : World} {A : Around} {E : Value → Shared → Prop} {s : Shared} {h₀ : Heap} {L : Addr} {m : Str → Option Value} {news : List (Addr × Obj)} {l : Addr} {a : Int} {t : Tok} {x : Int} {u : Tok} {Q : Value → Shared → Prop}
    (F : Fr h₀ L s.heap m) (N : News h₀ L s.heap news) (hm : (l, { cls := .type "list", data := .seq #[.int a t] }) ∈ news) (hlo : -100 ≤ x) (hhi : x ≤ 100)
    (h : ∀ h' D, Fr h₀ L h' m → News h₀ L h' ((D, { cls := .type "list", data := .seq (List.replicate x.toNat (.int a t)).toArray }) :: news) → IntsAre (List.replicate x.toNat (.int a t)) (List.replicate x.toNat a) → Q (.ref D) { s with heap := h' }) :
    wpAny (model prog w) A (binaryOp .Mult (.ref l) (.int x u)) Q E s := by
  refine mul_list F N (N _ hm).1 (by omega) (by omega) (by simp; omega) fun h' F' N' => h h' _ F' ?_ (ints_rep _ _ _)
  have e : List.foldl (fun x1 x2 => x1 ++ x2) #[] (List.replicate (if (#[Value.int a t] : Array Value).isEmpty = true then 0 else x.toNat) #[Value.int a t]) = (List.replicate x.toNat (Value.int a t)).toArray := by
    rw [if_neg (by simp), foldl_rep]; simp
  rw [e] at N'
  exact N'
theorem add_W {prog : Program} {w : World} {A : Around} {E : Value → Shared → Prop} {s : Shared} {h₀ : Heap} {L : Addr} {m : Str → Option Value} {news : List (Addr × Obj)} {l b : Addr} {vs ws : List Value} {k1 k2 : Nat} {ns ms : List Int} {Q : Value → Shared → Prop}
    (F : Fr h₀ L s.heap m) (N : News h₀ L s.heap news) (hm1 : (l, { cls := .type "list", data := .seq vs.toArray k1 }) ∈ news) (hm2 : (b, { cls := .type "list", data := .seq ws.toArray k2 }) ∈ news) (hi : IntsAre vs ns) (hj : IntsAre ws ms) (hsz : ns.length + ms.length ≤ 100)
    (h : ∀ h' D, Fr h₀ L h' m → News h₀ L h' ((D, { cls := .type "list", data := .seq (vs ++ ws).toArray }) :: news) → IntsAre (vs ++ ws) (ns ++ ms) → Q (.ref D) { s with heap := h' }) :
    wpAny (model prog w) A (binaryOp .Add (.ref l) (.ref b)) Q E s :=
  add_lists_ints F N (News.isList N hm1) (News.isList N hm2) hi hj (fun h' F' N' hI => h h' _ F' N' hI) (by rw [PySem.sizeLine_eq]; omega)
theorem ints_at : ∀ {vs : List Value} {ns : List Int} {i : Nat}, IntsAre vs ns → i < ns.length → ∃ t, vs[i]? = some (.int (ns.getD i 0) t)
  | _, _, 0, .cons a b h, _ => ⟨b, by simp⟩
  | _, _, i + 1, .cons a b h, hi => by
    obtain ⟨t, e⟩ := ints_at h (i := i) (by simpa using hi)
    exact ⟨t, by simpa using e⟩
  | _, _, i, .nil, hi => absurd hi (by simp)
theorem item_W {prog : Program} {w : World} {A : Around} {E : Value → Shared → Prop} {s : Shared} {h₀ : Heap} {L : Addr} {news : List (Addr × Obj)} {value slice : PySem.Expr} {l : Addr} {vs : List Value} {k1 : Nat} {ns : List Int} {k : Int} {u : Tok} {Q : Value → Shared → Prop}
    (N : News h₀ L s.heap news) (hm : (l, { cls := .type "list", data := .seq vs.toArray k1 }) ∈ news) (hI : IntsAre vs ns) (h0 : 0 ≤ k) (hl : k < ns.length) (hb : k ≤ 1000)
    (h : ∀ t, Q (.int (ns.getD k.toNat 0) t) s)
    (hs : subscripted slice false (.ref l) (.int k u) = operate [.ref l, .int k u] (getItem (.ref l) (.int k u)) := by with_unfolding_all rfl) :
    wpAny (model prog w) A (subscriptTail value slice (.ref l) (.int k u)) Q E s := by
  obtain ⟨t, e⟩ := ints_at hI (i := k.toNat) (by omega)
  exact item_litK (News.isList N hm) h0 (by omega) e (h t) hs
theorem news_second {h₀ h : Heap} {L : Addr} {p q : Addr × Obj} {r : List (Addr × Obj)} (N : News h₀ L h (p :: q :: r)) : News h₀ L h (p :: r) := fun x hx => by
  rcases List.mem_cons.mp hx with rfl | hx
  · exact N _ (.head _)
  · exact N _ (.tail _ (.tail _ hx))
def letters : Str := PySem.Str.ofString "ABCDEFGHIJKLMNOP"
def letterAt (i : Int) : Str := Txt.item letters i
theorem item_letter {prog : Program} {w : World} {A : Around} {E : Value → Shared → Prop} {s : Shared} {value slice : PySem.Expr} {t u : Tok} {i : Int} {Q : Value → Shared → Prop} (b : 0 ≤ i ∧ i ≤ 15)
    (h : Q (.str (letterAt i) s.toks) { s with toks := s.toks + 1 })
    (hs : subscripted slice false (.str letters t) (.int i u) = operate [.str letters t, .int i u] (getItem (.str letters t) (.int i u)) := by with_unfolding_all rfl)
    (ht : ∀ r, letTemporaryGo value (.str letters t) r = pure () := by intro _; with_unfolding_all rfl) :
    wpAny (model prog w) A (subscriptTail value slice (.str letters t) (.int i u)) Q E s :=
  item_str (fitsSsize_of (N := 100) (by omega) (by omega) (by decide)) (by have : ((letters.length : Nat) : Int) = 16 := by decide
                                                                           omega) (by have : ((letters.length : Nat) : Int) = 16 := by decide
                                                                                      omega) (fun _ => h) hs ht
def Bits (l : List Int) : Prop := ∀ b ∈ l, b = 0 ∨ b = 1
theorem bits_map (ns : List Int) (l : List Int) : Bits (l.map (bitF ns)) := by
  intro b hb
  obtain ⟨e, _, rfl⟩ := List.mem_map.mp hb
  unfold bitF
  split
  · exact .inr rfl
  · exact .inl rfl
theorem bits_app {a b : List Int} (x : Bits a) (y : Bits b) : Bits (a ++ b) := fun e he => by
  rcases List.mem_append.mp he with h | h
  · exact x e h
  · exact y e h
theorem bits_rep (n : Nat) : Bits (List.replicate n 0) := fun e he => .inl (List.mem_replicate.mp he).2
theorem bits_one : Bits [1] := fun e he => .inr (List.mem_singleton.mp he)
theorem bit_at {l : List Int} (h : Bits l) (i : Nat) : 0 ≤ l.getD i 0 ∧ l.getD i 0 ≤ 1 := by
  rw [List.getD_eq_getElem?_getD]
  cases e : l[i]? with
  | none => simp
  | some b => rcases h b (List.mem_of_getElem? e) with rfl | rfl <;> simp
theorem fig_ok {l : List Int} (h : Bits l) (a b c d : Nat) : 0 ≤ 8 * l.getD a 0 + 4 * l.getD b 0 + 2 * l.getD c 0 + l.getD d 0 ∧ 8 * l.getD a 0 + 4 * l.getD b 0 + 2 * l.getD c 0 + l.getD d 0 ≤ 15 := by
  have h1 := bit_at h a
  have h2 := bit_at h b
  have h3 := bit_at h c
  have h4 := bit_at h d
  omega
theorem count_ok {ns : List Int} {r : Nat} (h : ns.getD (r : Int).toNat 0 ≠ ns.getD (Int.toNat 0) 0) (h3 : r ≤ ns.length) (h4 : ns.length ≤ 12) : 0 ≤ (r : Int) - 1 ∧ (r : Int) - 1 ≤ 15 := by
  have : r ≠ 0 := by rintro rfl; exact h rfl
  omega
def word4 (a b c d : Int) : Str := Txt.join (PySem.Str.ofString "") [letterAt a, letterAt b, letterAt c, letterAt d]
theorem join4 {prog : Program} {w : World} {A : Around} {E : Value → Shared → Prop} {s : Shared} {h₀ : Heap} {L : Addr} {news : List (Addr × Obj)} {D : Addr} {t t1 t2 t3 t4 : Tok} {n : Nat} {a b c d : Int} {Q : Value → Shared → Prop}
    (N : News h₀ L s.heap news) (hm : (D, { cls := .type "list", data := .seq #[.str (letterAt a) t1, .str (letterAt b) t2, .str (letterAt c) t3, .str (letterAt d) t4] n }) ∈ news)
    (h : ∀ t' k, Q (.str (word4 a b c d) t') { s with toks := k }) : wpAny (model prog w) A (call (.builtin "str.join") [.str (PySem.Str.ofString "") t, .ref D]) Q E s :=
  join_listW (ys := [letterAt a, letterAt b, letterAt c, letterAt d]) (News.isList N hm) (.cons _ _ (.cons _ _ (.cons _ _ (.cons _ _ .nil)))) (by decide) (by
    have e : ∀ i, (letterAt i).length = 1 := fun i => len_item _ _
    simp [e]) h
theorem word4_len (a b c d : Int) : (word4 a b c d).length = 4 := by
  have e : ∀ i, (letterAt i).length = 1 := fun i => len_item _ _
  unfold word4 Txt.join
  rw [PySem.size_glued]
  simp [e]
  rfl
end
section
/-! Enc -/
open Builtin Builtin._codecs in
theorem encode_tree2 (x : Str) (t u : Tok) : «str.encode» ⟨[.str x t, .str (Str.ofString "ascii") u], []⟩ = (do ret (← encodeRoad "str.encode" (.str x t) x (Str.ofString "ascii") none)) := by first | kernel_rfl | with_unfolding_all rfl
open Builtin Builtin._codecs in
theorem encodeRoad_ascii (id : String) (self : Value) (x : Str) (errors : Option Str) : encodeRoad id self x (Str.ofString "ascii") errors = (do mkBytes (← encodeNarrow id asciiCodec errors self x)) := by
  first | rfl | (unfold encodeRoad; rfl) | (unfold encodeRoad; simp only []; rfl) | decide

open Builtin Builtin._codecs in
theorem narrow_nil (id : String) (self : Value) : encodeNarrow id asciiCodec none self ⟨#[]⟩ = pure #[] := by
  first | kernel_rfl | with_unfolding_all rfl
theorem sem_pb {α β : Type} (a : α) (f : α → Sem β) : (pure a >>= f) = f a := rfl
open Builtin Builtin._codecs in
theorem ascii_good {c : Nat} (h : c < 128) : asciiCodec.bad c = false := by
  show decide (c ≥ 128) = false
  exact decide_eq_false (by omega)
open Builtin Builtin._codecs in
theorem narrow_ok (id : String) (self : Value) (a : Array Nat) (hx : ∀ c ∈ a, c < 128) (hsize : (a.foldl (fun acc y => acc ++ (asciiCodec.bytesOf y).toArray) #[]).size ≤ sizeLine) : encodeNarrow id asciiCodec none self ⟨a⟩ = pure (a.foldl (fun acc y => acc ++ (asciiCodec.bytesOf y).toArray) #[]) := by
  by_cases h0 : a.size = 0
  · have : a = #[] := Array.eq_empty_of_size_eq_zero h0
    subst this
    exact narrow_nil id self
  · obtain ⟨n, hn⟩ : ∃ n, a.size = n + 1 := ⟨a.size - 1, by omega⟩
    have hfind : Array.findIdx? asciiCodec.bad a = none := by
      rw [Array.findIdx?_eq_none_iff]
      intro c hc
      rw [ascii_good (hx c hc)]
    have hget : a[0]? = some a[0] := Array.getElem?_eq_getElem (by omega)
    have hbad : (!asciiCodec.bad a[0]) = true := by rw [ascii_good (hx _ (Array.getElem_mem _))]; rfl
    have hend : a[a.size]? = none := by simp
    have hex : a.extract 0 a.size = a := Array.extract_size
    have hs1 : ¬ ((#[] : Array UInt8).size > sizeLine) := by decide
    unfold encodeNarrow
    simp only [Std.Legacy.Range.forIn_eq_forIn_range']
    have hsz : [:(Str.mk a).length].size = n + 1 := by simp [Str.length, hn]
    rw [hsz, List.range'_succ, List.forIn_cons, if_neg hs1]
    simp only [hget, if_pos hbad, sem_pb, hfind, hex, Option.getD_none]
    have hs2 : ¬ ((a.foldl (fun acc y => acc ++ (asciiCodec.bytesOf y).toArray) #[]).size > sizeLine) := by omega
    have hz : a[0 + a.size]? = none := by simp
    cases n with
    | zero => rfl
    | succ n =>
      rw [List.range'_succ, List.forIn_cons, if_neg hs2]
      simp only [hz]
      rfl
/-- the bytes of a text of plain signs -/
def plainBytes (x : Str) : Array UInt8 := x.cps.foldl (fun acc y => acc ++ (Builtin._codecs.asciiCodec.bytesOf y).toArray) #[]
open Builtin Builtin._codecs in
theorem encode_ascii {prog : Program} {w : World} {A : Around} {E : Value → Shared → Prop} {s : Shared} {x : Str} {t u : Tok} {Q : Value → Shared → Prop} (hx : ∀ c ∈ x.cps, c < 128) (hsize : (plainBytes x).size ≤ sizeLine)
    (h : ∀ t' k, Q (.bytes (plainBytes x) t') { s with toks := k }) : wpAny (model prog w) A (call (.builtin "str.encode") [.str x t, .str (Str.ofString "ascii") u]) Q E s := by
  refine wpAny_call_entry F.slot_str_encode (typeIs_str _ _ _) F.entry_str_encode ?_ (F.args_str_encode_2 _ _)
  rw [encode_tree2, encodeRoad_ascii]
  have e : encodeNarrow "str.encode" asciiCodec none (.str x t) x = pure (plainBytes x) := narrow_ok _ _ x.cps hx hsize
  rw [e]
  show wpAny _ _ (mkBytes (plainBytes x) >>= ret) _ _ _
  exact wpAny_bind (wpAny_mkBytes (wpAny_pure ⟨_, rfl, h _ _⟩) hsize)
theorem get_encode {M : Model} {A : Around} {E : Value → Shared → Prop} {s : Shared} {x : Str} {t : Tok} {pl : Sem Bool} {Q : Value × List Value → Shared → Prop} (h : Q (.builtin "str.encode", [.str x t]) s) : wpAny M A (getMethod (.str x t) "encode" pl) Q E s := by
  with_reducible exact GM.of (.str x t) (typeIs_str _ _ _) F.slot_str_encode F.type_str_encode (GM.noRef) h
end
section
/-! Word -/
local macro_rules | `(tactic| walk_at "no key") => `(tactic| fail)
structure Marker (P : Prop) : Prop where
  h : P
theorem stubm {P : Prop} (h : Marker P) : P := h.h
theorem letter_cps {i : Int} (h : 0 ≤ i ∧ i ≤ 15) : letterAt i = ⟨#[65 + i.toNat]⟩ := by
  have e : ∀ j : Fin 16, letterAt (j.val : Int) = ⟨#[65 + j.val]⟩ := by decide +kernel
  have := e ⟨i.toNat, by omega⟩
  simp only at this
  rwa [show ((i.toNat : Nat) : Int) = i by omega] at this
theorem word4_cps {a b c d : Int} (ha : 0 ≤ a ∧ a ≤ 15) (hb : 0 ≤ b ∧ b ≤ 15) (hc : 0 ≤ c ∧ c ≤ 15) (hd : 0 ≤ d ∧ d ≤ 15) :
    word4 a b c d = ⟨#[65 + a.toNat, 65 + b.toNat, 65 + c.toNat, 65 + d.toNat]⟩ := by
  unfold word4
  rw [letter_cps ha, letter_cps hb, letter_cps hc, letter_cps hd]
  rfl
theorem lstripA (l : List Nat) : Txt.lstripChars ⟨l.toArray⟩ (PySem.Str.ofString "A") = ⟨(l.dropWhile fun c => decide (c = 65)).toArray⟩ := by
  have hg : (PySem.Str.ofString "A").cps.contains = fun c => decide (c = 65) := by
    funext c
    show (#[65] : Array Nat).contains c = _
    simp only [List.contains_toArray, List.contains_cons, List.contains_nil, Bool.or_false]
    rfl
  unfold Txt.lstripChars
  rw [PyProof.Rows.stripBy_eq, hg]
  unfold PySem.Builtin.Str.strSub stripLo stripHi
  simp only [if_true, Bool.false_eq_true, if_false]
  congr 1
  show l.toArray.extract _ _ = _
  have h2 : ∀ (l : List Nat) (p : Nat → Bool), l.drop (l.takeWhile p).length = l.dropWhile p := by
    intro l p
    induction l with
    | nil => rfl
    | cons x r ih =>
      by_cases h : p x = true
      · rw [List.takeWhile_cons_of_pos h, List.dropWhile_cons_of_pos h, List.length_cons, List.drop_succ_cons, ih]
      · rw [List.takeWhile_cons_of_neg h, List.dropWhile_cons_of_neg h]; rfl
  apply Array.ext'
  rw [Array.toList_extract]
  simp [PySem.Str.length, List.extract, h2]
  apply List.take_of_length_le
  rw [← h2, List.length_drop]
  exact Nat.le_refl _
theorem plain_list (l : List Nat) : plainBytes ⟨l.toArray⟩ = (l.map fun c => c.toUInt8).toArray := by
  unfold plainBytes
  show l.toArray.foldl _ _ = _
  rw [List.foldl_toArray]
  have : ∀ (l : List Nat) (acc : Array UInt8), l.foldl (fun acc y => acc ++ (Builtin._codecs.asciiCodec.bytesOf y).toArray) acc = acc ++ (l.map fun c => c.toUInt8).toArray := by
    intro l
    induction l with
    | nil => intro acc; simp
    | cons x r ih =>
      intro acc
      rw [List.foldl_cons, ih]
      apply Array.ext'
      have : Builtin._codecs.asciiCodec.bytesOf x = [x.toUInt8] := rfl
      simp [this]
  rw [this]; simp
theorem apF_step {f n : Nat} (h : n ≠ 0) : apF (f + 1) n = apF f (n / 16) ++ [apDig (n % 16)] := by
  show (if n = 0 then [] else apF f (n / 16) ++ [apDig (n % 16)]) = _
  rw [if_neg h]
theorem drop_yes {l : List Nat} {a : Nat} (h : a = 0) : ((65 + a) :: l).dropWhile (fun c => decide (c = 65)) = l.dropWhile (fun c => decide (c = 65)) := by subst h; rfl
theorem drop_no {l : List Nat} {a : Nat} (h : a ≠ 0) : ((65 + a) :: l).dropWhile (fun c => decide (c = 65)) = (65 + a) :: l := by
  rw [List.dropWhile_cons_of_neg]
  simp; omega
theorem strip_ap {a b c d : Nat} (ha : a ≤ 15) (hb : b ≤ 15) (hc : c ≤ 15) (hd : d ≤ 15) :
    ([65 + a, 65 + b, 65 + c, 65 + d].dropWhile fun c => decide (c = 65)).map (fun c => c.toUInt8) = apL (a * 4096 + b * 256 + c * 16 + d) := by
  unfold apL
  have q1 : (a * 4096 + b * 256 + c * 16 + d) / 16 = a * 256 + b * 16 + c := by omega
  have q2 : (a * 256 + b * 16 + c) / 16 = a * 16 + b := by omega
  have q3 : (a * 16 + b) / 16 = a := by omega
  have q4 : a / 16 = 0 := by omega
  have m1 : (a * 4096 + b * 256 + c * 16 + d) % 16 = d := by omega
  have m2 : (a * 256 + b * 16 + c) % 16 = c := by omega
  have m3 : (a * 16 + b) % 16 = b := by omega
  have m4 : a % 16 = a := by omega
  by_cases za : a = 0
  · rw [drop_yes za]
    by_cases zb : b = 0
    · rw [drop_yes zb]
      by_cases zc : c = 0
      · rw [drop_yes zc]
        by_cases zd : d = 0
        · rw [drop_yes zd]; subst za zb zc zd; rfl
        · rw [drop_no zd, apF_step (by omega), q1, m1, show a * 256 + b * 16 + c = 0 by omega, apF_zero]; rfl
      · rw [drop_no zc, apF_step (by omega), q1, m1, apF_step (by omega), q2, m2, show a * 16 + b = 0 by omega, apF_zero]; rfl
    · rw [drop_no zb, apF_step (by omega), q1, m1, apF_step (by omega), q2, m2, apF_step (by omega), q3, m3, za, apF_zero]; rfl
  · rw [drop_no za, apF_step (by omega), q1, m1, apF_step (by omega), q2, m2, apF_step (by omega), q3, m3, apF_step za, q4, m4, apF_zero]; rfl
theorem mem_drop {l : List Nat} {p : Nat → Bool} {x : Nat} (h : x ∈ l.dropWhile p) : x ∈ l := (List.dropWhile_sublist p).mem h
/-- the word's letters, stripped and told as bytes -/
theorem word_bytes {a b c d : Int} (ha : 0 ≤ a ∧ a ≤ 15) (hb : 0 ≤ b ∧ b ≤ 15) (hc : 0 ≤ c ∧ c ≤ 15) (hd : 0 ≤ d ∧ d ≤ 15) :
    plainBytes (Txt.lstripChars (word4 a b c d) (PySem.Str.ofString "A")) = (apL (a * 4096 + b * 256 + c * 16 + d).toNat).toArray := by
  rw [word4_cps ha hb hc hd]
  have e := lstripA [65 + a.toNat, 65 + b.toNat, 65 + c.toNat, 65 + d.toNat]
  rw [show (#[65 + a.toNat, 65 + b.toNat, 65 + c.toNat, 65 + d.toNat] : Array Nat) = [65 + a.toNat, 65 + b.toNat, 65 + c.toNat, 65 + d.toNat].toArray from rfl, e, plain_list, strip_ap (by omega) (by omega) (by omega) (by omega)]
  congr 2
  omega
theorem word_plain {a b c d : Int} (ha : 0 ≤ a ∧ a ≤ 15) (hb : 0 ≤ b ∧ b ≤ 15) (hc : 0 ≤ c ∧ c ≤ 15) (hd : 0 ≤ d ∧ d ≤ 15) :
    ∀ x ∈ (Txt.lstripChars (word4 a b c d) (PySem.Str.ofString "A")).cps, x < 128 := by
  rw [word4_cps ha hb hc hd]
  have e := lstripA [65 + a.toNat, 65 + b.toNat, 65 + c.toNat, 65 + d.toNat]
  rw [show (#[65 + a.toNat, 65 + b.toNat, 65 + c.toNat, 65 + d.toNat] : Array Nat) = [65 + a.toNat, 65 + b.toNat, 65 + c.toNat, 65 + d.toNat].toArray from rfl, e]
  intro x hx
  have := mem_drop (List.mem_toArray.mp hx)
  simp at this
  omega
theorem word_size {a b c d : Int} (ha : 0 ≤ a ∧ a ≤ 15) (hb : 0 ≤ b ∧ b ≤ 15) (hc : 0 ≤ c ∧ c ≤ 15) (hd : 0 ≤ d ∧ d ≤ 15) :
    (plainBytes (Txt.lstripChars (word4 a b c d) (PySem.Str.ofString "A"))).size ≤ sizeLine := by
  rw [word_bytes ha hb hc hd, PySem.sizeLine_eq]
  have := apF_len 16 (a * 4096 + b * 256 + c * 16 + d).toNat
  show (apF 16 _).toArray.size ≤ _
  rw [List.size_toArray]; omega
/-! Berlekamp's rule: the bits of a stalk are its worth -/
def wsum : List Int → Int → Int
  | [], _ => 0
  | b :: r, q => b * q + wsum r (q / 2)
theorem wsum_zeros (k : Nat) : ∀ q, wsum (List.replicate k 0) q = 0 := by
  induction k with
  | zero => intro q; rfl
  | succ k ih => intro q; rw [List.replicate_succ]; show 0 * q + wsum _ _ = 0; rw [ih]; omega
theorem wsum_pad (k : Nat) : ∀ (l : List Int) q, wsum (l ++ List.replicate k 0) q = wsum l q
  | [], q => by rw [List.nil_append, wsum_zeros]; rfl
  | b :: r, q => by rw [List.cons_append]; show b * q + wsum (r ++ _) _ = b * q + wsum r _; rw [wsum_pad k r]
theorem wsum_twelve : ∀ l : List Int, l.length = 12 → wsum l 2048 = 2048 * l.getD 0 0 + 1024 * l.getD 1 0 + 512 * l.getD 2 0 + 256 * l.getD 3 0 + 128 * l.getD 4 0 + 64 * l.getD 5 0 + 32 * l.getD 6 0 + 16 * l.getD 7 0 + 8 * l.getD 8 0 + 4 * l.getD 9 0 + 2 * l.getD 10 0 + l.getD 11 0 := by
  intro l hl
  match l, hl with
  | [a, b, c, d, e, f, g, h, i, j, k, m], _ =>
    simp [wsum]
    omega
theorem pow_half {n : Nat} (h : 1 ≤ n) : ((2 : Int) ^ n).fdiv 2 = 2 ^ (n - 1) ∧ (2 : Int) ^ n / 2 = 2 ^ (n - 1) ∧ (2 : Int) ^ n = 2 * 2 ^ (n - 1) := by
  obtain ⟨k, rfl⟩ : ∃ k, n = k + 1 := ⟨n - 1, by omega⟩
  have e : (2 : Int) ^ (k + 1) = 2 * 2 ^ k := by rw [Int.pow_succ, Int.mul_comm]
  rw [Nat.add_sub_cancel, Int.fdiv_eq_ediv_of_nonneg _ (by decide)]
  refine ⟨by omega, by omega, e⟩
theorem pm_nth {h e : Int} (hh : h = 1 ∨ h = -1) (he : e = 1 ∨ e = -1) : (e = h) ∨ (e = -h ∧ e ≠ h) := by omega
theorem worth_half {h e p wv : Int} (hp : p < 4096) : worthStep h (p, wv) e = (p.fdiv 2, wv + e * p.fdiv 2) := by
  unfold worthStep
  simp only
  rw [if_pos (.inr hp)]
theorem half_up {h e p W : Int} (hh : h = 1 ∨ h = -1) (he : e = 1 ∨ e = -1) (wv : Int) : wv + e * p + h * (W - p) = wv + h * ((if e = h then 1 else 0) * (2 * p) + W - 2 * p) := by
  rcases hh with rfl | rfl <;> rcases he with rfl | rfl <;> simp <;> omega
theorem wsum_cons (b : Int) (r : List Int) (q : Int) : wsum (b :: r) q = b * q + wsum r (q / 2) := rfl
theorem fold_tail {h : Int} (hh : h = 1 ∨ h = -1) (T : List Int) : ∀ (n : Nat) (wv : Int), (∀ e ∈ T, e = 1 ∨ e = -1) → n ≤ 11 → T.length ≤ n →
    (T.foldl (worthStep h) ((2 : Int) ^ n, wv)).2 = wv + h * (wsum (T.map (fun e => if e = h then 1 else 0) ++ [1]) (2 ^ n) - 2 ^ n) := by
  induction T with
  | nil =>
    intro n wv _ _ _
    rw [List.foldl_nil, List.map_nil, List.nil_append, wsum_cons]
    show wv = wv + h * (1 * 2 ^ n + 0 - 2 ^ n)
    rw [Int.one_mul, Int.add_zero, Int.sub_self, Int.mul_zero, Int.add_zero]
  | cons e T ih =>
    intro n wv hpm hp hl
    rw [List.length_cons] at hl
    obtain ⟨q1, q2, q3⟩ := pow_half (n := n) (by omega)
    have hlt : (2 : Int) ^ n < 4096 := by
      have : ∀ k : Fin 12, (2 : Int) ^ k.val < 4096 := by decide
      exact this ⟨n, by omega⟩
    rw [List.foldl_cons, worth_half hlt, q1, ih (n - 1) _ (fun x hx => hpm x (.tail _ hx)) (by omega) (by omega), List.map_cons, List.cons_append, wsum_cons, q2, q3]
    exact half_up hh (hpm e (.head _)) wv
/-- the first run: the part stays whole -/
theorem fold_run {h : Int} : ∀ (r : Nat) (wv : Int), (List.replicate r h).foldl (worthStep h) (4096, wv) = (4096, wv + r * (h * 4096))
  | 0, wv => by simp
  | r + 1, wv => by
    have st : worthStep h (4096, wv) h = (4096, wv + h * 4096) := by
      unfold worthStep
      simp
    rw [List.replicate_succ, List.foldl_cons, st, fold_run r]
    congr 1
    rw [Int.add_assoc]
    congr 1
    rw [show ((r + 1 : Nat) : Int) = (r : Int) + 1 from by omega, Int.add_mul, Int.one_mul, Int.add_comm]
theorem same_split : ∀ (ns : List Int) (r : Nat) (h : Int), (∀ j, j < r → ns[j]? = some h) → ns.take r = List.replicate r h
  | _, 0, _, _ => by simp
  | [], r + 1, h, H => by simpa using H 0 (Nat.succ_pos _)
  | a :: t, r + 1, h, H => by
    have h0 := H 0 (Nat.succ_pos _)
    simp only [List.getElem?_cons_zero, Option.some.injEq] at h0
    rw [List.take_succ_cons, List.replicate_succ, h0, same_split t r h fun j hj => by simpa using H (j + 1) (by omega)]
theorem wsum_nonneg : ∀ (l : List Int) (q : Int), Bits l → 0 ≤ q → 0 ≤ wsum l q
  | [], _, _, _ => Int.le_refl _
  | b :: r, q, hb, hq => by
    rw [wsum_cons]
    have h1 := wsum_nonneg r (q / 2) (fun x hx => hb x (.tail _ hx)) (by omega)
    rcases hb b (.head _) with rfl | rfl <;> omega
/-- all edges of one hand -/
theorem worth_whole {ns : List Int} {r : Nat} (hS : Same ns r) (hr : ns.length ≤ r) (hpm : ∀ e ∈ ns, e = 1 ∨ e = -1) (hlen : ns.length ≤ 12) (hr2 : r ≤ ns.length) : (worthOf ns).natAbs = r * 4096 := by
  have e := same_split ns r _ hS
  rw [List.take_of_length_le hr] at e
  unfold worthOf
  generalize hh : ns.headD 0 = h at e
  rw [e, fold_run]
  by_cases hz : r = 0
  · subst hz; simp
  · have : h = 1 ∨ h = -1 := hpm h (by rw [e]; exact List.mem_replicate.mpr ⟨hz, rfl⟩)
    simp only
    rcases this with rfl | rfl <;> omega
theorem int_two_pow : (2 : Int) ^ 11 = 2048 := by decide
theorem worth_parts {ns : List Int} {r : Nat} (hS : Same ns r) (hr : r < ns.length) (hne : ns.getD r 0 ≠ ns.getD 0 0) (hpm : ∀ e ∈ ns, e = 1 ∨ e = -1) (hlen : ns.length ≤ 12) :
    ((worthOf ns).natAbs : Int) = ((r : Int) - 1) * 4096 + wsum ((ns.drop (r + 1)).map (bitF ns) ++ [1]) 2048 ∧ 1 ≤ r := by
  have e := same_split ns r _ hS
  have hd : ns.getD 0 0 = ns.headD 0 := by cases ns <;> rfl
  have hr0 : 1 ≤ r := by
    rcases Nat.eq_zero_or_pos r with rfl | h
    · exact absurd rfl hne
    · exact h
  have hh : ns.headD 0 = 1 ∨ ns.headD 0 = -1 := hpm _ (List.mem_of_getElem? (hS 0 (by omega)))
  have hx : ns[r]? = some ns[r] := List.getElem?_eq_getElem hr
  have hxm : ns[r] = 1 ∨ ns[r] = -1 := hpm _ (List.getElem_mem hr)
  have hxe : ns.getD r 0 = ns[r] := by rw [List.getD_eq_getElem?_getD, hx]; rfl
  have sp : ns = List.replicate r (ns.headD 0) ++ ns[r] :: ns.drop (r + 1) := by
    rw [← e, ← List.drop_eq_getElem_cons hr, List.take_append_drop]
  have key : worthOf ns = ns.headD 0 * (((r : Int) - 1) * 4096 + wsum ((ns.drop (r + 1)).map (bitF ns) ++ [1]) 2048) := by
    have hb : bitF ns = fun e => if e = ns.headD 0 then 1 else 0 := by unfold bitF; rw [hd]
    rw [hb]
    rw [hxe, hd] at hne
    have hT : ∀ e ∈ ns.drop (r + 1), e = 1 ∨ e = -1 := fun e he => hpm e (List.mem_of_mem_drop he)
    have hTl : (ns.drop (r + 1)).length ≤ 11 := by rw [List.length_drop]; omega
    show (ns.foldl (worthStep (ns.headD 0)) (4096, 0)).2 = _
    generalize ns.headD 0 = h at *
    generalize ns[r] = x at *
    generalize ns.drop (r + 1) = T at *
    have st : ∀ wv : Int, worthStep h (4096, wv) x = (2 ^ 11, wv + x * 2048) := by
      intro wv
      unfold worthStep
      simp only
      rw [if_pos (.inl hne)]
      rfl
    rw [sp, List.foldl_append, fold_run, List.foldl_cons, st, fold_tail hh T 11 _ hT (Nat.le_refl _) hTl, int_two_pow]
    generalize wsum _ _ = W
    rcases hh with rfl | rfl <;> rcases hxm with rfl | rfl <;> first | (exact absurd rfl hne) | omega
  have hw := wsum_nonneg ((ns.drop (r + 1)).map (bitF ns) ++ [1]) 2048 (bits_app (bits_map _ _) bits_one) (by decide)
  refine ⟨?_, hr0⟩
  rw [key]
  generalize wsum _ _ = W at hw
  rcases hh with h | h <;> rw [h] <;> omega
abbrev fig (l : List Int) (k : Int) : Int := 8 * l.getD k.toNat 0 + 4 * l.getD (k + 1).toNat 0 + 2 * l.getD (k + 2).toNat 0 + l.getD (k + 3).toNat 0
theorem figs_sum {l : List Int} (h : l.length = 12) (a : Int) : a * 4096 + fig l 0 * 256 + fig l 4 * 16 + fig l 8 = a * 4096 + wsum l 2048 := by
  rw [wsum_twelve l h]
  show a * 4096 + (8 * l.getD 0 0 + 4 * l.getD 1 0 + 2 * l.getD 2 0 + l.getD 3 0) * 256 + (8 * l.getD 4 0 + 4 * l.getD 5 0 + 2 * l.getD 6 0 + l.getD 7 0) * 16 + (8 * l.getD 8 0 + 4 * l.getD 9 0 + 2 * l.getD 10 0 + l.getD 11 0) = _
  omega
theorem enc_of {prog : Program} {w : World} {A : Around} {E : Value → Shared → Prop} {s : Shared} {t u : Tok} {Q : Value → Shared → Prop} {a : Int} {l : List Int} {N : Nat} (ha : 0 ≤ a ∧ a ≤ 15) (hl : l.length = 12) (hb : Bits l) (hN : a * 4096 + wsum l 2048 = (N : Int))
    (h : ∀ t' k, Q (.bytes (apL N).toArray t') { s with toks := k }) :
    wpAny (model prog w) A (call (.builtin "str.encode") [.str (Txt.lstripChars (word4 a (fig l 0) (fig l 4) (fig l 8)) (PySem.Str.ofString "A")) t, .str (PySem.Str.ofString "ascii") u]) Q E s := by
  have h0 : 0 ≤ fig l 0 ∧ fig l 0 ≤ 15 := fig_ok hb _ _ _ _
  have h4 : 0 ≤ fig l 4 ∧ fig l 4 ≤ 15 := fig_ok hb _ _ _ _
  have h8 : 0 ≤ fig l 8 ∧ fig l 8 ≤ 15 := fig_ok hb _ _ _ _
  refine encode_ascii (word_plain ha h0 h4 h8) (word_size ha h0 h4 h8) fun t' k => ?_
  rw [word_bytes ha h0 h4 h8, figs_sum hl, hN, Int.toNat_natCast]
  exact h t' k
abbrev padded (l : List Int) : List Int := l ++ List.replicate ((12 : Int) - (l.length : Int)).toNat 0
theorem padded_len {l : List Int} (h : l.length ≤ 12) : (padded l).length = 12 := by
  rw [List.length_append, List.length_replicate]; omega
theorem enc_part {prog : Program} {w : World} {A : Around} {E : Value → Shared → Prop} {s : Shared} {t u : Tok} {Q : Value → Shared → Prop} {ns : List Int} {r : Nat} (hS : Same ns r) (hlt : (r : Int) < (ns.length : Int)) (hne : ns.getD (r : Int).toNat 0 ≠ ns.getD (Int.toNat 0) 0) (hpm : ∀ e ∈ ns, e = 1 ∨ e = -1) (hlen : ns.length ≤ 12)
    (h : ∀ t' k, Q (.bytes (apL (worthOf ns).natAbs).toArray t') { s with toks := k }) :
    wpAny (model prog w) A (call (.builtin "str.encode") [.str (Txt.lstripChars (word4 ((r : Int) - 1) (fig (padded (List.map (bitF ns) (List.drop (r + 1) ns) ++ [1])) 0) (fig (padded (List.map (bitF ns) (List.drop (r + 1) ns) ++ [1])) 4) (fig (padded (List.map (bitF ns) (List.drop (r + 1) ns) ++ [1])) 8)) (PySem.Str.ofString "A")) t, .str (PySem.Str.ofString "ascii") u]) Q E s := by
  obtain ⟨k1, k2⟩ := worth_parts hS (by omega) hne hpm hlen
  refine enc_of (by omega) (padded_len ?_) (bits_app (bits_app (bits_map _ _) bits_one) (bits_rep _)) ?_ h
  · rw [List.length_append, List.length_map, List.length_drop]; simp only [List.length_cons, List.length_nil]; omega
  · rw [wsum_pad]; omega
theorem enc_whole {prog : Program} {w : World} {A : Around} {E : Value → Shared → Prop} {s : Shared} {t u : Tok} {Q : Value → Shared → Prop} {ns : List Int} {r : Nat} (hS : Same ns r) (hle : r ≤ ns.length) (hlt : ¬ (r : Int) < (ns.length : Int)) (hpm : ∀ e ∈ ns, e = 1 ∨ e = -1) (hlen : ns.length ≤ 12)
    (h : ∀ t' k, Q (.bytes (apL (worthOf ns).natAbs).toArray t') { s with toks := k }) :
    wpAny (model prog w) A (call (.builtin "str.encode") [.str (Txt.lstripChars (word4 (r : Int) (fig (padded (List.map (bitF ns) (List.drop (r + 1) ns))) 0) (fig (padded (List.map (bitF ns) (List.drop (r + 1) ns))) 4) (fig (padded (List.map (bitF ns) (List.drop (r + 1) ns))) 8)) (PySem.Str.ofString "A")) t, .str (PySem.Str.ofString "ascii") u]) Q E s := by
  have k1 := worth_whole hS (by omega) hpm hlen hle
  have e : List.map (bitF ns) (List.drop (r + 1) ns) = [] := by rw [List.drop_eq_nil_of_le (by omega)]; rfl
  rw [e]
  refine enc_of (by omega) (padded_len (by simp)) (bits_app (by intro b hb; cases hb) (bits_rep _)) ?_ h
  rw [wsum_pad, k1]; simp [wsum]
end
section
/-! Play -/
/-! playing: whoever can cut -/
def stalksN : Nat → List (List Int)
  | 0 => [[]]
  | n + 1 => [] :: (stalksN n).flatMap fun l => [1 :: l, -1 :: l]
theorem mem_stalks : ∀ (n : Nat) (l : List Int), l.length ≤ n → (∀ e ∈ l, e = 1 ∨ e = -1) → l ∈ stalksN n
  | 0, [], _, _ => by simp [stalksN]
  | 0, _ :: _, h, _ => by simp at h
  | n + 1, [], _, _ => by simp [stalksN]
  | n + 1, a :: l, h, hp => by
    have := mem_stalks n l (by simpa using h) fun e he => hp e (.tail _ he)
    refine List.mem_cons_of_mem _ (List.mem_flatMap.mpr ⟨l, this, ?_⟩)
    rcases hp a (.head _) with rfl | rfl <;> simp
def isPos (i : Int) : Bool := match i with | .ofNat 0 => false | .ofNat _ => true | .negSucc _ => false
def isNeg (i : Int) : Bool := match i with | .ofNat _ => false | .negSucc _ => true
theorem isPos_iff (i : Int) : isPos i = true ↔ 0 < i := by
  cases i with
  | ofNat n =>
    cases n with
    | zero => decide
    | succ n => exact ⟨fun _ => Int.natCast_pos.mpr (Nat.succ_pos n), fun _ => rfl⟩
  | negSucc n =>
    constructor
    · intro h; cases h
    · intro h; exact absurd h (by omega)
theorem isNeg_iff (i : Int) : isNeg i = true ↔ i < 0 := by
  cases i with
  | ofNat n =>
    constructor
    · intro h; cases h
    · intro h; exact absurd h (by show ¬ ((n : Int) < 0); omega)
  | negSucc n => exact ⟨fun _ => by omega, fun _ => rfl⟩
/-- a hand's winning cut -/
def cutsWin (q r : Int → Bool) (s t : List Int) : Bool :=
  (List.range s.length).any (fun e => q (s.getD e 0) && !r (worthOf (s.take e) + worthOf t)) || (List.range t.length).any (fun e => q (t.getD e 0) && !r (worthOf s + worthOf (t.take e)))
def cutOk (s t : List Int) : Bool := (cutsWin isPos isNeg s t == isPos (worthOf s + worthOf t)) && (cutsWin isNeg isPos s t == isNeg (worthOf s + worthOf t))
theorem cut_all : ((stalksN 4).all fun s => (stalksN 4).all fun t => cutOk s t) = true := by decide +kernel
theorem cut_at {s t : List Int} (hs : s.length ≤ 4) (ht : t.length ≤ 4) (ps : ∀ e ∈ s, e = 1 ∨ e = -1) (pt : ∀ e ∈ t, e = 1 ∨ e = -1) :
    cutsWin isPos isNeg s t = isPos (worthOf s + worthOf t) ∧ cutsWin isNeg isPos s t = isNeg (worthOf s + worthOf t) := by
  have h := cut_all
  rw [List.all_eq_true] at h
  have h1 := h s (mem_stalks 4 s hs ps)
  rw [List.all_eq_true] at h1
  have h2 := h1 t (mem_stalks 4 t ht pt)
  simpa only [cutOk, Bool.and_eq_true, beq_iff_eq] using h2
end
section
/-! Dec -/
local macro_rules | `(tactic| walk_at "no key") => `(tactic| fail)
open Builtin Builtin._codecs in
theorem dec_entry (c : UInt8) (cs : List UInt8) (t u : Tok) : «bytes.decode» ⟨[.bytes (c :: cs).toArray t, .str (Str.ofString "ascii") u], []⟩ = (mkStr (PySem.Str.ofString "utf-8") >>= fun _ => mkStr (PySem.Str.ofString "ascii") >>= fun e => mkStr (PySem.Str.ofString "bytes.decode") >>= fun d =>
    call (.builtin "_codecs.decode.text") [.bytes (c :: cs).toArray t, e, .none, d] >>= fun v => ret v) := by kernel_rfl
open Builtin Builtin._codecs in
theorem dec_road (id : String) (b : Array UInt8) : decodeRoad id b (PySem.Str.ofString "ascii") none [] = (runDecoder id asciiDecoder none true b 0 [] >>= fun r => mkStr ⟨r.1⟩) := by kernel_rfl
theorem dec_loop {σ : Type} (l : List UInt8) (body : Nat → Nat × Array Nat × σ → Sem (ForInStep (Nat × Array Nat × σ)))
    (hb : ∀ x p out st (h : p < l.length), out.size = p → body x (p, out, st) = pure (ForInStep.yield (p + 1, out ++ [(l[p]).toNat].toArray, st))) :
    ∀ (xs : List Nat) (p : Nat) (out : Array Nat) (st : σ), p + xs.length = l.length → out.size = p → forIn xs (p, out, st) body = pure (l.length, out ++ ((l.drop p).map UInt8.toNat).toArray, st)
  | [], p, out, st, e, _ => by
    have : p = l.length := by simpa using e
    subst this
    simp
  | x :: xs, p, out, st, e, eo => by
    rw [List.length_cons] at e
    have h : p < l.length := by omega
    rw [List.forIn_cons, hb x p out st h eo]
    show forIn xs (p + 1, out ++ [(l[p]).toNat].toArray, st) body = _
    rw [dec_loop l body hb xs (p + 1) _ st (by omega) (by simp [eo]), List.drop_eq_getElem_cons h]
    congr 3
    apply Array.ext'
    simp only [List.map_cons, Array.toList_append, List.append_assoc, List.singleton_append]
open Builtin Builtin._codecs in
theorem dec_run (id : String) (l : List UInt8) (hl : ∀ c ∈ l, c.toNat < 128) (hn : l.length ≤ 100) : runDecoder id asciiDecoder none true l.toArray 0 [] = pure ((l.map UInt8.toNat).toArray, l.length) := by
  unfold runDecoder
  simp only [Std.Legacy.Range.forIn_eq_forIn_range']
  have hsz : [:l.toArray.size].size = l.length := by simp
  rw [hsz]
  rw [dec_loop l _ ?_ (List.range' 0 l.length) 0 #[] _ (by simp) rfl]
  · rw [List.drop_zero]
    have e0 : (#[] : Array Nat) ++ (l.map UInt8.toNat).toArray = (l.map UInt8.toNat).toArray := by simp
    rw [e0]
    rfl
  · intro x p out st h eo
    have h1 : ¬ (out.size > sizeLine) := by rw [PySem.sizeLine_eq]; omega
    have h2 : ¬ (p ≥ l.toArray.size) := by simp; omega
    have hf : asciiDecoder.find true l.toArray p = Found.text [(l[p]).toNat] (p + 1) := by
      have hg : l.toArray.getD p 0 = l[p] := by simp [h]
      show (if (l.toArray.getD p 0).toNat < 128 then Found.char (l.toArray.getD p 0).toNat (p + 1) else _) = _
      rw [hg, if_pos (hl _ (List.getElem_mem h))]
      rfl
    simp only [if_neg h1, if_neg h2, hf]
theorem args_decode_2 (a b : Value) : argsOk "bytes.decode" ⟨[a, b], []⟩ := by
  unfold argsOk; rw [signature?_of (id := "bytes.decode") (n := ['e', 'd', 'o', 'c', 'e', 'd']) (o := ['s', 'e', 't', 'y', 'b']) (by kernel_rfl) FB.owner_bytes]; kernel_rfl
open Builtin Builtin._codecs in
theorem dec_meets {b : Array UInt8} {t t1 t2 : Tok} {x d : PySem.Str} {n : Nat} (hd : ∀ id, runDecoder id asciiDecoder none true b 0 [] = pure (x.cps, n)) :
    Meets («_codecs.decode.text» ⟨[.bytes b t, .str (PySem.Str.ofString "ascii") t1, .none, .str d t2], []⟩) (fun _ R s => x.length ≤ sizeLine ∧ R (.ok (.ret (.str x s.toks))) { s with toks := s.toks + 1 }) := by
  refine .of_wp fun prog w A R s hS => ?_
  obtain ⟨hsz, h⟩ := hS
  show wpAny _ _ (Bytes.bytesLike _ (.bytes b t) >>= fun r => _) _ _ s
  refine wpAny_bind (wpAny_of_eq KBd.like_eq ?_)
  refine wpAny_bind (wpAny_of_eq KBd.held_eq ?_)
  show wpAny _ _ (_codecs.decodeRoad _ b (PySem.Str.ofString "ascii") none [] >>= fun v => _) _ _ s
  rw [dec_road, hd]
  refine wpAny_bind (wpAny_bind (wpAny_pure ?_))
  exact wpAny_mkStr (wpAny_pure ⟨_, rfl, h⟩) hsz
theorem decode_ascii {prog : Program} {w : World} {A : Around} {E : Value → Shared → Prop} {s : Shared} {l : List UInt8} {t u : Tok} {Q : Value → Shared → Prop} (hne : l ≠ []) (hl : ∀ c ∈ l, c.toNat < 128) (hn : l.length ≤ 100)
    (h : ∀ t' k, Q (.str ⟨(l.map UInt8.toNat).toArray⟩ t') { s with toks := k }) : wpAny (model prog w) A (call (.builtin "bytes.decode") [.bytes l.toArray t, .str (PySem.Str.ofString "ascii") u]) Q E s := by
  obtain ⟨c, cs, rfl⟩ := List.exists_cons_of_ne_nil hne
  refine wpAny_call_entry FB.slot_bytes_decode (typeIs_bytes _ _ _) FB.entry_bytes_decode ?_ (args_decode_2 _ _)
  rw [dec_entry]
  refine wpAny_bind (wpAny_mkStr ?_ (by decide))
  refine wpAny_bind (wpAny_mkStr ?_ (by decide))
  refine wpAny_bind (wpAny_mkStr ?_ (by decide))
  refine wpAny_bind (call_function_meets KBd.kind_text KBd.plain_text KBd.entry_text (KBd.args_text _ _ _ _) (dec_meets (x := ⟨((c :: cs).map UInt8.toNat).toArray⟩) fun id => dec_run id (c :: cs) hl hn) ⟨?_, wpAny_pure ⟨_, rfl, h _ _⟩⟩)
  rw [PySem.sizeLine_eq]
  show (((c :: cs).map UInt8.toNat).toArray).size ≤ _
  rw [List.size_toArray, List.length_map]; omega
theorem get_decode {M : Model} {A : Around} {E : Value → Shared → Prop} {s : Shared} {b : Array UInt8} {t : Tok} {pl : Sem Bool} {Q : Value × List Value → Shared → Prop} (h : Q (.builtin "bytes.decode", [.bytes b t]) s) : wpAny M A (getMethod (.bytes b t) "decode" pl) Q E s := KBd.method h
end
section
/-! Rep -/
open Builtin Builtin.Str StrLaws
/-- replacing, sign by sign: the number tells how many signs of a found text are still to be passed over -/
def rep (y z : List Nat) : Nat → List Nat → List Nat
  | _, [] => []
  | k + 1, _ :: l => rep y z k l
  | 0, a :: l => if y.isPrefixOf (a :: l) = true then z ++ rep y z (y.length - 1) l else a :: rep y z 0 l
def hit (X y : List Nat) (i : Nat) : Bool := y.isPrefixOf (X.drop i)
def occL (X y : List Nat) : Nat → Nat → Nat → List Nat
  | _, 0, _ => []
  | i, k + 1, a => if a ≤ i ∧ hit X y i = true then i :: occL X y (i + 1) k (i + y.length) else occL X y (i + 1) k a
def tx (X z : List Nat) (w : Nat) : Nat → List Nat → List Nat
  | a, [] => X.drop a
  | a, c :: r => (X.drop a).take (c - a) ++ z ++ tx X z w (c + w) r
theorem hit_len {X y : List Nat} {i : Nat} (h : hit X y i = true) (hy : y ≠ []) : i < X.length ∧ i + y.length ≤ X.length := by
  have h1 := (List.isPrefixOf_iff_prefix.mp h).length_le
  rw [List.length_drop] at h1
  have : 0 < y.length := List.length_pos_iff.mpr hy
  omega
theorem tx_rep {X y z : List Nat} (hy : y ≠ []) : ∀ (k i a : Nat), i + k = X.length + 1 → a ≤ X.length →
    tx X z y.length a (occL X y i k a) = (X.drop a).take (i - a) ++ rep y z (a - i) (X.drop i)
  | 0, i, a, e, ha => by
    have e1 : X.drop i = [] := List.drop_eq_nil_of_le (by omega)
    rw [e1]
    show X.drop a = _
    rw [List.take_of_length_le (by rw [List.length_drop]; omega)]
    cases a - i <;> simp [rep]
  | k + 1, i, a, e, ha => by
    have hw : 0 < y.length := List.length_pos_iff.mpr hy
    unfold occL
    by_cases c : a ≤ i ∧ hit X y i = true
    · rw [if_pos c]
      obtain ⟨h1, h2⟩ := hit_len c.2 hy
      show (X.drop a).take (i - a) ++ z ++ tx X z y.length (i + y.length) _ = _
      rw [tx_rep hy k (i + 1) (i + y.length) (by omega) h2, show i + 1 - (i + y.length) = 0 by omega, List.take_zero, List.nil_append, show a - i = 0 by omega, show i + y.length - (i + 1) = y.length - 1 by omega, List.drop_eq_getElem_cons h1]
      have c2 := c.2
      unfold hit at c2
      rw [List.drop_eq_getElem_cons h1] at c2
      show _ = _ ++ (if y.isPrefixOf (X[i] :: X.drop (i + 1)) = true then z ++ rep y z (y.length - 1) (X.drop (i + 1)) else _)
      rw [if_pos c2, List.append_assoc]
    · rw [if_neg c, tx_rep hy k (i + 1) a (by omega) ha]
      by_cases hi : i < X.length
      · rw [List.drop_eq_getElem_cons hi]
        by_cases hai : a ≤ i
        · have hn : ¬ y.isPrefixOf (X[i] :: X.drop (i + 1)) = true := by
            intro q
            refine c ⟨hai, ?_⟩
            unfold hit
            rw [List.drop_eq_getElem_cons hi]
            exact q
          rw [show a - (i + 1) = 0 by omega, show a - i = 0 by omega]
          show _ = _ ++ (if y.isPrefixOf (X[i] :: X.drop (i + 1)) = true then _ else X[i] :: rep y z 0 (X.drop (i + 1)))
          rw [if_neg hn, show i + 1 - a = (i - a) + 1 by omega, List.take_add_one, List.getElem?_drop, show a + (i - a) = i by omega, List.getElem?_eq_getElem hi]
          simp
        · obtain ⟨j, hj⟩ : ∃ j, a - i = j + 1 := ⟨a - i - 1, by omega⟩
          rw [hj, show a - (i + 1) = j by omega, show i + 1 - a = 0 by omega, show i - a = 0 by omega]
          rfl
      · have e1 : X.drop i = [] := List.drop_eq_nil_of_le (by omega)
        have e2 : X.drop (i + 1) = [] := List.drop_eq_nil_of_le (by omega)
        rw [e1, e2, List.take_of_length_le (by rw [List.length_drop]; omega), List.take_of_length_le (by rw [List.length_drop]; omega)]
        cases a - i <;> cases a - (i + 1) <;> simp [rep]
theorem sub_hit {x y : Str} (hn : y.length ≠ 0) (i : Nat) : (i + y.length ≤ x.length ∧ subAt x y i = true) ↔ hit x.cps.toList y.cps.toList i = true := by
  have hx : x.cps.toList.length = x.length := by simp [Str.length]
  have hy : y.cps.toList.length = y.length := by simp [Str.length]
  rw [subAt_eq]
  unfold hit
  rw [List.isPrefixOf_iff_prefix, List.prefix_iff_eq_take]
  constructor
  · rintro ⟨h1, h2⟩
    rw [hy]
    exact (eq_of_beq h2).symm
  · intro h
    rw [hy] at h
    have := congrArg List.length h
    rw [hy, List.length_take, List.length_drop, hx] at this
    refine ⟨by omega, by rw [← h]; exact beq_self_eq_true _⟩
theorem occ_list {x y : Str} (hy : y.length ≠ 0) : ∀ (k i : Nat) (found : Array Nat) (free : Nat), found.size ≤ i → i + k = x.length + 1 →
    (forIn (List.range' i k) (found, free) (occBody x y x.length (x.length + 1))).run.fst.toList = found.toList ++ occL x.cps.toList y.cps.toList i k free
  | 0, i, found, free, _, _ => by
    show found.toList = found.toList ++ []
    rw [List.append_nil]
  | k + 1, i, found, free, hf, e => by
    rw [List.range'_succ, List.forIn_cons]
    unfold occBody occL
    have hyl : y.cps.toList.length = y.length := by simp [Str.length]
    by_cases c : free ≤ i ∧ hit x.cps.toList y.cps.toList i = true
    · have c2 := (sub_hit hy i).mpr c.2
      rw [if_pos c, if_pos ⟨⟨⟨by show found.size < _; omega, c.1⟩, c2.1⟩, c2.2⟩]
      show (forIn (List.range' (i + 1) k) (found.push i, i + y.length) (occBody x y x.length (x.length + 1))).run.fst.toList = _
      rw [occ_list hy k (i + 1) _ _ (by rw [Array.size_push]; omega) (by omega), Array.toList_push, hyl, List.append_assoc]
      rfl
    · rw [if_neg c, if_neg (fun q => c ⟨q.1.1.2, (sub_hit hy i).mp ⟨q.1.2, q.2⟩⟩)]
      exact occ_list hy k (i + 1) found free (by omega) (by omega)
theorem glued_tx {x z : Str} {w : Nat} : ∀ (cuts : List Nat) (a : Nat) (acc : Array Nat), ((partsFrom x w a cuts).foldl (fun acc p => acc ++ z.cps ++ p.cps) acc).toList = acc.toList ++ z.cps.toList ++ tx x.cps.toList z.cps.toList w a cuts
  | [], a, acc => by
    have hx : x.cps.toList.length = x.length := by simp [Str.length]
    show (acc ++ z.cps ++ (strSub x a x.length).cps).toList = _
    rw [Array.toList_append, Array.toList_append, strSub_toList]
    show _ = _ ++ x.cps.toList.drop a
    congr 1
    exact List.take_of_length_le (by rw [List.length_drop]; omega)
  | c :: r, a, acc => by
    show ((partsFrom x w (c + w) r).foldl _ (acc ++ z.cps ++ (strSub x a c).cps)).toList = _
    rw [glued_tx r (c + w), Array.toList_append, Array.toList_append, strSub_toList]
    show _ = _ ++ ((x.cps.toList.drop a).take (c - a) ++ z.cps.toList ++ tx _ _ _ (c + w) r)
    simp only [List.append_assoc]
theorem replace_rep {x y z : Str} (hy : y.length ≠ 0) : (Txt.replace x y z).cps.toList = rep y.cps.toList z.cps.toList 0 x.cps.toList := by
  have hx : x.cps.toList.length = x.length := by simp [Str.length]
  have hyl : y.cps.toList.length = y.length := by simp [Str.length]
  have hyn : y.cps.toList ≠ [] := by intro h; rw [h] at hyl; exact hy hyl.symm
  have ho : occurrences x y 0 x.length (x.length + 1) = occL x.cps.toList y.cps.toList 0 (x.length + 1) 0 := by
    rw [occ_eq]
    have := occ_list (x := x) hy (x.length + 1) 0 #[] 0 (Nat.le_refl _) (by omega)
    rw [Nat.sub_zero, this]
    rfl
  have ht := tx_rep (z := z.cps.toList) hyn (x.length + 1) 0 0 (by rw [hx]; omega) (Nat.zero_le _)
  rw [Nat.sub_self, List.take_zero, List.nil_append, List.drop_zero] at ht
  rw [← ht, ← ho, hyl]
  unfold Txt.replace
  generalize occurrences x y 0 x.length (x.length + 1) = oc
  cases oc with
  | nil => rfl
  | cons c r =>
    rw [if_neg (by simp [hy])]
    rw [partsBetween_eq]
    show ((partsFrom x y.length (c + y.length) r).foldl (fun acc p => acc ++ z.cps ++ p.cps) (strSub x 0 c).cps).toList = _
    rw [glued_tx, strSub_toList]
    rfl
/-! the escaping, sign by sign -/
theorem rep_one (c : Nat) (z : List Nat) : ∀ l : List Nat, rep [c] z 0 l = l.flatMap fun a => if a = c then z else [a]
  | [] => rfl
  | a :: l => by
    show (if ([c] : List Nat).isPrefixOf (a :: l) = true then z ++ rep [c] z 0 l else a :: rep [c] z 0 l) = _
    rw [rep_one c z l, List.flatMap_cons]
    by_cases h : a = c
    · subst h; simp [List.isPrefixOf]
    · have h' : ¬ c = a := fun e => h e.symm
      simp [List.isPrefixOf, h, h']
def sgn : Nat → Nat
  | 0 => 34
  | 1 => 13
  | 2 => 38
  | 3 => 62
  | 4 => 60
  | _ => 45
def cd0 : Nat → List Nat
  | 0 => [34]
  | 1 => [38, 35, 120, 68, 59]
  | 2 => [38, 97, 109, 112, 59]
  | 3 => [38, 103, 116, 59]
  | 4 => [38, 108, 116, 59]
  | _ => [45]
def cd1 : Nat → List Nat
  | 3 => [62]
  | n => cd0 n
def cd2 : Nat → List Nat
  | 4 => [60]
  | n => cd1 n
def cd3 : Nat → List Nat
  | 1 => [13]
  | n => cd2 n
def S (l : List Nat) : Str := ⟨l.toArray⟩
theorem s_amp : PySem.Str.ofString "&" = S [38] := by decide
theorem s_lt : PySem.Str.ofString "<" = S [60] := by decide
theorem s_gt : PySem.Str.ofString ">" = S [62] := by decide
theorem s_cr : PySem.Str.ofString "\r" = S [13] := by decide
theorem s_eamp : PySem.Str.ofString "&amp;" = S [38, 97, 109, 112, 59] := by decide
theorem s_elt : PySem.Str.ofString "&lt;" = S [38, 108, 116, 59] := by decide
theorem s_egt : PySem.Str.ofString "&gt;" = S [38, 103, 116, 59] := by decide
theorem s_ecr : PySem.Str.ofString "&#xD;" = S [38, 35, 120, 68, 59] := by decide
theorem rep_S {x : Str} {y z : List Nat} (hy : y ≠ []) : (Txt.replace x (S y) (S z)).cps.toList = rep y z 0 x.cps.toList := by
  rw [replace_rep]
  · rfl
  · show y.toArray.size ≠ 0
    rw [List.size_toArray]; exact fun h => hy (List.eq_nil_of_length_eq_zero h)
theorem str_ext {x y : Str} (h : x.cps.toList = y.cps.toList) : x = y := by
  cases x; cases y; simp only at h; congr 1; exact Array.ext' h
theorem esc_list (is : List Nat) : (((((is.map sgn).flatMap fun a => if a = 38 then [38, 97, 109, 112, 59] else [a]).flatMap fun a => if a = 60 then [38, 108, 116, 59] else [a]).flatMap fun a => if a = 62 then [38, 103, 116, 59] else [a]).flatMap fun a => if a = 13 then [38, 35, 120, 68, 59] else [a]) = is.flatMap cd0 := by
  induction is with
  | nil => rfl
  | cons i r ih =>
    simp only [List.map_cons, List.flatMap_cons, List.flatMap_append] at ih ⊢
    rw [ih]
    congr 1
    match i with
    | 0 => rfl
    | 1 => rfl
    | 2 => rfl
    | 3 => rfl
    | 4 => rfl
    | n + 5 => rfl
theorem esc_blocks {x : Str} (is : List Nat) (h : x.cps.toList = is.map sgn) : (esc x).cps.toList = is.flatMap cd0 := by
  unfold esc
  rw [s_amp, s_eamp, s_lt, s_elt, s_gt, s_egt, s_cr, s_ecr, rep_S (by simp), rep_S (by simp), rep_S (by simp), rep_S (by simp), rep_one, rep_one, rep_one, rep_one, h, esc_list]
theorem rep_blocks {y z : List Nat} {f g : Nat → List Nat} (h : ∀ i rest, rep y z 0 (f i ++ rest) = g i ++ rep y z 0 rest) : ∀ is : List Nat, rep y z 0 (is.flatMap f) = is.flatMap g
  | [] => rfl
  | i :: r => by rw [List.flatMap_cons, List.flatMap_cons, h, rep_blocks h r]
theorem un1 (i : Nat) (rest : List Nat) : rep [38, 103, 116, 59] [62] 0 (cd0 i ++ rest) = cd1 i ++ rep [38, 103, 116, 59] [62] 0 rest := by
  match i with
  | 0 => rfl
  | 1 => rfl
  | 2 => rfl
  | 3 => rfl
  | 4 => rfl
  | n + 5 => rfl
theorem un2 (i : Nat) (rest : List Nat) : rep [38, 108, 116, 59] [60] 0 (cd1 i ++ rest) = cd2 i ++ rep [38, 108, 116, 59] [60] 0 rest := by
  match i with
  | 0 => rfl
  | 1 => rfl
  | 2 => rfl
  | 3 => rfl
  | 4 => rfl
  | n + 5 => rfl
theorem un3 (i : Nat) (rest : List Nat) : rep [38, 35, 120, 68, 59] [13] 0 (cd2 i ++ rest) = cd3 i ++ rep [38, 35, 120, 68, 59] [13] 0 rest := by
  match i with
  | 0 => rfl
  | 1 => rfl
  | 2 => rfl
  | 3 => rfl
  | 4 => rfl
  | n + 5 => rfl
theorem un4 (i : Nat) (rest : List Nat) : rep [38, 97, 109, 112, 59] [38] 0 (cd3 i ++ rest) = [sgn i] ++ rep [38, 97, 109, 112, 59] [38] 0 rest := by
  match i with
  | 0 => rfl
  | 1 => rfl
  | 2 => rfl
  | 3 => rfl
  | 4 => rfl
  | n + 5 => rfl
theorem flat_one (f : Nat → Nat) : ∀ is : List Nat, is.flatMap (fun i => [f i]) = is.map f
  | [] => rfl
  | i :: r => by rw [List.flatMap_cons, flat_one f r]; rfl
/-- what was escaped is read again -/
theorem unesc_blocks {x : Str} (is : List Nat) (h : x.cps.toList = is.map sgn) : unesc (esc x) = x := by
  apply str_ext
  have e := esc_blocks is h
  unfold unesc
  rw [s_amp, s_eamp, s_lt, s_elt, s_gt, s_egt, s_cr, s_ecr, rep_S (by simp), rep_S (by simp), rep_S (by simp), rep_S (by simp), e, rep_blocks un1, rep_blocks un2, rep_blocks un3, rep_blocks un4, flat_one, h]
/-! the written names, compared -/
def ltL : List Nat → List Nat → Bool
  | _, [] => false
  | [], _ :: _ => true
  | a :: x, b :: y => a.blt b || (a.beq b && ltL x y)
theorem ltL_iff : ∀ x y : List Nat, x < y ↔ ltL x y = true
  | [], [] => by simp [ltL]
  | [], _ :: _ => by simp [ltL]
  | _ :: _, [] => by simp [ltL]
  | a :: x, b :: y => by
    rw [List.cons_lt_cons_iff, ltL_iff x y]
    simp [ltL, Nat.blt_eq, Nat.beq_eq]
theorem lt_dec (x y : List Nat) : decide (x < y) = ltL x y := by
  rw [Bool.eq_iff_iff, decide_eq_true_iff, ltL_iff]
theorem ltL_same (p x y : List Nat) : ltL (p ++ x) (p ++ y) = ltL x y := by
  induction p with
  | nil => rfl
  | cons a p ih =>
    show (a.blt a || (a.beq a && ltL (p ++ x) (p ++ y))) = _
    rw [ih]
    have h1 : a.blt a = false := by
      cases h : a.blt a with
      | false => rfl
      | true => exact absurd (Nat.blt_eq.mp h) (Nat.lt_irrefl _)
    have h2 : a.beq a = true := Nat.beq_eq.mpr rfl
    rw [h1, h2]; simp
theorem cd_lt : ∀ i j : Nat, i < j → j ≤ 5 → ∀ X Y, ltL (cd0 i ++ X) (cd0 j ++ Y) = true ∧ ltL (cd0 j ++ Y) (cd0 i ++ X) = false := by
  intro i j hij hj X Y
  match i, j, hij, hj with
  | 0, 1, _, _ => exact ⟨rfl, rfl⟩
  | 0, 2, _, _ => exact ⟨rfl, rfl⟩
  | 0, 3, _, _ => exact ⟨rfl, rfl⟩
  | 0, 4, _, _ => exact ⟨rfl, rfl⟩
  | 0, 5, _, _ => exact ⟨rfl, rfl⟩
  | 1, 2, _, _ => exact ⟨rfl, rfl⟩
  | 1, 3, _, _ => exact ⟨rfl, rfl⟩
  | 1, 4, _, _ => exact ⟨rfl, rfl⟩
  | 1, 5, _, _ => exact ⟨rfl, rfl⟩
  | 2, 3, _, _ => exact ⟨rfl, rfl⟩
  | 2, 4, _, _ => exact ⟨rfl, rfl⟩
  | 2, 5, _, _ => exact ⟨rfl, rfl⟩
  | 3, 4, _, _ => exact ⟨rfl, rfl⟩
  | 3, 5, _, _ => exact ⟨rfl, rfl⟩
  | 4, 5, _, _ => exact ⟨rfl, rfl⟩
  | n + 5, j, q1, q2 => exact absurd q1 (by omega)
def wl (a b d : Nat) (s : List Int) : List Nat := (s.map fun e => if isPos e then d else a) ++ [b]
def ltS : List Int → List Int → Bool
  | [], [] => false
  | [], e :: _ => isPos e
  | e :: _, [] => !isPos e
  | e :: s, f :: t => if isPos e = isPos f then ltS s t else isPos f
theorem wl_lt {a b d : Nat} (h1 : a < b) (h2 : b < d) (h3 : d ≤ 5) : ∀ s t : List Int, ltL ((wl a b d s).flatMap cd0) ((wl a b d t).flatMap cd0) = ltS s t
  | [], [] => by
    have := ltL_same (cd0 b) [] []
    rw [List.append_nil] at this
    simpa [wl, ltS, ltL] using this
  | [], f :: t => by
    show ltL (cd0 b ++ []) (cd0 (if isPos f then d else a) ++ (wl a b d t).flatMap cd0) = isPos f
    cases isPos f with
    | true => exact (cd_lt b d h2 h3 _ _).1
    | false => exact (cd_lt a b h1 (by omega) _ _).2
  | e :: s, [] => by
    show ltL (cd0 (if isPos e then d else a) ++ (wl a b d s).flatMap cd0) (cd0 b ++ []) = !isPos e
    cases isPos e with
    | true => exact (cd_lt b d h2 h3 _ _).2
    | false => exact (cd_lt a b h1 (by omega) _ _).1
  | e :: s, f :: t => by
    show ltL (cd0 (if isPos e then d else a) ++ (wl a b d s).flatMap cd0) (cd0 (if isPos f then d else a) ++ (wl a b d t).flatMap cd0) = if isPos e = isPos f then ltS s t else isPos f
    have ih := wl_lt h1 h2 h3 s t
    cases isPos e <;> cases isPos f
    · rw [ltL_same, ih]; rfl
    · exact (cd_lt a d (by omega) h3 _ _).1
    · exact (cd_lt a d (by omega) h3 _ _).2
    · rw [ltL_same, ih]; rfl
theorem ltS_all : ((stalksN 4).all fun s => (stalksN 4).all fun t => ltS s t == isNeg (worthOf s - worthOf t)) = true := by decide +kernel
theorem ltS_at {s t : List Int} (hs : s.length ≤ 4) (ht : t.length ≤ 4) (ps : ∀ e ∈ s, e = 1 ∨ e = -1) (pt : ∀ e ∈ t, e = 1 ∨ e = -1) : ltS s t = isNeg (worthOf s - worthOf t) := by
  have h := ltS_all
  rw [List.all_eq_true] at h
  have h1 := h s (mem_stalks 4 s hs ps)
  rw [List.all_eq_true] at h1
  exact eq_of_beq (h1 t (mem_stalks 4 t ht pt))
/-! the words, compared -/
def wordT (s : List Int) : List Nat := (apL (549755813888 + worthOf s).natAbs).map UInt8.toNat
def tabW : List (Int × List Nat) := (stalksN 4).map fun s => (worthOf s, wordT s)
theorem words_all : (tabW.all fun p => tabW.all fun q => ltL p.2 q.2 == isNeg (p.1 - q.1)) = true := by decide +kernel
theorem words_at {s t : List Int} (hs : s.length ≤ 4) (ht : t.length ≤ 4) (ps : ∀ e ∈ s, e = 1 ∨ e = -1) (pt : ∀ e ∈ t, e = 1 ∨ e = -1) : ltL (wordT s) (wordT t) = isNeg (worthOf s - worthOf t) := by
  have h := words_all
  rw [List.all_eq_true] at h
  have h1 := h _ (List.mem_map_of_mem (mem_stalks 4 s hs ps))
  rw [List.all_eq_true] at h1
  exact eq_of_beq (h1 _ (List.mem_map_of_mem (mem_stalks 4 t ht pt)))
end
section
/-! Nam -/
local macro_rules | `(tactic| walk_at "no key") => `(tactic| fail)
open Builtin.Str in
theorem join_flat (xs : List Str) : (Txt.join (PySem.Str.ofString "") xs).cps.toList = xs.flatMap fun x => x.cps.toList := by
  have he : (PySem.Str.ofString "").cps = #[] := by decide
  have go : ∀ (l : List Str) (acc : Array Nat), (l.foldl (fun acc p => acc ++ (PySem.Str.ofString "").cps ++ p.cps) acc).toList = acc.toList ++ l.flatMap fun x => x.cps.toList := by
    intro l
    induction l with
    | nil => intro acc; simp
    | cons x r ih =>
      intro acc
      rw [List.foldl_cons, ih, he, List.flatMap_cons]
      simp
  cases xs with
  | nil => rfl
  | cons x r =>
    show (r.foldl _ x.cps).toList = _
    rw [go, List.flatMap_cons]
theorem sign_at {i : Int} (h : 0 ≤ i ∧ i ≤ 5) : (signAt i).cps.toList = [sgn i.toNat] := by
  have e : ∀ j : Fin 6, (signAt (j.val : Int)).cps.toList = [sgn j.val] := by decide +kernel
  have := e ⟨i.toNat, by omega⟩
  simp only at this
  rwa [show ((i.toNat : Nat) : Int) = i by omega] at this
theorem str_app (x y : Str) : (x ++ y).cps.toList = x.cps.toList ++ y.cps.toList := by
  show (x.cps ++ y.cps).toList = _
  rw [Array.toList_append]
theorem name_blocks (c : Int) (ws : List Int) : (nameOf c ws).cps.toList = (wl (lowOf c).toNat (endOf c).toNat (highOf c).toNat ws).map sgn := by
  unfold nameOf wl
  rw [str_app, join_flat, sign_at (end_fits c), List.map_append]
  congr 1
  induction ws with
  | nil => rfl
  | cons e r ih =>
    rw [List.map_cons, List.flatMap_cons, ih, List.map_cons, List.map_cons]
    by_cases h : 0 < e
    · rw [if_pos h, sign_at (high_fits c), if_pos ((isPos_iff e).mpr h)]; rfl
    · rw [if_neg h, sign_at (low_fits c), if_neg (by rw [isPos_iff]; exact h)]; rfl
theorem name_read (c : Int) (ws : List Int) : unesc (esc (nameOf c ws)) = nameOf c ws := unesc_blocks _ (name_blocks c ws)
theorem name_len (c : Int) (ws : List Int) : (nameOf c ws).length = ws.length + 1 := by
  have := congrArg List.length (name_blocks c ws)
  rw [Array.length_toList, List.length_map] at this
  show (nameOf c ws).cps.size = _
  rw [this]; simp [wl]
theorem flat_len {f : Nat → List Nat} {n : Nat} (h : ∀ i, (f i).length ≤ n) : ∀ is : List Nat, (is.flatMap f).length ≤ n * is.length
  | [] => Nat.le_refl _
  | i :: r => by
    rw [List.flatMap_cons, List.length_append, List.length_cons, Nat.mul_add]
    have h1 := flat_len h r
    have h2 := h i
    omega
theorem cd0_len (i : Nat) : (cd0 i).length ≤ 5 := by
  match i with
  | 0 => decide
  | 1 => decide
  | 2 => decide
  | 3 => decide
  | 4 => decide
  | n + 5 => exact (by decide : (1 : Nat) ≤ 5)
theorem esc_len (c : Int) {ws : List Int} (h : ws.length ≤ 4) : (esc (nameOf c ws)).length ≤ 100 := by
  have e := esc_blocks _ (name_blocks c ws)
  have := congrArg List.length e
  rw [Array.length_toList] at this
  have h2 := flat_len cd0_len (wl (lowOf c).toNat (endOf c).toNat (highOf c).toNat ws)
  have h3 : (wl (lowOf c).toNat (endOf c).toNat (highOf c).toNat ws).length = ws.length + 1 := by simp [wl]
  show (esc (nameOf c ws)).cps.size ≤ _
  omega
/-- names stand as the stalks' worths do -/
theorem names_lt (c : Int) {s t : List Int} (hs : s.length ≤ 4) (ht : t.length ≤ 4) (ps : ∀ e ∈ s, e = 1 ∨ e = -1) (pt : ∀ e ∈ t, e = 1 ∨ e = -1) :
    decide ((esc (nameOf c s)).cps.toList < (esc (nameOf c t)).cps.toList) = isNeg (worthOf s - worthOf t) := by
  rw [lt_dec, esc_blocks _ (name_blocks c s), esc_blocks _ (name_blocks c t), wl_lt, ltS_at hs ht ps pt]
  · have := (end_bounds c).1; have := (low_fits c).1; omega
  · have := (high_bounds c).1; have := (end_fits c).1; omega
  · have := (high_fits c); omega
abbrev apS (s : List Int) : Str := ⟨((apL (549755813888 + worthOf s).natAbs).map UInt8.toNat).toArray⟩
theorem apS_lt {s t : List Int} (hs : s.length ≤ 4) (ht : t.length ≤ 4) (ps : ∀ e ∈ s, e = 1 ∨ e = -1) (pt : ∀ e ∈ t, e = 1 ∨ e = -1) :
    decide ((apS s).cps.toList < (apS t).cps.toList) = isNeg (worthOf s - worthOf t) := by
  rw [lt_dec]
  exact words_at hs ht ps pt
theorem apDig_lt {k : Nat} (h : k < 16) : (apDig k).toNat < 128 := by
  have e : ∀ j : Fin 16, (apDig j.val).toNat < 128 := by decide
  exact e ⟨k, h⟩
theorem apF_low : ∀ (f n : Nat) (c : UInt8), c ∈ apF f n → c.toNat < 128
  | 0, _, c, h => by cases h
  | f + 1, n, c, h => by
    unfold apF at h
    by_cases hn : n = 0
    · rw [if_pos hn] at h; cases h
    · rw [if_neg hn] at h
      rcases List.mem_append.mp h with h | h
      · exact apF_low f _ c h
      · rw [List.mem_singleton.mp h]; exact apDig_lt (Nat.mod_lt _ (by decide))
theorem apL_low (n : Nat) : ∀ c ∈ apL n, c.toNat < 128 := apF_low 16 n
theorem apL_short (n : Nat) : (apL n).length ≤ 100 := Nat.le_trans (apF_len 16 n) (by decide)
theorem apL_some {n : Nat} (h : n ≠ 0) : apL n ≠ [] := by
  unfold apL
  rw [apF_step h]
  simp
theorem pos_neg (i : Int) : isPos (-i) = isNeg i := by
  rw [Bool.eq_iff_iff, isPos_iff, isNeg_iff]; omega
/-- the worth of a stalk lies between -4 · 4096 and 4 · 4096, of twelve edges within 12 -/
theorem worth_bound {s : List Int} (hp : ∀ e ∈ s, e = 1 ∨ e = -1) : (worthOf s).natAbs ≤ 4096 * s.length := by
  have go : ∀ (l : List Int) (h : Int) (p w : Int), (∀ e ∈ l, e = 1 ∨ e = -1) → 0 ≤ p → p ≤ 4096 → ((l.foldl (worthStep h) (p, w)).2 - w).natAbs ≤ 4096 * l.length := by
    intro l
    induction l with
    | nil => intro h p w _ _ _; simp
    | cons e r ih =>
      intro h p w hl h0 h1
      rw [List.foldl_cons, List.length_cons]
      have hf : p.fdiv 2 = p / 2 := Int.fdiv_eq_ediv_of_nonneg _ (by decide)
      have he := hl e (.head _)
      have hr : ∀ x ∈ r, x = 1 ∨ x = -1 := fun x hx => hl x (.tail _ hx)
      have st : worthStep h (p, w) e = ((if e ≠ h ∨ p < 4096 then p / 2 else p), w + e * (if e ≠ h ∨ p < 4096 then p / 2 else p)) := by
        unfold worthStep
        rw [hf]
      rw [st]
      have hq : 0 ≤ (if e ≠ h ∨ p < 4096 then p / 2 else p) ∧ (if e ≠ h ∨ p < 4096 then p / 2 else p) ≤ 4096 := by split <;> omega
      generalize (if e ≠ h ∨ p < 4096 then p / 2 else p) = q at hq
      have := ih h q (w + e * q) hr hq.1 hq.2
      generalize (r.foldl (worthStep h) (q, w + e * q)).2 = z at this
      rcases he with rfl | rfl <;> omega
  have := go s (s.headD 0) 4096 0 hp (by decide) (Int.le_refl _)
  rw [Int.sub_zero] at this
  exact this
/-- the worth of the negative -/
theorem worth_neg (s : List Int) : worthOf (s.map fun e => -e) = -worthOf s := by
  have go : ∀ (l : List Int) (h : Int) (p w : Int), (l.map fun e => -e).foldl (worthStep (-h)) (p, -w) = ((l.foldl (worthStep h) (p, w)).1, -(l.foldl (worthStep h) (p, w)).2) := by
    intro l
    induction l with
    | nil => intro h p w; rfl
    | cons e r ih =>
      intro h p w
      rw [List.map_cons, List.foldl_cons, List.foldl_cons]
      have st : worthStep (-h) (p, -w) (-e) = ((worthStep h (p, w) e).1, -(worthStep h (p, w) e).2) := by
        unfold worthStep
        simp only
        have : (-e ≠ -h ∨ p < 4096) ↔ (e ≠ h ∨ p < 4096) := by
          constructor
          · rintro (q | q)
            · exact .inl fun x => q (by rw [x])
            · exact .inr q
          · rintro (q | q)
            · exact .inl fun x => q (Int.neg_inj.mp x)
            · exact .inr q
        by_cases c : e ≠ h ∨ p < 4096
        · rw [if_pos c, if_pos (this.mpr c), Int.neg_add, Int.neg_mul]
        · rw [if_neg c, if_neg (fun q => c (this.mp q)), Int.neg_add, Int.neg_mul]
      rw [st]
      exact ih h _ _
  have hd : (s.map fun e => -e).headD 0 = -(s.headD 0) := by cases s <;> simp
  have := go s (s.headD 0) 4096 0
  unfold worthOf
  rw [hd]
  rw [Int.neg_zero] at this
  rw [this]
theorem edges_pm (ws : List Int) : ∀ e ∈ edgesOf ws, e = 1 ∨ e = -1 := by
  intro e he
  obtain ⟨w, _, rfl⟩ := List.mem_map.mp he
  split
  · exact .inl rfl
  · exact .inr rfl
theorem edges_len (ws : List Int) : (edgesOf ws).length ≤ ws.length := by
  unfold edgesOf
  rw [List.length_map]
  exact List.length_filter_le _ _
theorem edges_neg : ∀ ws : List Int, edgesOf (ws.map fun w => -w) = (edgesOf ws).map fun e => -e
  | [] => rfl
  | w :: r => by
    have ih := edges_neg r
    unfold edgesOf at ih ⊢
    by_cases h0 : w = 0
    · subst h0; simpa using ih
    · have h0' : ¬ -w = 0 := by omega
      rw [List.map_cons, List.filter_cons_of_pos (by simpa using h0'), List.filter_cons_of_pos (by simpa using h0), List.map_cons, List.map_cons, List.map_cons, ih]
      congr 1
      by_cases hw : 0 < w
      · rw [if_pos hw, if_neg (by omega)]
      · rw [if_neg hw, if_pos (by omega)]; rfl
end
section
/-! F1 -/
local macro_rules | `(tactic| walk_at "no key") => `(tactic| fail)
abbrev tup (l : List Value) : Obj := { cls := .type "tuple", data := .seq l.toArray }
abbrev lst (l : List Value) (n : Nat) : Obj := { cls := .type "list", data := .seq l.toArray n }
def yF (r g b : UInt64) : UInt64 := Float64.add (Float64.add (Float64.mul 4599075939470750515 r) (Float64.mul 4603489467105573601 g)) (Float64.mul 4592590756007337001 b)
def iF (r g b : UInt64) : UInt64 := Float64.sub (Float64.mul 4604840546993784750 (Float64.sub r (yF r g b))) (Float64.mul 4598535507515466056 (Float64.sub b (yF r g b)))
def qF (r g b : UInt64) : UInt64 := Float64.add (Float64.mul 4602318531202457272 (Float64.sub r (yF r g b))) (Float64.mul 4601057523306793533 (Float64.sub b (yF r g b)))

theorem c_rgb {w : World} {mean : ExcName → Option Value} {mg mb : Str → Option Value} {G : Heap} {A : Around} {s : Shared} {Q E : Value → Shared → Prop}
    (C : Cx w mean mg mb G s.heap) (hA : Fits A 700 3000) (r g b : UInt64) (tr tg tb : Tok)
    (hQ : ∀ t x y z h' tk', Ext s.heap h' → Made s.heap h' [(t, tup [.float (yF r g b) x, .float (iF r g b) y, .float (qF r g b) z])] → Q (.ref t) { s with heap := h', toks := tk' }) :
    wpAny (model PySem.Challenge.pw_wu0004_01 w) A (call (.ref 21) [.float r tr, .float g tg, .float b tb]) Q E s := by
  refine' enterB (binds := [(PySem.Str.ofString "r", .float r tr), (PySem.Str.ofString "g", .float g tg), (PySem.Str.ofString "b", .float b tb)]) (fun v l => ∃ t x y z, v = .ref t ∧ l = [(t, tup [.float (yF r g b) x, .float (iF r g b) y, .float (qF r g b) z])]) ([]) C hA ?hh ?hQ ?ho ?hcd ?hroom ?hbind ?hloc ?body ?hco ?hgen ?hk ?hcell
  (case ho => k_is)
  (case hcd => k_is)
  (case hroom => decide)
  (case hbind => exact BindsTo.of_eq rfl)
  (case hloc => exact locs rfl)
  (case hco => exact rfl)
  (case hgen => exact rfl)
  (case hk => exact rfl)
  (case hcell => decide)
  case hh => exact obs_nil
  case hQ =>
    rintro v l h' tk' e1 e2 ⟨t, x, y, z, rfl, rfl⟩
    exact hQ t x y z h' tk' e1 e2
  case body =>
    intro g' L' h1 tk1 hle1 hg FG N' KX T l1
    (try simp only [List.length_cons, List.length_nil] at hle1)
    (try k_lt l1)
    try dsimp only
    try k_fold
    k_steps
    (with_reducible rename Fr _ _ _ _ => F9)
    (with_reducible rename News _ _ _ _ => N9)
    refine back_one F9 N9 hg (by k_mem) (by repeat' (first | exact mem_nil' | (refine mem_cons' ?_ ?_; k_mem))) (by repeat' (first | exact mem_nil' | (refine mem_cons' ?_ ?_; k_ne))) ?_
    exact ⟨_, _, _, _, rfl, rfl⟩

def rX (y i q : UInt64) : UInt64 := Float64.add (Float64.add y (Float64.mul 4606703976345377586 i)) (Float64.mul 4603791717925830846 q)
def gX (y i q : UInt64) : UInt64 := Float64.sub (Float64.sub y (Float64.mul 4598621754083818298 i)) (Float64.mul 4603901015759978483 q)
def bX (y i q : UInt64) : UInt64 := Float64.add (Float64.sub y (Float64.mul 4607671262177584182 i)) (Float64.mul 4610375502138591871 q)
def low (x : UInt64) : UInt64 := if (Float64.cmp x 0 == some Ordering.lt) = true then 0 else x
def clip (x : UInt64) : UInt64 := if (Float64.cmp (low x) 4607182418800017408 == some Ordering.gt) = true then 4607182418800017408 else low x
theorem clip_a {x : UInt64} (h : (Float64.cmp x 0 == some Ordering.lt) = true) (h' : (Float64.cmp 0 4607182418800017408 == some Ordering.gt) = false) : 0 = clip x := by
  unfold clip low; simp only [h, h', if_true, Bool.false_eq_true, if_false]
theorem clip_b {x : UInt64} (h : (Float64.cmp x 0 == some Ordering.lt) = true) (h' : (Float64.cmp 0 4607182418800017408 == some Ordering.gt) = true) : 4607182418800017408 = clip x := by
  unfold clip low; simp only [h, h', if_true]
theorem clip_c {x : UInt64} (h : (Float64.cmp x 0 == some Ordering.lt) = false) (h' : (Float64.cmp x 4607182418800017408 == some Ordering.gt) = true) : 4607182418800017408 = clip x := by
  unfold clip low; simp only [h, h', if_true, Bool.false_eq_true, if_false]
theorem clip_d {x : UInt64} (h : (Float64.cmp x 0 == some Ordering.lt) = false) (h' : (Float64.cmp x 4607182418800017408 == some Ordering.gt) = false) : x = clip x := by
  unfold clip low; simp only [h, h', Bool.false_eq_true, if_false]

structure IfEnd (g : Heap) (L : Addr) (s : Shared) (x : Str) (v : UInt64) (m : Str → Option Value) (f : Flow) (s' : Shared) : Prop where
  e : f = .next
  h : ∃ h' tk t, s' = { s with heap := h', toks := tk } ∧ Fr g L h' (fun y => if y = x then some (.float v t) else m y)
theorem ifEnd_set {g h : Heap} {L : Addr} {s : Shared} {x : Str} {v u : UInt64} {t : Tok} {m : Str → Option Value} {tk : Nat} (F : Fr g L h (fun y => if y = x then some (.float u t) else m y)) (e : u = v) : IfEnd g L s x v m .next { s with heap := h, toks := tk } := by
  subst e; exact ⟨rfl, _, _, _, rfl, F⟩
theorem ifEnd_same {g h : Heap} {L : Addr} {s : Shared} {x : Str} {v u : UInt64} {t : Tok} {m : Str → Option Value} {tk : Nat} (F : Fr g L h m) (hm : m x = some (.float u t)) (e : u = v) : IfEnd g L s x v m .next { s with heap := h, toks := tk } := by
  subst e
  refine ⟨rfl, h, tk, t, rfl, ?_⟩
  have : (fun y => if y = x then some (Value.float u t) else m y) = m := funext fun y => by
    by_cases q : y = x
    · rw [if_pos q, q, hm]
    · rw [if_neg q]
  rw [this]; exact F
theorem newsNo {h₀ h : Heap} {L : Addr} : News h₀ L h [] := fun _ hp => nomatch hp
def high (x : UInt64) : UInt64 := if (Float64.cmp x 4607182418800017408 == some Ordering.gt) = true then 4607182418800017408 else x
theorem low_yes {x : UInt64} (h : (Float64.cmp x 0 == some Ordering.lt) = true) : 0 = low x := by unfold low; rw [if_pos h]
theorem low_no {x : UInt64} (h : (Float64.cmp x 0 == some Ordering.lt) = false) : x = low x := by unfold low; simp only [h, Bool.false_eq_true, if_false]
theorem high_yes {x : UInt64} (h : (Float64.cmp x 4607182418800017408 == some Ordering.gt) = true) : 4607182418800017408 = high x := by unfold high; rw [if_pos h]
theorem high_no {x : UInt64} (h : (Float64.cmp x 4607182418800017408 == some Ordering.gt) = false) : x = high x := by unfold high; simp only [h, Bool.false_eq_true, if_false]
theorem if_join {M : Model} {A : Around} {E : Value → Shared → Prop} {s : Shared} {t : Sem Flow} {Q : Flow → Shared → Prop} {g : Heap} {L : Addr} {m : Str → Option Value} (_F : Fr g L s.heap m) (x : Str) (v : UInt64) (h1 : wpAny M A t (IfEnd g L s x v m) E s) (h2 : ∀ f s', IfEnd g L s x v m f s' → Q f s') : wpAny M A t Q E s := wpAny_mono h1 h2 fun _ _ e => e
structure MarkI (P : Prop) : Prop where
  h : P
theorem stubI {P : Prop} (h : MarkI P) : P := h.h
section
local macro_rules | `(tactic| walk_at "exec If") => `(tactic| (k_here; refine stubI ?_))
theorem c_yiq {w : World} {mean : ExcName → Option Value} {mg mb : Str → Option Value} {G : Heap} {A : Around} {s : Shared} {Q E : Value → Shared → Prop}
    (C : Cx w mean mg mb G s.heap) (hA : Fits A 700 3000) (y i q : UInt64) (tr tg tb : Tok)
    (hQ : ∀ t x z u h' tk', Ext s.heap h' → Made s.heap h' [(t, tup [.float (clip (rX y i q)) x, .float (clip (gX y i q)) z, .float (clip (bX y i q)) u])] → Q (.ref t) { s with heap := h', toks := tk' }) :
    wpAny (model PySem.Challenge.pw_wu0004_01 w) A (call (.ref 28) [.float y tr, .float i tg, .float q tb]) Q E s := by
  refine' enterB (binds := [(PySem.Str.ofString "y", .float y tr), (PySem.Str.ofString "i", .float i tg), (PySem.Str.ofString "q", .float q tb)]) (fun v l => ∃ t x z u a b c, v = .ref t ∧ l = [(t, tup [.float a x, .float b z, .float c u])] ∧ a = clip (rX y i q) ∧ b = clip (gX y i q) ∧ c = clip (bX y i q)) ([]) C hA ?hh ?hQ ?ho ?hcd ?hroom ?hbind ?hloc ?body ?hco ?hgen ?hk ?hcell
  (case ho => k_is)
  (case hcd => k_is)
  (case hroom => decide)
  (case hbind => exact BindsTo.of_eq rfl)
  (case hloc => exact locs rfl)
  (case hco => exact rfl)
  (case hgen => exact rfl)
  (case hk => exact rfl)
  (case hcell => decide)
  case hh => exact obs_nil
  case hQ =>
    rintro v l h' tk' e1 e2 ⟨t, x, z, u, a, b, c, rfl, rfl, rfl, rfl, rfl⟩
    exact hQ t x z u h' tk' e1 e2
  case body =>
    intro g' L' h1 tk1 hle1 hg FG N' KX T l1
    (try simp only [List.length_cons, List.length_nil] at hle1)
    (try k_lt l1)
    try dsimp only
    try k_fold
    k_steps
    as_aux_lemma =>
    refine MarkI.mk ?_
    with_reducible rename Fr _ _ _ _ => F9
    refine if_join F9 (PySem.Str.ofString "r") (low (rX y i q)) ?_ ?_
    · refine wpAny_If ?_
      k_steps
      all_goals first | (refine ifEnd_set (by assumption) ?_; exact low_yes (by assumption)) | (refine ifEnd_same F9 (by rfl) ?_; exact low_no (by assumption))
    rintro _ _ ⟨rfl, h9, tk9, t9, rfl, F8⟩
    have N8 : News g' L' h9 [] := newsNo
    clear F9
    (try dsimp only)
    k_steps
    as_aux_lemma =>
    refine MarkI.mk ?_
    with_reducible rename Fr _ _ _ _ => F9
    refine if_join F9 (PySem.Str.ofString "g") (low (gX y i q)) ?_ ?_
    · refine wpAny_If ?_
      k_steps
      all_goals first | (refine ifEnd_set (by assumption) ?_; exact low_yes (by assumption)) | (refine ifEnd_same F9 (by rfl) ?_; exact low_no (by assumption))
    rintro _ _ ⟨rfl, h9, tk9, t9, rfl, F8⟩
    have N8 : News g' L' h9 [] := newsNo
    clear F9
    (try dsimp only)
    k_steps
    as_aux_lemma =>
    refine MarkI.mk ?_
    with_reducible rename Fr _ _ _ _ => F9
    refine if_join F9 (PySem.Str.ofString "b") (low (bX y i q)) ?_ ?_
    · refine wpAny_If ?_
      k_steps
      all_goals first | (refine ifEnd_set (by assumption) ?_; exact low_yes (by assumption)) | (refine ifEnd_same F9 (by rfl) ?_; exact low_no (by assumption))
    rintro _ _ ⟨rfl, h9, tk9, t9, rfl, F8⟩
    have N8 : News g' L' h9 [] := newsNo
    clear F9
    (try dsimp only)
    k_steps
    as_aux_lemma =>
    refine MarkI.mk ?_
    with_reducible rename Fr _ _ _ _ => F9
    refine if_join F9 (PySem.Str.ofString "r") (high (low (rX y i q))) ?_ ?_
    · refine wpAny_If ?_
      k_steps
      all_goals first | (refine ifEnd_set (by assumption) ?_; exact high_yes (by assumption)) | (refine ifEnd_same F9 (by rfl) ?_; exact high_no (by assumption))
    rintro _ _ ⟨rfl, h9, tk9, t9, rfl, F8⟩
    have N8 : News g' L' h9 [] := newsNo
    clear F9
    (try dsimp only)
    k_steps
    as_aux_lemma =>
    refine MarkI.mk ?_
    with_reducible rename Fr _ _ _ _ => F9
    refine if_join F9 (PySem.Str.ofString "g") (high (low (gX y i q))) ?_ ?_
    · refine wpAny_If ?_
      k_steps
      all_goals first | (refine ifEnd_set (by assumption) ?_; exact high_yes (by assumption)) | (refine ifEnd_same F9 (by rfl) ?_; exact high_no (by assumption))
    rintro _ _ ⟨rfl, h9, tk9, t9, rfl, F8⟩
    have N8 : News g' L' h9 [] := newsNo
    clear F9
    (try dsimp only)
    k_steps
    as_aux_lemma =>
    refine MarkI.mk ?_
    with_reducible rename Fr _ _ _ _ => F9
    refine if_join F9 (PySem.Str.ofString "b") (high (low (bX y i q))) ?_ ?_
    · refine wpAny_If ?_
      k_steps
      all_goals first | (refine ifEnd_set (by assumption) ?_; exact high_yes (by assumption)) | (refine ifEnd_same F9 (by rfl) ?_; exact high_no (by assumption))
    rintro _ _ ⟨rfl, h9, tk9, t9, rfl, F8⟩
    have N8 : News g' L' h9 [] := newsNo
    clear F9
    (try dsimp only)
    k_steps
    (with_reducible rename Fr _ _ _ _ => F9)
    (with_reducible rename News _ _ _ _ => N9)
    refine back_one F9 N9 hg (by k_mem) (by repeat' (first | exact mem_nil' | (refine mem_cons' ?_ ?_; k_mem))) (by repeat' (first | exact mem_nil' | (refine mem_cons' ?_ ?_; k_ne))) ?_
    exact ⟨_, _, _, _, _, _, _, rfl, rfl, rfl, rfl, rfl⟩
end
end
section
/-! Q4 -/
open LCg (NsObj CompEnd Off3 Off1 FinE FinA SrcAt)
/-! a list whose items are told one by one -/
inductive All2 {α : Type} (R : List (Addr × Obj) → Value → α → Prop) (B : List (Addr × Obj)) : List Value → List α → Prop
  | nil : All2 R B [] []
  | cons {v : Value} {a : α} {ys : List Value} {as : List α} : R B v a → All2 R B ys as → All2 R B (v :: ys) (a :: as)
def Mono {α : Type} (R : List (Addr × Obj) → Value → α → Prop) : Prop := ∀ (B B' : List (Addr × Obj)) (v : Value) (a : α), (∀ p ∈ B, p ∈ B') → R B v a → R B' v a
section
variable {α : Type} {R : List (Addr × Obj) → Value → α → Prop} {B B' : List (Addr × Obj)} {ys : List Value} {as : List α}
theorem All2.sub (hR : Mono R) (hs : ∀ p ∈ B, p ∈ B') (h : All2 R B ys as) : All2 R B' ys as := by
  induction h with
  | nil => exact .nil
  | cons a _ ih => exact .cons (hR _ _ _ _ hs a) ih
theorem All2.snoc {v : Value} {a : α} (h : All2 R B ys as) (k : R B v a) : All2 R B (ys ++ [v]) (as ++ [a]) := by
  induction h with
  | nil => exact .cons k .nil
  | cons a _ ih => exact .cons a ih
theorem All2.len (h : All2 R B ys as) : ys.length = as.length := by
  induction h with
  | nil => rfl
  | cons _ _ ih => simp [ih]
theorem All2.get (h : All2 R B ys as) : ∀ {i : Nat} {v : Value}, ys[i]? = some v → ∃ a, as[i]? = some a ∧ R B v a := by
  induction h with
  | nil => intro i v e; simp at e
  | @cons v0 a0 ys as a _ ih =>
    intro i v e
    cases i with
    | zero => simp at e; subst e; exact ⟨a0, by simp, a⟩
    | succ i => simpa using ih (i := i) (v := v) (by simpa using e)
theorem All2.at (h : All2 R B ys as) {i : Nat} {a : α} (ha : as[i]? = some a) : ∃ v, ys[i]? = some v ∧ R B v a := by
  have hi : i < ys.length := by
    rw [h.len]
    exact (List.getElem?_eq_some_iff.mp ha).1
  obtain ⟨b, hb, hR⟩ := h.get (List.getElem?_eq_getElem hi)
  rw [ha] at hb
  cases hb
  exact ⟨_, List.getElem?_eq_getElem hi, hR⟩
end
/-- the turns of a comprehension that maps -/
def JM {α : Type} (R : List (Addr × Obj) → Value → α → Prop) (Y : List (Addr × Obj)) (as : List α) (i : Nat) (ys : List Value) (news : List (Addr × Obj)) : Prop := (∀ p ∈ Y, p ∈ news) ∧ All2 R news ys (as.take i)
theorem JM.step {α : Type} {R : List (Addr × Obj) → Value → α → Prop} (hR : Mono R) {Y news new : List (Addr × Obj)} {as : List α} {i : Nat} {ys : List Value} {v : Value} {a : α} (h : JM R Y as i ys news) (ha : as[i]? = some a) (hv : R (new ++ news) v a) : JM R Y as (i + 1) (ys ++ [v]) (new ++ news) := by
  refine ⟨fun p hp => List.mem_append_right _ (h.1 p hp), ?_⟩
  rw [List.take_add_one, ha, Option.toList_some]
  exact (h.2.sub hR fun p hp => List.mem_append_right _ hp).snoc hv
theorem JM.fin {α : Type} {R : List (Addr × Obj) → Value → α → Prop} {Y news : List (Addr × Obj)} {as : List α} {i : Nat} {ys : List Value} (h : JM R Y as i ys news) (hi : as.length ≤ i) : (∀ p ∈ Y, p ∈ news) ∧ All2 R news ys as := by
  have := h.2
  rw [List.take_of_length_le hi] at this
  exact ⟨h.1, this⟩
theorem compEnd_made {h₀ h h' : Heap} {L I C D : Addr} {oI oC oD : Obj} {m : Str → Option Value} {news l : List (Addr × Obj)} {s₁ : Shared} {S : List (Addr × Obj) → Prop} {rest : Value → List (Addr × Obj) → Prop} {y : Value} {tk : Nat}
    (F : Fr h₀ L h m) (N : News h₀ L h ((I, oI) :: (C, oC) :: (D, oD) :: news)) (e : Ext h h') (M : Made h h' l) (off : Off3 I C D news) (hS : S (l ++ news)) (r : rest y (l ++ news)) : CompEnd h₀ L m s₁ I oI C oC D oD S rest y { s₁ with heap := h', toks := tk } := by
  have ne := made_ne N M
  exact compEnd_pre l (fr_ext F e) (news_made F N e M) off hS (fun p hp => ⟨ne p hp _ (.head _), ne p hp _ (.tail _ (.head _)), ne p hp _ (.tail _ (.tail _ (.head _)))⟩) r
theorem compEnd_none {h₀ h h' : Heap} {L I C D : Addr} {oI oC oD : Obj} {m : Str → Option Value} {news : List (Addr × Obj)} {s₁ : Shared} {S : List (Addr × Obj) → Prop} {rest : Value → List (Addr × Obj) → Prop} {y : Value} {tk : Nat}
    (F : Fr h₀ L h m) (N : News h₀ L h ((I, oI) :: (C, oC) :: (D, oD) :: news)) (e : Ext h h') (off : Off3 I C D news) (hS : S news) (r : rest y ([] ++ news)) : CompEnd h₀ L m s₁ I oI C oC D oD S rest y { s₁ with heap := h', toks := tk } :=
  compEnd_made (l := []) F N e (fun _ h => nomatch h) off hS r
theorem bd3_get {h₀ h : Heap} {L : Addr} {all news : List (Addr × Obj)} {x y z : Str} {t : Addr} {a b d : Value} {q : Nat} {m₂ : Str → Option Value} (N : News h₀ L h all) (hs : ∀ p ∈ news, p ∈ all) (hm : (t, tupN [a, b, d] q) ∈ news) (hb : Bd3 x y z (.ref t) news m₂) : m₂ x = some a ∧ m₂ y = some b ∧ m₂ z = some d := by
  obtain ⟨t', a', b', d', q', e, hm', h1, h2, h3⟩ := hb
  obtain rfl : t = t' := Value.ref.inj e
  have e1 := (N _ (hs _ hm)).1
  have e2 := (N _ (hs _ hm')).1
  dsimp only at e1 e2
  rw [e1] at e2
  injection e2 with e2
  injection e2 with _ _ e2 _
  injection e2 with e2 _
  injection e2 with e2
  injection e2 with q1 e2
  injection e2 with q2 e2
  injection e2 with q3 e2
  subst q1 q2 q3
  exact ⟨h1, h2, h3⟩
theorem ints_mapA {α : Type} {ys : List Value} {as : List α} {f : α → Int} {i : Nat} {a : α} {x : Int} {t : Tok} (h : IntsAre ys ((as.take i).map f)) (ha : as[i]? = some a) (hx : x = f a) : IntsAre (ys ++ [.int x t]) ((as.take (i + 1)).map f) := by
  subst hx
  rw [List.take_add_one, ha, Option.toList_some, List.map_append]
  exact ints_snoc h
theorem ints4 {vs : List Value} {a b c d : Int} (h : IntsAre vs [a, b, c, d]) : ∃ ta tb tc td, vs = [.int a ta, .int b tb, .int c tc, .int d td] := by
  cases h with
  | cons _ ta h => cases h with
    | cons _ tb h => cases h with
      | cons _ tc h => cases h with
        | cons _ td h => cases h with
          | nil => exact ⟨ta, tb, tc, td, rfl⟩
structure Mark (P : Prop) : Prop where
  h : P
theorem stubQ {P : Prop} (h : Mark P) : P := h.h
end
section
/-! Tab -/
local macro_rules | `(tactic| walk_at "no key") => `(tactic| fail)
/-! a ledger where one object changes -/
def upd (l : List (Addr × Obj)) (c : Nat) (o' : Obj) : List (Addr × Obj) := l.map fun p => if @Eq Nat p.1 c then (c, o') else p
theorem upd_mem {l : List (Addr × Obj)} {c x : Nat} {o o' : Obj} (h : (x, o) ∈ l) (ne : @Ne Nat x c) : (x, o) ∈ upd l c o' :=
  List.mem_map.mpr ⟨_, h, if_neg ne⟩
theorem upd_self {l : List (Addr × Obj)} {c : Nat} {o o' : Obj} (h : (c, o) ∈ l) : (c, o') ∈ upd l c o' := List.mem_map.mpr ⟨_, h, if_pos rfl⟩
theorem upd_off {l : List (Addr × Obj)} {c : Nat} {o' : Obj} {I : Addr} (h : ∀ p ∈ l, p.1 ≠ I) : ∀ p ∈ upd l c o', p.1 ≠ I := by
  intro p hp
  obtain ⟨q, hq, rfl⟩ := List.mem_map.mp hp
  by_cases e : @Eq Nat q.1 c
  · rw [if_pos e]; exact e ▸ h q hq
  · rw [if_neg e]; exact h q hq
theorem news_upd {h₀ h h' : Heap} {L : Addr} {l : List (Addr × Obj)} {c : Nat} {o' : Obj} (N : News h₀ L h l) (hs : Heap.SameBut c h h') (e : h'.get? c = some o') : News h₀ L h' (upd l c o') := by
  intro p hp
  obtain ⟨q, hq, rfl⟩ := List.mem_map.mp hp
  have z := N q hq
  by_cases x : @Eq Nat q.1 c
  · rw [if_pos x]
    rw [show q.1 = c from x] at z
    exact ⟨e, z.2⟩
  · rw [if_neg x]
    exact ⟨(hs.2 _ x).trans z.1, z.2⟩
theorem fr_upd {h₀ h h' : Heap} {L : Addr} {m : Str → Option Value} {l : List (Addr × Obj)} {c : Nat} {o : Obj} (F : Fr h₀ L h m) (N : News h₀ L h l) (hm : (c, o) ∈ l) (hs : Heap.SameBut c h h') : Fr h₀ L h' m :=
  F.change hs (N _ hm).2.1 (N _ hm).2.2
/-- something stands at an address -/
def Has (B : List (Addr × Obj)) (x : Nat) (P : Obj → Prop) : Prop := ∃ o, (x, o) ∈ B ∧ P o
theorem Has.upd {B : List (Addr × Obj)} {x c : Nat} {P : Obj → Prop} {o' : Obj} (h : Has B x P) (ne : @Ne Nat x c) : Has (upd B c o') x P := let ⟨o, m, p⟩ := h; ⟨o, upd_mem m ne, p⟩
theorem Has.set {B : List (Addr × Obj)} {c : Nat} {P : Obj → Prop} {o o' : Obj} (m : (c, o) ∈ B) (p : P o') : Has (Mine.upd B c o') c P := ⟨o', upd_self m, p⟩
theorem Has.sub {B B' : List (Addr × Obj)} {x : Nat} {P : Obj → Prop} (h : Has B x P) (hs : ∀ p ∈ B, p ∈ B') : Has B' x P := let ⟨o, m, p⟩ := h; ⟨o, hs _ m, p⟩
def IsC (v : Option Value) (o : Obj) : Prop := o.data = .cell v
def IsL (l : List Value) (o : Obj) : Prop := ∃ k, o = lst l k
/-! the game's table -/
abbrev WW (ns ms : List Int) (i j : Nat) : Int := worthOf (ns.take i) + worthOf (ms.take j)
def rowV (r : Int → Bool) (ns ms : List Int) (i n : Nat) : List Value := (List.range n).map fun j => .bool (r (WW ns ms i j))
theorem rowV_more (r : Int → Bool) (ns ms : List Int) (i n : Nat) : rowV r ns ms i (n + 1) = rowV r ns ms i n ++ [.bool (r (WW ns ms i n))] := by
  unfold rowV; rw [List.range_succ, List.map_append]; rfl
theorem rowV_get (r : Int → Bool) (ns ms : List Int) (i : Nat) {n j : Nat} (h : j < n) : (rowV r ns ms i n)[j]? = some (.bool (r (WW ns ms i j))) := by
  unfold rowV; rw [List.getElem?_map, List.getElem?_range h]; rfl
theorem rowV_len (r : Int → Bool) (ns ms : List Int) (i n : Nat) : (rowV r ns ms i n).length = n := by simp [rowV]
def refs (la : Nat → Nat) (n : Nat) : List Value := (List.range n).map fun i => .ref (la i)
theorem refs_get (la : Nat → Nat) {n j : Nat} (h : j < n) : (refs la n)[j]? = some (.ref (la j)) := by
  unfold refs; rw [List.getElem?_map, List.getElem?_range h]; rfl
theorem refs_len (la : Nat → Nat) (n : Nat) : (refs la n).length = n := by simp [refs]
def setAt (la : Nat → Nat) (n D : Nat) : Nat → Nat := fun i => if i = n then D else la i
theorem refs_more (la : Nat → Nat) (n D : Nat) : refs (setAt la n D) (n + 1) = refs la n ++ [.ref D] := by
  unfold refs
  rw [List.range_succ, List.map_append]
  congr 1
  · apply List.map_congr_left
    intro i hi
    have := List.mem_range.mp hi
    simp only [setAt, if_neg (show ¬ i = n by omega)]
  · simp [setAt]
/-- width of a row: the last one is under way -/
def wid (W n x i : Nat) : Nat := if i + 1 = n then x else W
structure Pl (L l1 l2 lL lR : Nat) (vs us : Obj) (ns ms : List Int) (la ra : Nat → Nat) (n x y : Nat) (va vb : Option Value) (B : List (Addr × Obj)) : Prop where
  c1 : Has B (L + 1) (IsC (some (.ref l1)))
  c2 : Has B (L + 1 + 1) (IsC (some (.ref l2)))
  c3 : Has B (L + 1 + 1 + 1) (IsC (some (.ref lL)))
  c4 : Has B (L + 1 + 1 + 1 + 1) (IsC (some (.ref lR)))
  c5 : Has B (L + 1 + 1 + 1 + 1 + 1) (IsC va)
  c6 : Has B (L + 1 + 1 + 1 + 1 + 1 + 1) (IsC vb)
  i1 : Has B l1 (fun o => o = vs)
  i2 : Has B l2 (fun o => o = us)
  iL : Has B lL (IsL (refs la n))
  iR : Has B lR (IsL (refs ra n))
  jL : ∀ i, i < n → Has B (la i) (IsL (rowV isPos ns ms i (wid (ms.length + 1) n x i)))
  jR : ∀ i, i < n → Has B (ra i) (IsL (rowV isNeg ns ms i (wid (ms.length + 1) n y i)))
  o1 : l1 < L
  o2 : l2 < L
  o3 : L + 6 < lL
  o4 : lL < lR
  o5 : ∀ i, i < n → lR < la i ∧ la i < ra i
  o6 : ∀ i j, i < j → j < n → ra i < la j
section
variable {L l1 l2 lL lR : Nat} {vs us : Obj} {ns ms : List Int} {la ra : Nat → Nat} {n x y : Nat} {va vb : Option Value} {B : List (Addr × Obj)}
theorem Pl.sub {B' : List (Addr × Obj)} (h : Pl L l1 l2 lL lR vs us ns ms la ra n x y va vb B) (hs : ∀ p ∈ B, p ∈ B') : Pl L l1 l2 lL lR vs us ns ms la ra n x y va vb B' :=
  ⟨h.c1.sub hs, h.c2.sub hs, h.c3.sub hs, h.c4.sub hs, h.c5.sub hs, h.c6.sub hs, h.i1.sub hs, h.i2.sub hs, h.iL.sub hs, h.iR.sub hs, fun i q => (h.jL i q).sub hs, fun i q => (h.jR i q).sub hs, h.o1, h.o2, h.o3, h.o4, h.o5, h.o6⟩
theorem Pl.setA (h : Pl L l1 l2 lL lR vs us ns ms la ra n x y va vb B) {v : Option Value} {o' : Obj} (ho : o'.data = .cell v) : Pl L l1 l2 lL lR vs us ns ms la ra n x y v vb (upd B (L + 1 + 1 + 1 + 1 + 1) o') := by
  have p1 := h.o1; have p2 := h.o2; have p3 := h.o3; have p4 := h.o4
  obtain ⟨o, m, _⟩ := h.c5
  refine ⟨h.c1.upd ?_, h.c2.upd ?_, h.c3.upd ?_, h.c4.upd ?_, .set m ho, h.c6.upd ?_, h.i1.upd ?_, h.i2.upd ?_, h.iL.upd ?_, h.iR.upd ?_, fun i q => (h.jL i q).upd ?_, fun i q => (h.jR i q).upd ?_, h.o1, h.o2, h.o3, h.o4, h.o5, h.o6⟩ <;> first | omega | (have := h.o5 i q; omega)
theorem Pl.setB (h : Pl L l1 l2 lL lR vs us ns ms la ra n x y va vb B) {v : Option Value} {o' : Obj} (ho : o'.data = .cell v) : Pl L l1 l2 lL lR vs us ns ms la ra n x y va v (upd B (L + 1 + 1 + 1 + 1 + 1 + 1) o') := by
  have p1 := h.o1; have p2 := h.o2; have p3 := h.o3; have p4 := h.o4
  obtain ⟨o, m, _⟩ := h.c6
  refine ⟨h.c1.upd ?_, h.c2.upd ?_, h.c3.upd ?_, h.c4.upd ?_, h.c5.upd ?_, .set m ho, h.i1.upd ?_, h.i2.upd ?_, h.iL.upd ?_, h.iR.upd ?_, fun i q => (h.jL i q).upd ?_, fun i q => (h.jR i q).upd ?_, h.o1, h.o2, h.o3, h.o4, h.o5, h.o6⟩ <;> first | omega | (have := h.o5 i q; omega)
/-- the left row under way gets one place more -/
theorem Pl.rowL {a : Nat} (h : Pl L l1 l2 lL lR vs us ns ms la ra (a + 1) x y va vb B) {o' : Obj} (ho : IsL (rowV isPos ns ms a (x + 1)) o') : Pl L l1 l2 lL lR vs us ns ms la ra (a + 1) (x + 1) y va vb (upd B (la a) o') := by
  have p1 := h.o1; have p2 := h.o2; have p3 := h.o3; have p4 := h.o4
  have p5 := h.o5 a (by omega)
  obtain ⟨o, m, _⟩ := h.jL a (by omega)
  refine ⟨h.c1.upd ?_, h.c2.upd ?_, h.c3.upd ?_, h.c4.upd ?_, h.c5.upd ?_, h.c6.upd ?_, h.i1.upd ?_, h.i2.upd ?_, h.iL.upd ?_, h.iR.upd ?_, fun i q => ?_, fun i q => (h.jR i q).upd ?_, h.o1, h.o2, h.o3, h.o4, h.o5, h.o6⟩
  case refine_11 =>
    by_cases e : i = a
    · subst e
      unfold wid
      rw [if_pos rfl]
      exact .set m ho
    · have := h.o5 i q
      have := h.o6 i a (by omega) (by omega)
      have z := (h.jL i q).upd (o' := o') (c := la a) (by omega)
      unfold wid at z ⊢
      rw [if_neg (by omega)] at z ⊢
      exact z
  case refine_12 =>
    have := h.o5 i q
    by_cases e : i = a
    · subst e; omega
    · have := h.o6 i a (by omega) (by omega)
      omega
  all_goals omega
theorem Pl.rowR {a : Nat} (h : Pl L l1 l2 lL lR vs us ns ms la ra (a + 1) x y va vb B) {o' : Obj} (ho : IsL (rowV isNeg ns ms a (y + 1)) o') : Pl L l1 l2 lL lR vs us ns ms la ra (a + 1) x (y + 1) va vb (upd B (ra a) o') := by
  have p1 := h.o1; have p2 := h.o2; have p3 := h.o3; have p4 := h.o4
  have p5 := h.o5 a (by omega)
  obtain ⟨o, m, _⟩ := h.jR a (by omega)
  refine ⟨h.c1.upd ?_, h.c2.upd ?_, h.c3.upd ?_, h.c4.upd ?_, h.c5.upd ?_, h.c6.upd ?_, h.i1.upd ?_, h.i2.upd ?_, h.iL.upd ?_, h.iR.upd ?_, fun i q => (h.jL i q).upd ?_, fun i q => ?_, h.o1, h.o2, h.o3, h.o4, h.o5, h.o6⟩
  case refine_12 =>
    by_cases e : i = a
    · subst e
      unfold wid
      rw [if_pos rfl]
      exact .set m ho
    · have := h.o5 i q
      have := h.o6 i a (by omega) (by omega)
      have z := (h.jR i q).upd (o' := o') (c := ra a) (by omega)
      unfold wid at z ⊢
      rw [if_neg (by omega)] at z ⊢
      exact z
  case refine_11 =>
    have := h.o5 i q
    by_cases e : i = a
    · subst e; omega
    · have := h.o6 i a (by omega) (by omega)
      omega
  all_goals omega
/-- a turn begins: two new rows -/
theorem Pl.rows {a D D' : Nat} (h : Pl L l1 l2 lL lR vs us ns ms la ra a x y va vb B) {oL oR : Obj} (hx : x = ms.length + 1) (hy : y = ms.length + 1) (hL : IsL (refs la a ++ [.ref D]) oL) (hR : IsL (refs ra a ++ [.ref D']) oR) {k k' : Nat}
    (d1 : lR < D) (d2 : D < D') (d3 : ∀ i, i < a → ra i < D) {B' : List (Addr × Obj)} (hB : ∀ p ∈ upd ((D, lst [] k) :: B) lL oL, p ∈ B') :
    Pl L l1 l2 lL lR vs us ns ms (setAt la a D) (setAt ra a D') (a + 1) 0 0 va vb (upd ((D', lst [] k') :: B') lR oR) := by
  have p1 := h.o1; have p2 := h.o2; have p3 := h.o3; have p4 := h.o4
  have up : ∀ {z : Nat} {P : Obj → Prop}, Has B z P → @Ne Nat z lL → @Ne Nat z lR → Has (upd ((D', lst [] k') :: B') lR oR) z P := fun {z P} q n1 n2 =>
    (((q.sub (B' := (D, lst [] k) :: B) fun p hp => .tail _ hp).upd (o' := oL) n1).sub (B' := (D', lst [] k') :: B') fun p hp => .tail _ (hB p hp)).upd n2
  have mL : Has (upd ((D', lst [] k') :: B') lR oR) lL (IsL (refs la a ++ [.ref D])) := by
    obtain ⟨o, m, _⟩ := h.iL
    have z : Has (upd ((D, lst [] k) :: B) lL oL) lL (IsL (refs la a ++ [.ref D])) := .set (.tail _ m) hL
    exact (z.sub (B' := (D', lst [] k') :: B') fun p hp => .tail _ (hB p hp)).upd (by omega)
  have mR : Has (upd ((D', lst [] k') :: B') lR oR) lR (IsL (refs ra a ++ [.ref D'])) := by
    obtain ⟨o, m, _⟩ := h.iR
    exact .set (o := o) (.tail _ (hB _ (upd_mem (.tail _ m) (by omega)))) hR
  have kL : ∀ i, i < a → setAt la a D i = la i := fun i q => by simp only [setAt, if_neg (show ¬ i = a by omega)]
  have kR : ∀ i, i < a → setAt ra a D' i = ra i := fun i q => by simp only [setAt, if_neg (show ¬ i = a by omega)]
  have eL : setAt la a D a = D := by simp [setAt]
  have eR : setAt ra a D' a = D' := by simp [setAt]
  refine ⟨up h.c1 ?_ ?_, up h.c2 ?_ ?_, up h.c3 ?_ ?_, up h.c4 ?_ ?_, up h.c5 ?_ ?_, up h.c6 ?_ ?_, up h.i1 ?_ ?_, up h.i2 ?_ ?_, refs_more la a D ▸ mL, refs_more ra a D' ▸ mR, fun i q => ?_, fun i q => ?_, h.o1, h.o2, h.o3, h.o4, fun i q => ?_, fun i j q r => ?_⟩
  case refine_17 =>
    by_cases e : i = a
    · subst e
      rw [eL]
      have z : Has (upd ((D, lst [] k) :: B) lL oL) D (IsL []) := ⟨_, upd_mem (.head _) (by omega), ⟨_, rfl⟩⟩
      have z' := (z.sub (B' := (D', lst [] k') :: B') fun p hp => .tail _ (hB p hp)).upd (c := lR) (o' := oR) (by omega)
      simpa [wid, rowV] using z'
    · rw [kL i (by omega)]
      have := h.o5 i (by omega)
      have z := up (h.jL i (by omega)) (by omega) (by omega)
      have w : wid (ms.length + 1) a x i = wid (ms.length + 1) (a + 1) 0 i := by
        unfold wid; rw [if_neg (show ¬ i + 1 = a + 1 by omega)]; split <;> omega
      rw [← w]; exact z
  case refine_18 =>
    by_cases e : i = a
    · subst e
      rw [eR]
      have z : Has (upd ((D', lst [] k') :: B') lR oR) D' (IsL []) := ⟨_, upd_mem (.head _) (by omega), ⟨_, rfl⟩⟩
      simpa [wid, rowV] using z
    · rw [kR i (by omega)]
      have := h.o5 i (by omega)
      have z := up (h.jR i (by omega)) (by omega) (by omega)
      have w : wid (ms.length + 1) a y i = wid (ms.length + 1) (a + 1) 0 i := by
        unfold wid; rw [if_neg (show ¬ i + 1 = a + 1 by omega)]; split <;> omega
      rw [← w]; exact z
  case refine_19 =>
    by_cases e : i = a
    · subst e
      rw [eL, eR]; exact ⟨d1, d2⟩
    · rw [kL i (by omega), kR i (by omega)]; exact h.o5 i (by omega)
  case refine_20 =>
    by_cases e : j = a
    · subst e
      rw [eL, kR i (by omega)]; exact d3 i (by omega)
    · rw [kL j (by omega), kR i (by omega)]; exact h.o6 i j q (by omega)
  all_goals omega
end
end
section
/-! Loop -/
def Sep (X B : List (Addr × Obj)) : Prop := ∀ p ∈ X, ∀ q ∈ B, @Ne Nat p.1 q.1
theorem upd_adr {B : List (Addr × Obj)} {c : Nat} {o' : Obj} {p : Addr × Obj} (h : p ∈ upd B c o') : ∃ q ∈ B, @Eq Nat p.1 q.1 := by
  obtain ⟨q, hq, rfl⟩ := List.mem_map.mp h
  refine ⟨q, hq, ?_⟩
  by_cases e : @Eq Nat q.1 c
  · rw [if_pos e]; exact e.symm
  · rw [if_neg e]
theorem Sep.upd {X B : List (Addr × Obj)} {c : Nat} {o' : Obj} (h : Sep X B) : Sep X (upd B c o') := by
  intro p hp q hq e
  obtain ⟨q', h1, h2⟩ := upd_adr hq
  exact h p hp q' h1 (e.trans h2)
/-- what a turn of the loop hands on -/
def LoopEnd (h₀ : Heap) (L : Addr) (own : List (Addr × Obj)) (J : (Str → Option Value) → List (Addr × Obj) → Prop) (s₁ : Shared) (f : Flow) (s₂ : Shared) : Prop :=
  f = .next ∧ ∃ h' tk m₂ B₂, s₂ = { s₁ with heap := h', toks := tk } ∧ Fr h₀ L h' m₂ ∧ News h₀ L h' (own ++ B₂) ∧ Sep own B₂ ∧ J m₂ B₂
theorem LoopEnd.intro {h₀ h' : Heap} {L : Addr} {own all B₂ : List (Addr × Obj)} {J : (Str → Option Value) → List (Addr × Obj) → Prop} {s₁ : Shared} {m₂ : Str → Option Value} {tk : Nat} (F : Fr h₀ L h' m₂) (N : News h₀ L h' all) (hs : ∀ p ∈ own ++ B₂, p ∈ all) (hS : Sep own B₂) (hJ : J m₂ B₂) :
    LoopEnd h₀ L own J s₁ .next { s₁ with heap := h', toks := tk } := ⟨rfl, _, _, _, _, rfl, F, fun p hp => N p (hs p hp), hS, hJ⟩
section
variable {prog : Program} {w : World} {A : Around} {s : Shared} {env : Env} {h₀ : Heap} {m : Str → Option Value} {B : List (Addr × Obj)}
theorem small_rng {n : Nat} (hn : n ≤ 1000) : Builtin.Range.small 0 (n : Int) 1 = true ∧ Builtin.Range.rangeSize 0 (n : Int) 1 = (n : Int) := by
  have e : Builtin.Range.rangeSize 0 (n : Int) 1 = (n : Int) := by rw [rangeSize_nat]; omega
  refine ⟨?_, e⟩
  have f : ∀ k : Fin 1002, Builtin.Range.rangeFitsLong (k.val : Int) = true := by decide +kernel
  have f0 := f ⟨0, by omega⟩
  have f1 := f ⟨1, by omega⟩
  have fn := f ⟨n, by omega⟩
  unfold Builtin.Range.small
  rw [e]
  simp only at f0 f1 fn
  rw [show Builtin.Range.rangeFitsLong 0 = true from f0, show Builtin.Range.rangeFitsLong 1 = true from f1, fn]
  simp
  exact .inr fn
/-- a for over a range, its one name a cell's or a frame's: by an invariant over the turn's number, the names and the ledger -/
theorem iter_rng {E : Value → Shared → Prop} {Q : Flow → Shared → Prop} {x : Str} {px : Pos} {body : List Stmt} {r : Addr} (n : Nat) {t u v : Tok} (J : Nat → (Str → Option Value) → List (Addr × Obj) → Prop) (hn : n ≤ 1000)
    (hh : A.handled = none) (F : Fr h₀ env.locals s.heap m) (N : News h₀ env.locals s.heap B) (hr : IsRange s.heap r 0 (n : Int) 1 t u v) (hj : J 0 m B)
    (turn : ∀ i tk0 own m₁ B₁ (s₁ : Shared), i < n → J i m₁ B₁ → Sep own B₁ → Fr h₀ env.locals s₁.heap m₁ → News h₀ env.locals s₁.heap (own ++ B₁) →
      wpAny (model prog w) A (assign (.Name x px) env (.int (i : Int) tk0)) (fun _ s₃ => wpAny (model prog w) A (execs body env) (LoopEnd h₀ env.locals own (J (i + 1)) s₁) E s₃) E s₁)
    (done : ∀ h tk m' B', J n m' B' → Fr h₀ env.locals h m' → News h₀ env.locals h B' → Q .next { s with heap := h, toks := tk }) :
    wpAny (model prog w) A (pyIter (.ref r)) (fun it s₂ => LoopAtT prog w A h₀ env (.Name x px) body Q E it s₂) E s := by
  obtain ⟨g1, g2⟩ := small_rng hn
  refine wpAny_pyIter_range hr g1 ?_
  have hnew : h₀.get? s.heap.objs.size = none := next_is_new F
  refine ⟨s.heap.objs.size, [s.heap.objs.size], [s.heap.objs.size], n, _, _, m, B, J, rfl, LCg.range_walks hh 0 n, ?_, ?_, ?_, (by show IsRangeIter _ _ _ _ _; rw [g2]; simpa using Heap.get?_push_size _ rfl), F.push _, (fun p hp => ⟨Heap.get?_push_of_some _ (N p hp).1, (N p hp).2⟩), (fun _ _ _ _ _ q => wpAny_pure q), hj, ?_, ?_⟩
  · intro hm
    exact absurd F.ns.lt (by rw [List.mem_singleton.mp hm]; exact Nat.lt_irrefl _)
  · intro b hb
    rw [List.mem_singleton.mp hb]
    exact hnew
  · intro p hp hI
    exact absurd (Heap.lt_size (N p hp).1) ((List.mem_singleton.mp hI) ▸ Nat.lt_irrefl _)
  · intro i v' m₁ news₁ s₁ own hi hP hJ hoff hsub hget hall st F₁ N₁
    obtain ⟨tk0, rfl⟩ := hP
    have st' : s₁.heap.get? s.heap.objs.size = some _ := st
    have hown := hall _ (.head _) hnew _ st'
    have hsep : Sep own news₁ := fun p hp q hq e => hoff q hq (by rw [← show p.1 = q.1 from e]; exact hsub p hp)
    have t' := turn i tk0 own m₁ news₁ s₁ hi hJ hsep F₁ N₁
    rw [Int.zero_add]
    refine wpAny_mono t' (fun _ s₃ h₃ => wpAny_mono h₃ (fun f s₄ h₄ => ?_) fun _ _ e => e) fun _ _ e => e
    obtain ⟨rfl, h', tk, m₂, B₂, rfl, F₂, N₂, hS₂, hJ₂⟩ := h₄
    exact ⟨rfl, h', tk, m₂, B₂, rfl, F₂, N₂, fun p hp q => hS₂ _ hown p hp (List.mem_singleton.mp q).symm, hJ₂⟩
  · intro h' tk m' news' F' N' _ hJ
    exact done h' tk m' news' hJ F' N'
theorem assign_C {E : Value → Shared → Prop} {x : Str} {px : Pos} {v : Value} {c : Nat} {v₀ : Option Value} {Q : Unit → Shared → Prop} (F : Fr h₀ env.locals s.heap m) (N : News h₀ env.locals s.heap B) (hm : Has B c (IsC v₀)) (hk : env.scope.kind = .function) (hl : env.kindOf x = some .cell) (hc : env.cells.lookup x = some c)
    (h : ∀ h' o', Fr h₀ env.locals h' m → News h₀ env.locals h' (upd B c o') → o'.data = .cell (some v) → Q () { s with heap := h' }) : wpAny (model prog w) A (assign (.Name x px) env v) Q E s := by
  obtain ⟨o, hm, hd⟩ := hm
  refine wpAny_assign_Name (wpAny_storeName_cell hk hl hc ⟨o, (N _ hm).1, hd⟩ fun h' hv hs => ?_)
  obtain ⟨o', ho', hd'⟩ := hv
  exact h h' o' (fr_upd F N hm hs) (news_upd N hs ho') hd'
theorem append_U {E : Value → Shared → Prop} {L : Addr} {D : Addr} {ys : List Value} {k : Nat} {v : Value} {Q : Value → Shared → Prop} (F : Fr h₀ L s.heap m) (N : News h₀ L s.heap B) (hm : (D, lst ys k) ∈ B) (hlen : ys.length ≤ 1000)
    (h : ∀ h', Fr h₀ L h' m → News h₀ L h' (upd B D (lst (ys ++ [v]) (k + 1))) → Q .none { s with heap := h' }) : wpAny (model prog w) A (call (.builtin "list.append") [.ref D, v]) Q E s := by
  refine append_at (N _ hm).1 (fun h' hs ho => h h' (fr_upd F N hm hs) (news_upd N hs ?_)) (by rw [PySem.sizeLine_eq]; simp only [List.size_toArray]; omega)
  rw [ho]; simp [lst]
theorem item_refs {E : Value → Shared → Prop} {L : Addr} {value slice : PySem.Expr} {l : Addr} {la : Nat → Nat} {n k i : Nat} {u : Tok} {Q : Value → Shared → Prop} (N : News h₀ L s.heap B) (hm : (l, lst (refs la n) k) ∈ B) (hi : i < n) (hn : n ≤ 1000) (h : Q (.ref (la i)) s)
    (hs : subscripted slice false (.ref l) (.int (i : Int) u) = operate [.ref l, .int (i : Int) u] (getItem (.ref l) (.int (i : Int) u)) := by with_unfolding_all rfl) :
    wpAny (model prog w) A (subscriptTail value slice (.ref l) (.int (i : Int) u)) Q E s :=
  item_litK (News.isList N hm) (by omega) (by omega) (refs_get la (by rw [Int.toNat_natCast]; exact hi)) (by rw [Int.toNat_natCast]; exact h) hs
theorem item_row {E : Value → Shared → Prop} {L : Addr} {value slice : PySem.Expr} {l : Addr} {r : Int → Bool} {ns ms : List Int} {x n k i : Nat} {u : Tok} {Q : Value → Shared → Prop} (N : News h₀ L s.heap B) (hm : (l, lst (rowV r ns ms x n) k) ∈ B) (hi : i < n) (hn : n ≤ 1000) (h : Q (.bool (r (WW ns ms x i))) s)
    (hs : subscripted slice false (.ref l) (.int (i : Int) u) = operate [.ref l, .int (i : Int) u] (getItem (.ref l) (.int (i : Int) u)) := by with_unfolding_all rfl) :
    wpAny (model prog w) A (subscriptTail value slice (.ref l) (.int (i : Int) u)) Q E s :=
  item_litK (News.isList N hm) (by omega) (by omega) (rowV_get r ns ms x (by rw [Int.toNat_natCast]; exact hi)) (by rw [Int.toNat_natCast]; exact h) hs
theorem add_U {E : Value → Shared → Prop} {L l b : Addr} {vs ws : List Value} {k1 k2 : Nat} {Q : Value → Shared → Prop}
    (F : Fr h₀ L s.heap m) (N : News h₀ L s.heap B) (hm1 : (l, lst vs k1) ∈ B) (hm2 : (b, lst ws k2) ∈ B) (h1 : vs.length ≤ 1000) (h2 : ws.length ≤ 1000)
    (h : ∀ h' D, Fr h₀ L h' m → News h₀ L h' ((D, lst (vs ++ ws) 0) :: B) → (∀ p ∈ B, @LT.lt Nat _ p.1 D) → Q (.ref D) { s with heap := h' }) :
    wpAny (model prog w) A (binaryOp .Add (.ref l) (.ref b)) Q E s :=
  add_lists F N (News.isList N hm1) (News.isList N hm2) (fun h' F' N' => h h' _ F' N' fun p hp => Heap.lt_size (N p hp).1) (by rw [PySem.sizeLine_eq]; omega)
end
/-! the cuts -/
abbrev cutO (e : Int × Nat × Nat) (p q r : Tok) : Obj := tup [.int e.1 p, .int (e.2.1 : Int) q, .int (e.2.2 : Int) r]
def TupAt (B : List (Addr × Obj)) (e : Int × Nat × Nat) (v : Value) : Prop := ∃ t p q r, v = .ref t ∧ (t, cutO e p q r) ∈ B
theorem TupAt.sub {B B' : List (Addr × Obj)} {e : Int × Nat × Nat} {v : Value} (h : TupAt B e v) (hs : ∀ p ∈ B, p ∈ B') : TupAt B' e v := let ⟨t, p, q, r, e1, e2⟩ := h; ⟨t, p, q, r, e1, hs _ e2⟩
inductive CutsAre (B : List (Addr × Obj)) : List Value → List (Int × Nat × Nat) → Prop
  | nil : CutsAre B [] []
  | cons {v : Value} {e : Int × Nat × Nat} {ys : List Value} {es : List (Int × Nat × Nat)} : TupAt B e v → CutsAre B ys es → CutsAre B (v :: ys) (e :: es)
theorem CutsAre.sub {B B' : List (Addr × Obj)} {ys : List Value} {es : List (Int × Nat × Nat)} (h : CutsAre B ys es) (hs : ∀ p ∈ B, p ∈ B') : CutsAre B' ys es := by
  induction h with
  | nil => exact .nil
  | cons a _ ih => exact .cons (a.sub hs) ih
theorem CutsAre.app {B : List (Addr × Obj)} {ys zs : List Value} {es fs : List (Int × Nat × Nat)} (h : CutsAre B ys es) (k : CutsAre B zs fs) : CutsAre B (ys ++ zs) (es ++ fs) := by
  induction h with
  | nil => exact k
  | cons a _ ih => exact .cons a ih
theorem CutsAre.len {B : List (Addr × Obj)} {ys : List Value} {es : List (Int × Nat × Nat)} (h : CutsAre B ys es) : ys.length = es.length := by
  induction h with
  | nil => rfl
  | cons _ _ ih => simp [ih]
theorem CutsAre.get {B : List (Addr × Obj)} {ys : List Value} {es : List (Int × Nat × Nat)} (h : CutsAre B ys es) : ∀ {i : Nat} {v : Value}, ys[i]? = some v → ∃ e, es[i]? = some e ∧ TupAt B e v := by
  induction h with
  | nil => intro i v e; simp at e
  | @cons v0 e0 ys es a _ ih =>
    intro i v e
    cases i with
    | zero => simp at e; subst e; exact ⟨e0, by simp, a⟩
    | succ i => simpa using ih (i := i) (v := v) (by simpa using e)
theorem CutsAre.more {B B' : List (Addr × Obj)} {ys : List Value} {es : List (Int × Nat × Nat)} {i : Nat} {e : Int × Nat × Nat} {v : Value} (h : CutsAre B ys (es.take i)) (he : es[i]? = some e) (hs : ∀ p ∈ B, p ∈ B') (ht : TupAt B' e v) : CutsAre B' (ys ++ [v]) (es.take (i + 1)) := by
  rw [List.take_add_one, he, Option.toList_some]
  exact (h.sub hs).app (.cons ht .nil)
theorem CutsAre.keep {h₀ h : Heap} {L : Addr} {B : List (Addr × Obj)} {ys : List Value} {es : List (Int × Nat × Nat)} {c : Nat} {l : List Value} {k : Nat} {o' : Obj} (N : News h₀ L h B) (hc : (c, lst l k) ∈ B) (H : CutsAre B ys es) : CutsAre (upd B c o') ys es := by
  induction H with
  | nil => exact .nil
  | cons a _ ih =>
    refine .cons ?_ ih
    obtain ⟨t, p, q, r, e1, e2⟩ := a
    refine ⟨t, p, q, r, e1, upd_mem e2 fun x => ?_⟩
    have z1 := (N _ e2).1
    have z2 := (N _ hc).1
    simp only at z1 z2
    rw [show t = c from x, z2] at z1
    simp only [lst, cutO, tup, Option.some.injEq, Obj.mk.injEq, Value.type.injEq] at z1
    exact absurd z1.1 (by decide)
/-- a comprehension's turns that make cuts -/
def JC (Y : List (Addr × Obj)) (es : List (Int × Nat × Nat)) (i : Nat) (ys : List Value) (news : List (Addr × Obj)) : Prop := (∀ p ∈ Y, p ∈ news) ∧ CutsAre news ys (es.take i)
def cutsA (ns : List Int) (a b : Nat) : List (Int × Nat × Nat) := (List.range a).map fun e => (ns.getD e 0, e, b)
def cutsB (ms : List Int) (a b : Nat) : List (Int × Nat × Nat) := (List.range b).map fun e => (ms.getD e 0, a, e)
theorem cutsA_get {ns : List Int} {a b i : Nat} (h : i < a) : (cutsA ns a b)[i]? = some (ns.getD i 0, i, b) := by unfold cutsA; rw [List.getElem?_map, List.getElem?_range h]; rfl
theorem cutsB_get {ms : List Int} {a b i : Nat} (h : i < b) : (cutsB ms a b)[i]? = some (ms.getD i 0, a, i) := by unfold cutsB; rw [List.getElem?_map, List.getElem?_range h]; rfl
theorem cutsA_len {ns : List Int} {a b : Nat} : (cutsA ns a b).length = a := by simp [cutsA]
theorem cutsB_len {ms : List Int} {a b : Nat} : (cutsB ms a b).length = b := by simp [cutsB]
theorem cuts_mem {ns ms : List Int} {a b : Nat} {e : Int × Nat × Nat} (h : e ∈ cutsA ns a b ++ cutsB ms a b) : (e.2.1 < a ∧ e.2.2 = b) ∨ (e.2.1 = a ∧ e.2.2 < b) := by
  rcases List.mem_append.mp h with h | h
  · obtain ⟨x, hx, rfl⟩ := List.mem_map.mp h
    exact .inl ⟨List.mem_range.mp hx, rfl⟩
  · obtain ⟨x, hx, rfl⟩ := List.mem_map.mp h
    exact .inr ⟨rfl, List.mem_range.mp hx⟩
/-- a cut that wins -/
def cutW (q r : Int → Bool) (ns ms : List Int) (e : Int × Nat × Nat) : Bool := q e.1 && !r (WW ns ms e.2.1 e.2.2)
theorem cuts_any (q r : Int → Bool) {ns ms : List Int} {a b : Nat} (ha : a ≤ ns.length) (hb : b ≤ ms.length) : (cutsA ns a b ++ cutsB ms a b).any (cutW q r ns ms) = cutsWin q r (ns.take a) (ms.take b) := by
  have gd : ∀ (l : List Int) (n e : Nat), e < n → (l.take n).getD e 0 = l.getD e 0 := by
    intro l n e h
    rw [List.getD_eq_getElem?_getD, List.getD_eq_getElem?_getD, List.getElem?_take_of_lt h]
  have tk : ∀ (l : List Int) (n e : Nat), e < n → (l.take n).take e = l.take e := by
    intro l n e h
    rw [List.take_take, Nat.min_eq_left (Nat.le_of_lt h)]
  unfold cutsWin cutsA cutsB
  rw [List.any_append, List.any_map, List.any_map, List.length_take, List.length_take, Nat.min_eq_left ha, Nat.min_eq_left hb]
  have an : ∀ (n : Nat) (f g : Nat → Bool), (∀ e, e < n → f e = g e) → (List.range n).any f = (List.range n).any g := by
    intro n f g h
    rw [Bool.eq_iff_iff, List.any_eq_true, List.any_eq_true]
    exact ⟨fun ⟨e, h1, h2⟩ => ⟨e, h1, (h e (List.mem_range.mp h1)) ▸ h2⟩, fun ⟨e, h1, h2⟩ => ⟨e, h1, (h e (List.mem_range.mp h1)).symm ▸ h2⟩⟩
  congr 1
  · apply an
    intro e he
    simp only [Function.comp, cutW, WW, gd ns a e he, tk ns a e he]
  · apply an
    intro e he
    simp only [Function.comp, cutW, WW, gd ms b e he, tk ms b e he]
theorem pm_take {l : List Int} (h : ∀ e ∈ l, e = 1 ∨ e = -1) (n : Nat) : ∀ e ∈ l.take n, e = 1 ∨ e = -1 := fun e he => h e (List.mem_of_mem_take he)
theorem cuts_win {ns ms : List Int} {a b : Nat} (ha : a ≤ ns.length) (hb : b ≤ ms.length) (hn : ns.length ≤ 4) (hm : ms.length ≤ 4) (pn : ∀ e ∈ ns, e = 1 ∨ e = -1) (pm : ∀ e ∈ ms, e = 1 ∨ e = -1) :
    (cutsA ns a b ++ cutsB ms a b).any (cutW isPos isNeg ns ms) = isPos (WW ns ms a b) ∧ (cutsA ns a b ++ cutsB ms a b).any (cutW isNeg isPos ns ms) = isNeg (WW ns ms a b) := by
  rw [cuts_any _ _ ha hb, cuts_any _ _ ha hb]
  exact cut_at (by rw [List.length_take]; omega) (by rw [List.length_take]; omega) (pm_take pn a) (pm_take pm b)
/-- a comprehension's turns that test cuts: a one for each that wins -/
def JT (f : Int × Nat × Nat → Bool) (es : List (Int × Nat × Nat)) (i : Nat) (ys : List Value) : Prop := ∃ qs, IntsAre ys qs ∧ qs.length ≤ i ∧ (qs = [] ↔ (es.take i).any f = false)
theorem JT.nil {f : Int × Nat × Nat → Bool} {es : List (Int × Nat × Nat)} : JT f es 0 [] := ⟨[], .nil, Nat.le_refl _, by simp⟩
theorem JT.yes {f : Int × Nat × Nat → Bool} {es : List (Int × Nat × Nat)} {i : Nat} {ys : List Value} {e : Int × Nat × Nat} {t : Tok} (h : JT f es i ys) (he : es[i]? = some e) (hf : f e = true) : JT f es (i + 1) (ys ++ [.int 1 t]) := by
  obtain ⟨qs, h1, h2, h3⟩ := h
  refine ⟨qs ++ [1], ints_snoc h1, by rw [List.length_append]; simp; omega, ?_⟩
  rw [List.take_add_one, he, Option.toList_some, List.any_append]
  simp [hf]
theorem JT.no {f : Int × Nat × Nat → Bool} {es : List (Int × Nat × Nat)} {i : Nat} {ys : List Value} {e : Int × Nat × Nat} (h : JT f es i ys) (he : es[i]? = some e) (hf : f e = false) : JT f es (i + 1) ys := by
  obtain ⟨qs, h1, h2, h3⟩ := h
  refine ⟨qs, h1, by omega, ?_⟩
  rw [List.take_add_one, he, Option.toList_some, List.any_append]
  simp [hf, h3]
theorem JT.fin {f : Int × Nat × Nat → Bool} {es : List (Int × Nat × Nat)} {i : Nat} {ys : List Value} (h : JT f es i ys) (hi : i = es.length) : ∃ qs, IntsAre ys qs ∧ (!decide (qs = [])) = es.any f := by
  obtain ⟨qs, h1, h2, h3⟩ := h
  refine ⟨qs, h1, ?_⟩
  rw [hi, List.take_length] at h3
  cases e : es.any f with
  | false => simp [h3.mpr e]
  | true =>
    have : ¬ qs = [] := fun q => by rw [h3.mp q] at e; cases e
    simp [this]
def CutsMap (m₀ m : Str → Option Value) : Prop := ∃ u, m = fun y => if y = PySem.Str.ofString "cuts" then u else m₀ y
theorem CutsMap.init (m₀ : Str → Option Value) : CutsMap m₀ m₀ := ⟨m₀ (PySem.Str.ofString "cuts"), funext fun y => by
  by_cases h : y = PySem.Str.ofString "cuts"
  · subst h; simp
  · simp only [if_neg h]⟩
theorem CutsMap.set {m₀ m : Str → Option Value} {v : Option Value} (h : CutsMap m₀ m) : CutsMap m₀ (fun y => if y = PySem.Str.ofString "cuts" then v else m y) := by
  obtain ⟨u, rfl⟩ := h
  refine ⟨v, funext fun y => ?_⟩
  by_cases h : y = PySem.Str.ofString "cuts"
  · simp only [if_pos h]
  · simp only [if_neg h]
theorem sub_upd {X B all : List (Addr × Obj)} {c : Nat} {o' : Obj} (hs : ∀ p ∈ X ++ B, p ∈ all) (hX : ∀ p ∈ X, @Ne Nat p.1 c) : ∀ p ∈ X ++ upd B c o', p ∈ upd all c o' := by
  intro p hp
  rcases List.mem_append.mp hp with h | h
  · exact upd_mem (hs _ (List.mem_append_left _ h)) (hX p h)
  · obtain ⟨q, hq, rfl⟩ := List.mem_map.mp h
    exact List.mem_map.mpr ⟨q, hs _ (List.mem_append_right _ hq), rfl⟩
def JO (m₀ : Str → Option Value) (L l1 l2 lL lR : Nat) (vs us : Obj) (ns ms : List Int) (a : Nat) (m : Str → Option Value) (B : List (Addr × Obj)) : Prop :=
  CutsMap m₀ m ∧ ∃ la ra va vb, Pl L l1 l2 lL lR vs us ns ms la ra a (ms.length + 1) (ms.length + 1) va vb B
def JI (X : List (Addr × Obj)) (m₀ : Str → Option Value) (L l1 l2 lL lR : Nat) (vs us : Obj) (ns ms : List Int) (la ra : Nat → Nat) (a : Nat) (va : Option Value) (b : Nat) (m : Str → Option Value) (B : List (Addr × Obj)) : Prop :=
  CutsMap m₀ m ∧ ∃ vb B', B = X ++ B' ∧ Sep X B' ∧ Pl L l1 l2 lL lR vs us ns ms la ra (a + 1) b b va vb B'
theorem pl_start {g h : Heap} {L l1 l2 lL lR : Nat} {o1 o2 o3 o4 o5 o6 : Obj} {v5 v6 : Option Value} {vs us : List Value} {ns ms : List Int} {k1 k2 : Nat}
    (_N : News g L h [(lR, W.listOf #[] 0), (lL, W.listOf #[] 0), (L + 1 + 1 + 1 + 1 + 1 + 1, o6), (L + 1 + 1 + 1 + 1 + 1, o5), (L + 1 + 1 + 1 + 1, o4), (L + 1 + 1 + 1, o3), (L + 1 + 1, o2), (L + 1, o1), (l1, lst vs k1), (l2, lst us k2)])
    (d1 : o1.data = .cell (some (.ref l1))) (d2 : o2.data = .cell (some (.ref l2))) (d3 : o3.data = .cell (some (.ref lL))) (d4 : o4.data = .cell (some (.ref lR))) (d5 : o5.data = .cell v5) (d6 : o6.data = .cell v6)
    (e1 : l1 < L) (e2 : l2 < L) (e3 : L + 6 < lL) (e4 : lL < lR) :
    Pl L l1 l2 lL lR (lst vs k1) (lst us k2) ns ms (fun _ => 0) (fun _ => 0) 0 (ms.length + 1) (ms.length + 1) v5 v6 [(lR, W.listOf #[] 0), (lL, W.listOf #[] 0), (L + 1 + 1 + 1 + 1 + 1 + 1, o6), (L + 1 + 1 + 1 + 1 + 1, o5), (L + 1 + 1 + 1 + 1, o4), (L + 1 + 1 + 1, o3), (L + 1 + 1, o2), (L + 1, o1), (l1, lst vs k1), (l2, lst us k2)] :=
  ⟨⟨o1, by simp, d1⟩, ⟨o2, by simp, d2⟩, ⟨o3, by simp, d3⟩, ⟨o4, by simp, d4⟩, ⟨o5, by simp, d5⟩, ⟨o6, by simp, d6⟩, ⟨_, .tail _ (.tail _ (.tail _ (.tail _ (.tail _ (.tail _ (.tail _ (.tail _ (.head _)))))))), rfl⟩, ⟨_, .tail _ (.tail _ (.tail _ (.tail _ (.tail _ (.tail _ (.tail _ (.tail _ (.tail _ (.head _))))))))), rfl⟩,
    ⟨_, .tail _ (.head _), 0, rfl⟩, ⟨_, .head _, 0, rfl⟩, fun i q => absurd q (Nat.not_lt_zero _), fun i q => absurd q (Nat.not_lt_zero _), e1, e2, e3, e4, fun i q => absurd q (Nat.not_lt_zero _), fun i j _ q => absurd q (Nat.not_lt_zero _)⟩
theorem Pl.ne {L l1 l2 lL lR : Nat} {vs us : Obj} {ns ms : List Int} {la ra : Nat → Nat} {n x y : Nat} {va vb : Option Value} {X B : List (Addr × Obj)} {c : Nat} {P : Obj → Prop} (_ : Pl L l1 l2 lL lR vs us ns ms la ra n x y va vb B) (h : Has B c P) (hS : Sep X B) : ∀ p ∈ X, @Ne Nat p.1 c := fun p hp => by
  obtain ⟨o, m, _⟩ := h
  exact hS p hp _ m
theorem fresh_sep {X B : List (Addr × Obj)} {D : Nat} {o : Obj} (hS : Sep X B) (hD : ∀ p ∈ X, @LT.lt Nat _ p.1 D) : Sep X ((D, o) :: B) := fun p hp q hq => by
  rcases List.mem_cons.mp hq with rfl | hq
  · exact Nat.ne_of_lt (hD p hp)
  · exact hS p hp q hq
theorem sub_cons {X B all : List (Addr × Obj)} {q : Addr × Obj} (hs : ∀ p ∈ X ++ B, p ∈ all) : ∀ p ∈ X ++ (q :: B), p ∈ q :: all := by
  intro p hp
  rcases List.mem_append.mp hp with h | h
  · exact .tail _ (hs p (List.mem_append_left _ h))
  · rcases List.mem_cons.mp h with rfl | h
    · exact .head _
    · exact .tail _ (hs p (List.mem_append_right _ h))
section
variable {L l1 l2 lL lR : Nat} {vs us : Obj} {ns ms : List Int} {la ra : Nat → Nat} {a x y : Nat} {va vb : Option Value} {own all B1 : List (Addr × Obj)} {D D' kL kR : Nat}
theorem Pl.step_L (PL : Pl L l1 l2 lL lR vs us ns ms la ra a x y va vb B1) (S : Sep own B1) (hs : ∀ p ∈ own ++ B1, p ∈ all) (fr : ∀ p ∈ all, @LT.lt Nat _ p.1 D) (kL : Nat) :
    (∀ p ∈ own ++ upd ((D, lst [] 0) :: B1) lL (lst (refs la a ++ [.ref D]) (kL + 1)), p ∈ upd ((D, lst [] 0) :: all) lL (lst (refs la a ++ [.ref D]) (kL + 1))) ∧ Sep own (upd ((D, lst [] 0) :: B1) lL (lst (refs la a ++ [.ref D]) (kL + 1))) ∧ lR < D ∧ (∀ i, i < a → ra i < D) ∧
      Has (upd ((D, lst [] 0) :: all) lL (lst (refs la a ++ [.ref D]) (kL + 1))) (L + 1 + 1 + 1 + 1) (IsC (some (.ref lR))) ∧ Has (upd ((D, lst [] 0) :: all) lL (lst (refs la a ++ [.ref D]) (kL + 1))) lR (IsL (refs ra a)) ∧ (D, lst [] 0) ∈ upd ((D, lst [] 0) :: all) lL (lst (refs la a ++ [.ref D]) (kL + 1)) := by
  have p1 := PL.o1; have p2 := PL.o2; have p3 := PL.o3; have p4 := PL.o4
  have adr : ∀ {z : Nat} {P : Obj → Prop}, Has B1 z P → z < D := fun {z P} ⟨o, m, _⟩ => fr _ (hs _ (List.mem_append_right _ m))
  have d1 := adr PL.iL
  have d2 := adr PL.iR
  have up : ∀ {z : Nat} {P : Obj → Prop}, Has B1 z P → @Ne Nat z lL → Has (Mine.upd ((D, lst [] 0) :: all) lL (lst (refs la a ++ [.ref D]) (kL + 1))) z P := fun {z P} q n1 =>
    (q.sub (B' := (D, lst [] 0) :: all) fun p hp => .tail _ (hs p (List.mem_append_right _ hp))).upd n1
  refine ⟨sub_upd (sub_cons hs) (PL.ne PL.iL S), (fresh_sep S fun p hp => fr _ (hs _ (List.mem_append_left _ hp))).upd, d2, fun i q => adr (PL.jR i q), up PL.c4 (by omega), up PL.iR (by omega), upd_mem (.head _) (by omega)⟩
theorem Pl.step_R {all2 B2 : List (Addr × Obj)} {oL : Obj} (kR : Nat) (PL : Pl L l1 l2 lL lR vs us ns ms la ra a (ms.length + 1) (ms.length + 1) va vb B1) (hL : IsL (refs la a ++ [.ref D]) oL) (d1 : lR < D) (d3 : ∀ i, i < a → ra i < D) (hB2 : B2 = Mine.upd ((D, lst [] 0) :: B1) lL oL)
    (S : Sep own B2) (hs : ∀ p ∈ own ++ B2, p ∈ all2) (fr : ∀ p ∈ all2, @LT.lt Nat _ p.1 D') (mD : (D, lst [] 0) ∈ all2) :
    Pl L l1 l2 lL lR vs us ns ms (setAt la a D) (setAt ra a D') (a + 1) 0 0 va vb (Mine.upd ((D', lst [] 0) :: B2) lR (lst (refs ra a ++ [.ref D']) (kR + 1))) ∧ Sep own (Mine.upd ((D', lst [] 0) :: B2) lR (lst (refs ra a ++ [.ref D']) (kR + 1))) ∧ (∀ p ∈ own ++ Mine.upd ((D', lst [] 0) :: B2) lR (lst (refs ra a ++ [.ref D']) (kR + 1)), p ∈ Mine.upd ((D', lst [] 0) :: all2) lR (lst (refs ra a ++ [.ref D']) (kR + 1))) := by
  refine ⟨PL.rows rfl rfl hL ⟨_, rfl⟩ d1 (fr _ mD) d3 (fun p hp => hB2 ▸ hp), (fresh_sep S fun p hp => fr _ (hs _ (List.mem_append_left _ hp))).upd, sub_upd (sub_cons hs) fun p hp => ?_⟩
  have p4 := PL.o4
  obtain ⟨o, m, _⟩ := PL.iR
  exact S p hp (lR, o) (hB2 ▸ upd_mem (.tail _ m) (by omega))
theorem sep_join {X Y B : List (Addr × Obj)} (h : Sep X (Y ++ B)) (k : Sep Y B) : Sep (X ++ Y) B := fun p hp q hq => by
  rcases List.mem_append.mp hp with hp | hp
  · exact h p hp q (List.mem_append_right _ hq)
  · exact k p hp q hq
theorem sep_part {X Y B B' : List (Addr × Obj)} (h : Sep X (Y ++ B)) (k : Sep (X ++ Y) B') : Sep X (Y ++ B') := fun p hp q hq => by
  rcases List.mem_append.mp hq with hq | hq
  · exact h p hp q (List.mem_append_left _ hq)
  · exact k p (List.mem_append_left _ hp) q hq
theorem sep_right {X Y B : List (Addr × Obj)} (k : Sep (X ++ Y) B) : Sep Y B := fun p hp => k p (List.mem_append_right _ hp)
end
section
variable {L l1 l2 lL lR : Nat} {vs us : Obj} {ns ms : List Int} {la ra : Nat → Nat} {a x y : Nat} {va vb : Option Value} {own all B1 : List (Addr × Obj)} {D D' kL kR : Nat}
theorem Pl.go_L (PL : Pl L l1 l2 lL lR vs us ns ms la ra a x y va vb B1) (S : Sep own B1) (hs : ∀ p ∈ own ++ B1, p ∈ all) (fr : ∀ p ∈ all, @LT.lt Nat _ p.1 D) (kL : Nat) :
    ∃ all2 B2, all2 = Mine.upd ((D, lst [] 0) :: all) lL (lst (refs la a ++ [.ref D]) (kL + 1)) ∧ B2 = Mine.upd ((D, lst [] 0) :: B1) lL (lst (refs la a ++ [.ref D]) (kL + 1)) ∧ (∀ p ∈ own ++ B2, p ∈ all2) ∧ Sep own B2 ∧ lR < D ∧ (∀ i, i < a → ra i < D) ∧
      Has all2 (L + 1 + 1 + 1 + 1) (IsC (some (.ref lR))) ∧ Has all2 lR (IsL (refs ra a)) ∧ (D, lst [] 0) ∈ all2 := ⟨_, _, rfl, rfl, PL.step_L S hs fr kL⟩
theorem Pl.go_R {all2 B2 : List (Addr × Obj)} {oL : Obj} (PL : Pl L l1 l2 lL lR vs us ns ms la ra a (ms.length + 1) (ms.length + 1) va vb B1) (kR : Nat) (hL : IsL (refs la a ++ [.ref D]) oL) (d1 : lR < D) (d3 : ∀ i, i < a → ra i < D) (hB2 : B2 = Mine.upd ((D, lst [] 0) :: B1) lL oL)
    (S : Sep own B2) (hs : ∀ p ∈ own ++ B2, p ∈ all2) (fr : ∀ p ∈ all2, @LT.lt Nat _ p.1 D') (mD : (D, lst [] 0) ∈ all2) :
    ∃ all3 B3 la' ra', all3 = Mine.upd ((D', lst [] 0) :: all2) lR (lst (refs ra a ++ [.ref D']) (kR + 1)) ∧ Pl L l1 l2 lL lR vs us ns ms la' ra' (a + 1) 0 0 va vb B3 ∧ Sep own B3 ∧ (∀ p ∈ own ++ B3, p ∈ all3) :=
  let ⟨z1, z2, z3⟩ := PL.step_R kR hL d1 d3 hB2 S hs fr mD
  ⟨_, _, _, _, rfl, z1, z2, z3⟩
end
theorem wid_last {W x a : Nat} : wid W (a + 1) x a = x := if_pos rfl
theorem wid_full {W x n i : Nat} (h : i + 1 ≠ n) : wid W n x i = W := if_neg h
section
variable {q r : Int → Bool} {ns ms : List Int} {es : List (Int × Nat × Nat)} {i : Nat} {ys : List Value} {who : Int} {c d : Nat} {t : Tok}
theorem JT.wA (h : JT (cutW q r ns ms) es i ys) (he : es[i]? = some (who, c, d)) (hr : r (WW ns ms c d) = true) : JT (cutW q r ns ms) es (i + 1) ys := h.no he (by simp [cutW, hr])
theorem JT.wB (h : JT (cutW q r ns ms) es i ys) (he : es[i]? = some (who, c, d)) (hq : q who = true) (hr : r (WW ns ms c d) = false) : JT (cutW q r ns ms) es (i + 1) (ys ++ [.int 1 t]) := h.yes he (by simp [cutW, hr, hq])
theorem JT.wC (h : JT (cutW q r ns ms) es i ys) (he : es[i]? = some (who, c, d)) (hq : q who = false) : JT (cutW q r ns ms) es (i + 1) ys := h.no he (by simp [cutW, hq])
end
theorem pos_yes {i : Int} (h : 0 < i) : isPos i = true := (isPos_iff i).mpr h
theorem pos_no {i : Int} (h : ¬ 0 < i) : isPos i = false := by
  cases e : isPos i with
  | false => rfl
  | true => exact absurd ((isPos_iff i).mp e) h
theorem neg_yes {i : Int} (h : i < 0) : isNeg i = true := (isNeg_iff i).mpr h
theorem neg_no {i : Int} (h : ¬ i < 0) : isNeg i = false := by
  cases e : isNeg i with
  | false => rfl
  | true => exact absurd ((isNeg_iff i).mp e) h
theorem ne_nil_U {prog : Program} {w : World} {A : Around} {E : Value → Shared → Prop} {s : Shared} {h₀ : Heap} {L l b : Addr} {B : List (Addr × Obj)} {ys : List Value} {k1 : Nat} {qs : List Int} {Q : Value → Shared → Prop} (N : News h₀ L s.heap B) (h1 : (l, lst ys k1) ∈ B) (h2 : (b, W.listOf #[] 0) ∈ B) (hI : IntsAre ys qs) (hu : A.units + 64 < cLine)
    (h : Q (.bool (!decide (qs = []))) s) : wpAny (model prog w) A (compareOp .NotEq (.ref l) (.ref b)) Q E s :=
  ne_intsK (vs := ys) (us := []) (News.isList N h1) hI (News.isList N h2) .nil hu h
section
variable {L l1 l2 lL lR : Nat} {vs us : Obj} {ns ms : List Int} {la ra : Nat → Nat} {a x y : Nat} {va vb : Option Value} {X Lg B1 : List (Addr × Obj)} {h₀ h : Heap} {L0 : Addr} {zs : List Value} {es : List (Int × Nat × Nat)} {S k : Nat} {v : Bool}
theorem Pl.fin_L (PL : Pl L l1 l2 lL lR vs us ns ms la ra (a + 1) x y va vb B1) (SX : Sep X B1) (hs : ∀ p ∈ X ++ B1, p ∈ Lg) (N : News h₀ L0 h Lg) (hr : (la a, lst (rowV isPos ns ms a x) k) ∈ Lg) (hcc : CutsAre Lg zs es) (hS : (S, lst zs 0) ∈ Lg) (hne : la a < S) (hv : v = isPos (WW ns ms a x)) :
    ∃ all' B', all' = Mine.upd Lg (la a) (lst (rowV isPos ns ms a x ++ [.bool v]) (k + 1)) ∧ Pl L l1 l2 lL lR vs us ns ms la ra (a + 1) (x + 1) y va vb B' ∧ Sep X B' ∧ (∀ p ∈ X ++ B', p ∈ all') ∧ CutsAre all' zs es ∧ (S, lst zs 0) ∈ all' := by
  subst hv
  exact ⟨_, _, rfl, PL.rowL (o' := lst (rowV isPos ns ms a x ++ [.bool (isPos (WW ns ms a x))]) (k + 1)) ⟨_, by rw [rowV_more]⟩, SX.upd, sub_upd hs (PL.ne (PL.jL a (by omega)) SX), hcc.keep N hr, upd_mem hS (by omega)⟩
theorem Pl.fin_R (PL : Pl L l1 l2 lL lR vs us ns ms la ra (a + 1) x y va vb B1) (SX : Sep X B1) (hs : ∀ p ∈ X ++ B1, p ∈ Lg) (hv : v = isNeg (WW ns ms a y)) :
    ∃ all' B', all' = Mine.upd Lg (ra a) (lst (rowV isNeg ns ms a y ++ [.bool v]) (k + 1)) ∧ Pl L l1 l2 lL lR vs us ns ms la ra (a + 1) x (y + 1) va vb B' ∧ Sep X B' ∧ (∀ p ∈ X ++ B', p ∈ all') := by
  subst hv
  exact ⟨_, _, rfl, PL.rowR (o' := lst (rowV isNeg ns ms a y ++ [.bool (isNeg (WW ns ms a y))]) (k + 1)) ⟨_, by rw [rowV_more]⟩, SX.upd, sub_upd hs (PL.ne (PL.jR a (by omega)) SX)⟩
end
theorem refs_succ (la : Nat → Nat) (n : Nat) : refs la (n + 1) = refs la n ++ [.ref (la n)] := by
  unfold refs; rw [List.range_succ, List.map_append]; rfl
theorem last_U {prog : Program} {w : World} {A : Around} {E : Value → Shared → Prop} {s : Shared} {h₀ : Heap} {L : Addr} {B : List (Addr × Obj)} {value slice : PySem.Expr} {l : Addr} {vi : List Value} {v : Value} {k : Nat} {u : Tok} {Q : Value → Shared → Prop} (N : News h₀ L s.heap B) (hm : (l, lst (vi ++ [v]) k) ∈ B) (h : Q v s)
    (hs : subscripted slice false (.ref l) (.int (-1) u) = operate [.ref l, .int (-1) u] (getItem (.ref l) (.int (-1) u)) := by with_unfolding_all rfl) :
    wpAny (model prog w) A (subscriptTail value slice (.ref l) (.int (-1) u)) Q E s := by
  have hl := News.isList N hm
  refine tail_any hl.typeIs slot_list_getitem.lookup (wpAny_getItem_list_neg hl (by decide) (by simp; omega) (by decide) ?_ h) hs
  have e : ((-1 : Int) + ((vi ++ [v]).toArray.size : Int)).toNat = vi.length := by simp; omega
  rw [e]; simp
end
section
/-! F2 -/
local macro_rules | `(tactic| walk_at "CompSrc") => `(tactic| (k_here; k_dflt (first
  | (refine LCg.CompSrc.ledger (by rfl) (by k_asm) (by k_asm) (by k_mem) (by first | size_fits | exact Nat.le_of_ble_eq_true rfl) ?_; intro g'; lcg_lit)
  | (refine LCg.CompSrc.range (by rfl) (by k_asm) (by k_asm) (by assumption) (by first | decide | rfl) (by first | rfl | decide) (by first | size_fits | exact Nat.le_of_ble_eq_true rfl) ?_; intro g'; lcg_lit))))
local macro_rules | `(tactic| walk_at "call builtin:sum") => `(tactic| (k_here; (with_unfolding_all refine' sumK ?k0 ?k1 ?k2 ?k3 ?k4 ?_; (case k0 => with_unfolding_all rfl); (case k1 => k_asm); (case k2 => k_asm); (case k3 => exact News.isList (by k_asm) (List.Mem.head _)); (case k4 => exact IntsAre.pick (by assumption) _ _ _); k_whole); intro h' tk' t' F' N'; replace N' := news_tail N'))
theorem c_numbers {w : World} {mean : ExcName → Option Value} {mg mb : Str → Option Value} {G : Heap} {A : Around} {s : Shared} {Q E : Value → Shared → Prop}
    (C : Cx w mean mg mb G s.heap) (hA : Fits A 690 2900) (l : Addr) (vs : List Value) (ns : List Int) (hL : s.heap.IsList l vs.toArray) (hI : IntsAre vs ns) (hlen : ns.length ≤ 63)
    (hQ : ∀ t n a b c x y z h' tk', Ext s.heap h' → Made s.heap h' [(t, lst [.int a x, .int b y, .int c z] n)] → Q (.ref t) { s with heap := h', toks := tk' }) :
    wpAny (model PySem.Challenge.pw_wu0004_01 w) A (call (.ref 54) [.ref l]) Q E s := by
  refine' enterC (binds := [(PySem.Str.ofString "script", .ref l)]) (fun v l => ∃ t n a b c x y z, v = .ref t ∧ l = [(t, lst [.int a x, .int b y, .int c z] n)]) ([]) C hA ?hh ?hQ ?ho ?hcd ?hroom ?hbind ?hloc ?hnd ?body ?hco ?hgen ?hk
  (case ho => k_is)
  (case hcd => k_is)
  (case hroom => decide)
  (case hbind => exact BindsTo.of_eq rfl)
  (case hloc => exact rfl)
  (case hnd => decide +kernel)
  (case hco => exact rfl)
  (case hgen => exact rfl)
  (case hk => exact rfl)
  case hh => exact obs_nil
  case hQ =>
    rintro v l h' tk' e1 e2 ⟨t, n, a, b, c, x, y, z, rfl, rfl⟩
    exact hQ t n a b c x y z h' tk' e1 e2
  case body =>
    intro g' L' h1 tk1 cells' hle1 hg FG N' Y' KX T l1
    have SL : g'.IsList l vs.toArray := by subst hg; exact hL
    (try k_lt l1)
    k_cells Y'
    (try simp only [List.cons_append, List.nil_append] at N')
    try dsimp only
    try k_fold
    k_steps
    (with_reducible rename Fr _ _ _ _ => F9)
    (with_reducible rename News _ _ _ _ => N9)
    refine back_one F9 N9 hg (by k_mem) (by repeat' (first | exact mem_nil' | (refine mem_cons' ?_ ?_; k_mem))) (by repeat' (first | exact mem_nil' | (refine mem_cons' ?_ ?_; k_ne))) ?_
    exact ⟨_, _, _, _, _, _, _, _, rfl, rfl⟩

/-- a pixel of ints: three fourths and their tokens -/
structure Px where
  r : Int
  g : Int
  b : Int
  x : Tok
  y : Tok
  z : Tok
abbrev Px.obj (p : Px) : Obj := tup [.int p.r p.x, .int p.g p.y, .int p.b p.z]
structure Px.Ok (p : Px) : Prop where
  r0 : 0 ≤ p.r
  r1 : p.r ≤ 4
  g0 : 0 ≤ p.g
  g1 : p.g ≤ 4
  b0 : 0 ≤ p.b
  b1 : p.b ≤ 4
theorem px_ok (m : Int) (x y z : Tok) : Px.Ok ⟨(m.fmod 125).fdiv 25, ((m.fmod 125).fdiv 5).fmod 5, (m.fmod 125).fmod 5, x, y, z⟩ := by
  have h := Int.fmod_eq_emod_of_nonneg m (show (0 : Int) ≤ 125 by decide)
  rw [h]
  have h1 : 0 ≤ m % 125 := Int.emod_nonneg _ (by decide)
  have h2 : m % 125 < 125 := Int.emod_lt_of_pos _ (by decide)
  generalize m % 125 = k at h1 h2
  have e1 : k.fdiv 25 = k / 25 := Int.fdiv_eq_ediv_of_nonneg _ (by decide)
  have e2 : k.fdiv 5 = k / 5 := Int.fdiv_eq_ediv_of_nonneg _ (by decide)
  have e3 : k.fmod 5 = k % 5 := Int.fmod_eq_emod_of_nonneg _ (by decide)
  have e4 : (k / 5).fmod 5 = k / 5 % 5 := Int.fmod_eq_emod_of_nonneg _ (by decide)
  rw [e1, e2, e3, e4]
  constructor <;> dsimp only <;> omega

section
local macro_rules | `(tactic| walk_at "RangeRest") => `(tactic| refine stubI ?_)
theorem c_pixels {w : World} {mean : ExcName → Option Value} {mg mb : Str → Option Value} {G : Heap} {A : Around} {s : Shared} {Q E : Value → Shared → Prop}
    (C : Cx w mean mg mb G s.heap) (hA : Fits A 690 2900) (n : Int) (tn : Tok)
    (hQ : ∀ t k t1 t2 t3 t4 (p1 p2 p3 p4 : Px) h' tk', Ext s.heap h' → Made s.heap h' [(t, lst [.ref t1, .ref t2, .ref t3, .ref t4] k), (t1, p1.obj), (t2, p2.obj), (t3, p3.obj), (t4, p4.obj)] → p1.Ok → p2.Ok → p3.Ok → p4.Ok → Q (.ref t) { s with heap := h', toks := tk' }) :
    wpAny (model PySem.Challenge.pw_wu0004_01 w) A (call (.ref 61) [.int n tn]) Q E s := by
  refine' enterB (binds := [(PySem.Str.ofString "number", .int n tn)]) (fun v l => ∃ t k t1 t2 t3 t4, ∃ p1 p2 p3 p4 : Px, v = .ref t ∧ l = [(t, lst [.ref t1, .ref t2, .ref t3, .ref t4] k), (t1, p1.obj), (t2, p2.obj), (t3, p3.obj), (t4, p4.obj)] ∧ p1.Ok ∧ p2.Ok ∧ p3.Ok ∧ p4.Ok) ([]) C hA ?hh ?hQ ?ho ?hcd ?hroom ?hbind ?hloc ?body ?hco ?hgen ?hk ?hcell
  (case ho => k_is)
  (case hcd => k_is)
  (case hroom => decide)
  (case hbind => exact BindsTo.of_eq rfl)
  (case hloc => exact locs rfl)
  (case hco => exact rfl)
  (case hgen => exact rfl)
  (case hk => exact rfl)
  (case hcell => decide)
  case hh => exact obs_nil
  case hQ =>
    rintro v l h' tk' e1 e2 ⟨t, k, t1, t2, t3, t4, p1, p2, p3, p4, rfl, rfl, o1, o2, o3, o4⟩
    exact hQ t k t1 t2 t3 t4 p1 p2 p3 p4 h' tk' e1 e2 o1 o2 o3 o4
  case body =>
    intro g' L' h1 tk1 hle1 hg FG N' KX T l1
    (try simp only [List.length_cons, List.length_nil] at hle1)
    (try k_lt l1)
    try dsimp only
    try k_fold
    k_steps
    as_aux_lemma =>
    refine MarkI.mk ?_
    with_unfolding_all refine RangeRest.succ (fun t' h' tk' F' N' => ?_)
    k_steps
    as_aux_lemma =>
    refine MarkI.mk ?_
    with_unfolding_all refine RangeRest.succ (fun t' h' tk' F' N' => ?_)
    k_steps
    as_aux_lemma =>
    refine MarkI.mk ?_
    with_unfolding_all refine RangeRest.succ (fun t' h' tk' F' N' => ?_)
    k_steps
    as_aux_lemma =>
    refine MarkI.mk ?_
    with_unfolding_all refine RangeRest.succ (fun t' h' tk' F' N' => ?_)
    k_steps
    as_aux_lemma =>
    refine MarkI.mk ?_
    with_unfolding_all refine RangeRest.zero (fun h' tk' F' N' => ?_)
    k_steps
    dsimp only
    (with_reducible rename Fr _ _ _ _ => F9)
    (with_reducible rename News _ _ _ _ => N9)
    refine' back_mk F9 N9 hg ?hP9 ?hi9 ?hl9 ?hn9
    (case' hP9 => refine' ⟨_, _, _, _, _, _, ⟨_, _, _, _, _, _⟩, ⟨_, _, _, _, _, _⟩, ⟨_, _, _, _, _, _⟩, ⟨_, _, _, _, _, _⟩, rfl, rfl, px_ok _ _ _ _, px_ok _ _ _ _, px_ok _ _ _ _, px_ok _ _ _ _⟩)
    (case hi9 => repeat' (first | exact mem_nil' | (refine mem_cons' ?_ ?_; k_mem)))
    (case hl9 => repeat' (first | exact mem_nil' | (refine mem_cons' ?_ ?_; k_mem)))
    (case hn9 => repeat' (first | exact mem_nil' | (refine mem_cons' ?_ ?_; (repeat' (first | exact mem_nil' | (refine mem_cons' ?_ ?_; k_ne))))))
end
end
section
/-! Pix -/
open Flt (toInt)
/-- a fourth of an int; a fourth of a float -/
def q4 (n : Int) : UInt64 := Float64.ofFrac (decide (n < 0) != decide ((4 : Int) < 0)) n.natAbs (Int.natAbs 4)
def d4 (x : UInt64) : UInt64 := Float64.div x (Float64.ofInt 4)
def warm (x y z : UInt64) : UInt64 := Float64.add (Float64.mul (Float64.ofInt 40000) (iF x y z)) 4678479219511001088
def half (x : UInt64) : UInt64 := Float64.add x 4602678819172646912
def oneY (x y z : UInt64) : UInt64 := Float64.sub 4607182418800017408 (yF x y z)
def nR (x y z : UInt64) : UInt64 := Float64.mul (Float64.ofInt 4) (clip (rX (oneY x y z) (Float64.neg (iF x y z)) (Float64.neg (qF x y z))))
def nG (x y z : UInt64) : UInt64 := Float64.mul (Float64.ofInt 4) (clip (gX (oneY x y z) (Float64.neg (iF x y z)) (Float64.neg (qF x y z))))
def nB (x y z : UInt64) : UInt64 := Float64.mul (Float64.ofInt 4) (clip (bX (oneY x y z) (Float64.neg (iF x y z)) (Float64.neg (qF x y z))))
def heat (r g b : Int) : Int := 5990 * r - 2773 * g - 3217 * b
def tells (x : UInt64) (k : Int) : Bool := Float64.isFinite x && decide (toInt Float64.truncOf x = k)
def pixOk (r g b : Int) : Bool :=
  let (x, y, z) := (q4 r, q4 g, q4 b)
  let (u, v, n) := (nR x y z, nG x y z, nB x y z)
  tells (warm x y z) (heat r g b + 60000) && tells (half u) (4 - r) && tells (half v) (4 - g) && tells (half n) (4 - b) && tells (warm (d4 u) (d4 v) (d4 n)) (-heat r g b + 60000)
/-- five pixels at a time, so that no one check is long -/
def pixRow (r g : Nat) : Bool := (List.range 5).all fun b => pixOk r g b
theorem pix_00 : pixRow 0 0 = true := by decide +kernel
theorem pix_01 : pixRow 0 1 = true := by decide +kernel
theorem pix_02 : pixRow 0 2 = true := by decide +kernel
theorem pix_03 : pixRow 0 3 = true := by decide +kernel
theorem pix_04 : pixRow 0 4 = true := by decide +kernel
theorem pix_10 : pixRow 1 0 = true := by decide +kernel
theorem pix_11 : pixRow 1 1 = true := by decide +kernel
theorem pix_12 : pixRow 1 2 = true := by decide +kernel
theorem pix_13 : pixRow 1 3 = true := by decide +kernel
theorem pix_14 : pixRow 1 4 = true := by decide +kernel
theorem pix_20 : pixRow 2 0 = true := by decide +kernel
theorem pix_21 : pixRow 2 1 = true := by decide +kernel
theorem pix_22 : pixRow 2 2 = true := by decide +kernel
theorem pix_23 : pixRow 2 3 = true := by decide +kernel
theorem pix_24 : pixRow 2 4 = true := by decide +kernel
theorem pix_30 : pixRow 3 0 = true := by decide +kernel
theorem pix_31 : pixRow 3 1 = true := by decide +kernel
theorem pix_32 : pixRow 3 2 = true := by decide +kernel
theorem pix_33 : pixRow 3 3 = true := by decide +kernel
theorem pix_34 : pixRow 3 4 = true := by decide +kernel
theorem pix_40 : pixRow 4 0 = true := by decide +kernel
theorem pix_41 : pixRow 4 1 = true := by decide +kernel
theorem pix_42 : pixRow 4 2 = true := by decide +kernel
theorem pix_43 : pixRow 4 3 = true := by decide +kernel
theorem pix_44 : pixRow 4 4 = true := by decide +kernel
theorem pix_rows (r g : Nat) (hr : r < 5) (hg : g < 5) : pixRow r g = true := by
  obtain rfl | rfl | rfl | rfl | rfl : r = 0 ∨ r = 1 ∨ r = 2 ∨ r = 3 ∨ r = 4 := by omega
  · obtain rfl | rfl | rfl | rfl | rfl : g = 0 ∨ g = 1 ∨ g = 2 ∨ g = 3 ∨ g = 4 := by omega
    · exact pix_00
    · exact pix_01
    · exact pix_02
    · exact pix_03
    · exact pix_04
  · obtain rfl | rfl | rfl | rfl | rfl : g = 0 ∨ g = 1 ∨ g = 2 ∨ g = 3 ∨ g = 4 := by omega
    · exact pix_10
    · exact pix_11
    · exact pix_12
    · exact pix_13
    · exact pix_14
  · obtain rfl | rfl | rfl | rfl | rfl : g = 0 ∨ g = 1 ∨ g = 2 ∨ g = 3 ∨ g = 4 := by omega
    · exact pix_20
    · exact pix_21
    · exact pix_22
    · exact pix_23
    · exact pix_24
  · obtain rfl | rfl | rfl | rfl | rfl : g = 0 ∨ g = 1 ∨ g = 2 ∨ g = 3 ∨ g = 4 := by omega
    · exact pix_30
    · exact pix_31
    · exact pix_32
    · exact pix_33
    · exact pix_34
  · obtain rfl | rfl | rfl | rfl | rfl : g = 0 ∨ g = 1 ∨ g = 2 ∨ g = 3 ∨ g = 4 := by omega
    · exact pix_40
    · exact pix_41
    · exact pix_42
    · exact pix_43
    · exact pix_44
theorem px_r {p : Px} (h : p.Ok) : p.r.natAbs < 100 := by have := h.r0; have := h.r1; omega
theorem px_g {p : Px} (h : p.Ok) : p.g.natAbs < 100 := by have := h.g0; have := h.g1; omega
theorem px_b {p : Px} (h : p.Ok) : p.b.natAbs < 100 := by have := h.b0; have := h.b1; omega
theorem pix_at {p : Px} (h : p.Ok) : pixOk p.r p.g p.b = true := by
  have e := pix_rows p.r.toNat p.g.toNat (by have := h.r0; have := h.r1; omega) (by have := h.g0; have := h.g1; omega)
  unfold pixRow at e
  simp only [List.all_eq_true, List.mem_range] at e
  have q := e p.b.toNat (by have := h.b0; have := h.b1; omega)
  rwa [Int.toNat_of_nonneg h.r0, Int.toNat_of_nonneg h.g0, Int.toNat_of_nonneg h.b0] at q
theorem pix_parts {p : Px} (h : p.Ok) : tells (warm (q4 p.r) (q4 p.g) (q4 p.b)) (heat p.r p.g p.b + 60000) = true ∧
    tells (half (nR (q4 p.r) (q4 p.g) (q4 p.b))) (4 - p.r) = true ∧ tells (half (nG (q4 p.r) (q4 p.g) (q4 p.b))) (4 - p.g) = true ∧ tells (half (nB (q4 p.r) (q4 p.g) (q4 p.b))) (4 - p.b) = true ∧
    tells (warm (d4 (nR (q4 p.r) (q4 p.g) (q4 p.b))) (d4 (nG (q4 p.r) (q4 p.g) (q4 p.b))) (d4 (nB (q4 p.r) (q4 p.g) (q4 p.b)))) (-heat p.r p.g p.b + 60000) = true := by
  have e := pix_at h
  simp only [pixOk, Bool.and_eq_true] at e
  exact ⟨e.1.1.1.1, e.1.1.1.2, e.1.1.2, e.1.2, e.2⟩
theorem tells_warm {p : Px} (h : p.Ok) : tells (warm (q4 p.r) (q4 p.g) (q4 p.b)) (heat p.r p.g p.b + 60000) = true := (pix_parts h).1
theorem tells_r {p : Px} (h : p.Ok) : tells (half (nR (q4 p.r) (q4 p.g) (q4 p.b))) (4 - p.r) = true := (pix_parts h).2.1
theorem tells_g {p : Px} (h : p.Ok) : tells (half (nG (q4 p.r) (q4 p.g) (q4 p.b))) (4 - p.g) = true := (pix_parts h).2.2.1
theorem tells_b {p : Px} (h : p.Ok) : tells (half (nB (q4 p.r) (q4 p.g) (q4 p.b))) (4 - p.b) = true := (pix_parts h).2.2.2.1
theorem tells_cold {p : Px} (h : p.Ok) : tells (warm (d4 (nR (q4 p.r) (q4 p.g) (q4 p.b))) (d4 (nG (q4 p.r) (q4 p.g) (q4 p.b))) (d4 (nB (q4 p.r) (q4 p.g) (q4 p.b)))) (-heat p.r p.g p.b + 60000) = true := (pix_parts h).2.2.2.2

section
variable {prog : Program} {w : World} {A : Around} {E : Value → Shared → Prop} {s : Shared} {t u : Tok} {Q : Value → Shared → Prop}
theorem div4i {a : Int} (hA : A.handled = none) (ha : a.natAbs < 100) (h : Q (.float (q4 a) s.toks) { s with toks := s.toks + 1 }) : wpAny (model prog w) A (binaryOp .Div (.int a t) (.int 4 u)) Q E s :=
  Flt.div_ii_fits hA (Nat.lt_of_lt_of_le ha (Nat.le_trans (show 100 ≤ 2 ^ 7 by decide) (Nat.pow_le_pow_right (by decide) (by decide)))) (fun e => absurd e (by decide)) fun _ _ => h
theorem lt_1023 {k : Nat} (h : k < 2 ^ 64) : k < 2 ^ 1023 := Nat.lt_of_lt_of_le h (Nat.pow_le_pow_right (by decide) (by decide))
theorem not_over4 : ¬ Flt.Over 4 := by
  intro h
  exact absurd (Flt.inf_of_over h) (by decide +kernel)
theorem div4f {a : UInt64} (hA : A.handled = none) (h : Q (.float (d4 a) s.toks) { s with toks := s.toks + 1 }) : wpAny (model prog w) A (binaryOp .Div (.float a t) (.int 4 u)) Q E s :=
  Flt.truediv_fi hA (fun o => absurd o not_over4) (fun e => absurd e (by decide)) fun _ _ => h
theorem int_tells {x : UInt64} {k : Int} (hA : A.handled = none) (hx : tells x k = true) (h : Q (.int k s.toks) { s with toks := s.toks + 1 }) : wpAny (model prog w) A (call (.type "int") [.float x t]) Q E s := by
  simp only [tells, Bool.and_eq_true, decide_eq_true_eq] at hx
  have n1 : ∀ {y : UInt64}, Float64.isFinite y = true → Float64.isNaN y = true → False := fun {y} a b => by
    unfold Float64.isFinite at a; unfold Float64.isNaN at b
    split at a <;> simp_all
  have n2 : ∀ {y : UInt64}, Float64.isFinite y = true → Float64.isInf y = true → False := fun {y} a b => by
    unfold Float64.isFinite at a; unfold Float64.isInf at b
    split at a <;> simp_all
  exact Flt.call_int_float3 hA (fun e => (n1 hx.1 e).elim) (fun e => (n2 hx.1 e).elim) fun _ => hx.2 ▸ h
end
end
section
/-! Neg -/
local macro_rules | `(tactic| walk_at "no key") => `(tactic| fail)
/-- what a turn over a list hands on -/
def LEnd (h₀ : Heap) (L I : Addr) (own : List (Addr × Obj)) (J : (Str → Option Value) → List (Addr × Obj) → Prop) (s₁ : Shared) (f : Flow) (s₂ : Shared) : Prop :=
  f = .next ∧ ∃ h' tk m₂ B₂, s₂ = { s₁ with heap := h', toks := tk } ∧ Fr h₀ L h' m₂ ∧ News h₀ L h' (own ++ B₂) ∧ (∀ p ∈ B₂, @Ne Nat p.1 I) ∧ J m₂ B₂
theorem LEnd.intro {h₀ h' : Heap} {L I : Addr} {own all B₂ : List (Addr × Obj)} {J : (Str → Option Value) → List (Addr × Obj) → Prop} {s₁ : Shared} {m₂ : Str → Option Value} {tk : Nat} (F : Fr h₀ L h' m₂) (N : News h₀ L h' all) (hs : ∀ p ∈ own ++ B₂, p ∈ all) (hS : ∀ p ∈ B₂, @Ne Nat p.1 I) (hJ : J m₂ B₂) :
    LEnd h₀ L I own J s₁ .next { s₁ with heap := h', toks := tk } := ⟨rfl, _, _, _, _, rfl, F, fun p hp => N p (hs p hp), hS, hJ⟩
section
variable {prog : Program} {w : World} {A : Around} {s : Shared} {env : Env} {h₀ : Heap} {m : Str → Option Value} {B : List (Addr × Obj)}
theorem iter_lst {E : Value → Shared → Prop} {Q : Flow → Shared → Prop} {target : Expr} {body : List Stmt} {l : Addr} {vs : List Value} {k : Nat} (J : Nat → (Str → Option Value) → List (Addr × Obj) → Prop)
    (hh : A.handled = none) (F : Fr h₀ env.locals s.heap m) (N : News h₀ env.locals s.heap B) (hl : (l, lst vs k) ∈ B) (hj : J 0 m B)
    (turn : ∀ i v I own m₁ B₁ (s₁ : Shared), i < vs.length → vs[i]? = some v → J i m₁ B₁ → (∀ p ∈ B₁, @Ne Nat p.1 I) → (∀ p ∈ own, @Eq Nat p.1 I ∨ @Eq Nat p.1 l) → (∃ oI, (I, oI) ∈ own ∧ oI.cls = .type "list_iterator") → Fr h₀ env.locals s₁.heap m₁ → News h₀ env.locals s₁.heap (own ++ B₁) →
      wpAny (model prog w) A (assign target env v) (fun _ s₃ => wpAny (model prog w) A (execs body env) (LEnd h₀ env.locals I own (J (i + 1)) s₁) E s₃) E s₁)
    (done : ∀ h tk m' B', J vs.length m' B' → Fr h₀ env.locals h m' → News h₀ env.locals h B' → Q .next { s with heap := h, toks := tk }) :
    wpAny (model prog w) A (pyIter (.ref l)) (fun it s₂ => LoopAtT prog w A h₀ env target body Q E it s₂) E s := by
  have hls : s.heap.IsList l vs.toArray := News.isList N hl
  have hnew : h₀.get? s.heap.objs.size = none := next_is_new F
  have hne : l ≠ s.heap.objs.size := by obtain ⟨o, e, _⟩ := hls; exact Nat.ne_of_lt (Heap.lt_size e)
  have hl0 : env.locals ≠ l := Ne.symm (N _ hl).2.1
  refine wpAny_pyIter_list hls ?_
  have W := Walks.list (prog := prog) (w := w) hh s.heap.objs.size l hne vs.toArray
  rw [List.size_toArray] at W
  refine ⟨_, _, _, vs.length, _, _, m, B, J, rfl, W, ?_, ?_, ?_, ⟨⟨_, Heap.get?_push_size _ rfl, rfl, rfl⟩, hls.at fun o e => Heap.get?_push_of_some _ e⟩, F.push _, (fun p hp => ⟨Heap.get?_push_of_some _ (N p hp).1, (N p hp).2⟩), (fun i s' v Q' st q => letGo_listiter st.1 q), hj, ?_, ?_⟩
  · intro hm
    rcases List.mem_cons.mp hm with e | hm
    · exact absurd F.ns.lt (e ▸ Nat.lt_irrefl _)
    · exact hl0 (List.mem_singleton.mp hm)
  · intro b hb
    rw [List.mem_singleton.mp hb]
    exact hnew
  · intro p hp hI
    exact absurd (Heap.lt_size (N p hp).1) ((List.mem_singleton.mp hI) ▸ Nat.lt_irrefl _)
  · intro i v' m₁ news₁ s₁ own hi hP hJ hoff hsub hget hall st F₁ N₁
    have t' := turn i v' s.heap.objs.size own m₁ news₁ s₁ hi (by simpa using hP) hJ (fun p hp e => hoff p hp (List.mem_singleton.mpr e)) (fun p hp => by
      rcases List.mem_cons.mp (hsub p hp) with e | e
      · exact .inl e
      · exact .inr (List.mem_singleton.mp e)) (by
      obtain ⟨oI, e1, e2, _⟩ := st.1
      exact ⟨oI, hall _ (.head _) hnew _ e1, e2⟩) F₁ N₁
    refine wpAny_mono t' (fun _ s₃ h₃ => wpAny_mono h₃ (fun f s₄ h₄ => ?_) fun _ _ e => e) fun _ _ e => e
    obtain ⟨rfl, h', tk, m₂, B₂, rfl, F₂, N₂, hS₂, hJ₂⟩ := h₄
    exact ⟨rfl, h', tk, m₂, B₂, rfl, F₂, N₂, fun p hp q => hS₂ p hp (List.mem_singleton.mp q), hJ₂⟩
  · intro h' tk m' news' F' N' _ hJ
    exact done h' tk m' news' hJ F' N'
end
theorem adr_ne {h₀ h : Heap} {L : Addr} {B : List (Addr × Obj)} (N : News h₀ L h B) {x y : Nat} {o o' : Obj} (h1 : (x, o) ∈ B) (h2 : (y, o') ∈ B) (hn : o.cls ≠ o'.cls) : @Ne Nat x y := fun e => by
  subst e
  have a := (N _ h1).1
  have b := (N _ h2).1
  simp only at a b
  rw [a] at b
  cases b
  exact hn rfl
def NbAt (B : List (Addr × Obj)) (v : Value) (p : Px) : Prop := ∃ t x y z, v = .ref t ∧ (t, tup [.float (nR (q4 p.r) (q4 p.g) (q4 p.b)) x, .float (nG (q4 p.r) (q4 p.g) (q4 p.b)) y, .float (nB (q4 p.r) (q4 p.g) (q4 p.b)) z]) ∈ B
structure JN (D : Nat) (hid : List (Addr × Obj)) (ps : List Px) (i : Nat) (m : Str → Option Value) (B : List (Addr × Obj)) : Prop where
  m : ∃ u : Str → Option Value, m = fun y => if y = PySem.Str.ofString "turned" then some (.ref D) else u y
  ne : ∀ p ∈ hid, @Ne Nat p.1 D
  hid : ∀ p ∈ hid, p ∈ B
  l : ∃ ys k, (D, lst ys k) ∈ B ∧ All2 NbAt B ys (ps.take i) ∧ ys.length = i
theorem turned_map {m : Str → Option Value} {v : Option Value} (h : m (PySem.Str.ofString "turned") = v) : ∃ u : Str → Option Value, m = fun y => if y = PySem.Str.ofString "turned" then v else u y := ⟨m, funext fun y => by
  by_cases q : y = PySem.Str.ofString "turned"
  · rw [if_pos q, q, h]
  · rw [if_neg q]⟩
/-- the end of a turn: the tuple was put behind -/
theorem neg_end {h₀ h h' : Heap} {L I : Addr} {D t : Nat} {own B₁ hid pre : List (Addr × Obj)} {ps : List Px} {i k : Nat} {p : Px} {ys : List Value} {x y z : Tok} {m : Str → Option Value} {s₁ : Shared} {tk : Nat}
    (N : News h₀ L h (pre ++ (own ++ B₁))) (F : Fr h₀ L h' m) (N' : News h₀ L h' (upd (pre ++ (own ++ B₁)) D (lst (ys ++ [.ref t]) (k + 1)))) (hm : m (PySem.Str.ofString "turned") = some (.ref D))
    (hne : ∀ p ∈ hid, @Ne Nat p.1 D) (hsub : ∀ p ∈ hid, p ∈ B₁) (hD : (D, lst ys k) ∈ B₁) (hz : All2 NbAt B₁ ys (ps.take i)) (hlen : ys.length = i) (hp : ps[i]? = some p) (hoff : ∀ p ∈ B₁, @Ne Nat p.1 I) {l : Nat} (hown : ∀ p ∈ own, @Eq Nat p.1 I ∨ @Eq Nat p.1 l) (hI : ∃ oI, (I, oI) ∈ own ∧ oI.cls = .type "list_iterator") (hl : @Ne Nat l D)
    (ht : (t, tup [.float (nR (q4 p.r) (q4 p.g) (q4 p.b)) x, .float (nG (q4 p.r) (q4 p.g) (q4 p.b)) y, .float (nB (q4 p.r) (q4 p.g) (q4 p.b)) z]) ∈ pre ++ (own ++ B₁)) :
    LEnd h₀ L I own (JN D hid ps (i + 1)) s₁ .next { s₁ with heap := h', toks := tk } := by
  have inB : ∀ q ∈ B₁, q ∈ pre ++ (own ++ B₁) := fun q hq => List.mem_append_right _ (List.mem_append_right _ hq)
  have inO : ∀ q ∈ own, q ∈ pre ++ (own ++ B₁) := fun q hq => List.mem_append_right _ (List.mem_append_left _ hq)
  have hDI : @Ne Nat D I := hoff _ hD
  have htD : @Ne Nat t D := adr_ne N ht (inB _ hD) (show Value.type "tuple" ≠ Value.type "list" from by decide)
  obtain ⟨oI, hI1, hI2⟩ := hI
  have htI : @Ne Nat t I := adr_ne N ht (inO _ hI1) (by rw [hI2]; show Value.type "tuple" ≠ Value.type "list_iterator"; decide)
  have keep : ∀ {q : Addr × Obj}, q ∈ pre ++ (own ++ B₁) → @Ne Nat q.1 D → @Ne Nat q.1 I → q ∈ (upd (pre ++ (own ++ B₁)) D (lst (ys ++ [.ref t]) (k + 1))).filter (fun q => decide (@Ne Nat q.1 I)) := fun {q} h1 h2 h3 =>
    List.mem_filter.mpr ⟨upd_mem h1 h2, decide_eq_true h3⟩
  have kz : ∀ {zs : List Value} {as : List Px}, All2 NbAt B₁ zs as → All2 NbAt ((upd (pre ++ (own ++ B₁)) D (lst (ys ++ [.ref t]) (k + 1))).filter (fun q => decide (@Ne Nat q.1 I))) zs as := by
    intro zs as h
    induction h with
    | nil => exact .nil
    | cons a _ ih =>
      refine .cons ?_ ih
      obtain ⟨t', x', y', z', e1, e2⟩ := a
      exact ⟨t', x', y', z', e1, keep (inB _ e2) (adr_ne N (inB _ e2) (inB _ hD) (show Value.type "tuple" ≠ Value.type "list" from by decide)) (hoff _ e2)⟩
  refine LEnd.intro F N' (B₂ := (upd (pre ++ (own ++ B₁)) D (lst (ys ++ [.ref t]) (k + 1))).filter (fun q => decide (@Ne Nat q.1 I))) (fun q hq => ?_) (fun q hq => of_decide_eq_true (List.mem_filter.mp hq).2) ⟨turned_map hm, hne, fun q hq => keep (inB _ (hsub q hq)) (hne q hq) (hoff _ (hsub q hq)), ys ++ [.ref t], k + 1, List.mem_filter.mpr ⟨upd_self (inB _ hD), decide_eq_true hDI⟩, ?_, by rw [List.length_append, hlen]; rfl⟩
  · rcases List.mem_append.mp hq with hq | hq
    · refine upd_mem (inO _ hq) ?_
      rcases hown q hq with e | e
      · exact fun e2 => hDI (e2.symm.trans e)
      · exact fun e2 => hl (e.symm.trans e2)
    · exact (List.mem_filter.mp hq).1
  · rw [List.take_add_one, hp, Option.toList_some]
    exact (kz hz).snoc ⟨t, x, y, z, rfl, keep ht htD htI⟩
theorem all2_four {α : Type} {R : List (Addr × Obj) → Value → α → Prop} {B : List (Addr × Obj)} {ys : List Value} {a b c d : α} (h : All2 R B ys [a, b, c, d]) : ∃ v1 v2 v3 v4, ys = [v1, v2, v3, v4] ∧ R B v1 a ∧ R B v2 b ∧ R B v3 c ∧ R B v4 d := by
  cases h with
  | cons h1 h => cases h with
    | cons h2 h => cases h with
      | cons h3 h => cases h with
        | cons h4 h => cases h with
          | nil => exact ⟨_, _, _, _, rfl, h1, h2, h3, h4⟩
theorem nb_ne {h₀ h : Heap} {L : Addr} {B : List (Addr × Obj)} (N : News h₀ L h B) {x y : Nat} {a b c : UInt64} {i j k : Tok} {p : Px} (h1 : (x, tup [.float a i, .float b j, .float c k]) ∈ B) (h2 : (y, p.obj) ∈ B) : @Ne Nat x y := fun e => by
  subst e
  have q1 := (N _ h1).1
  have q2 := (N _ h2).1
  simp only at q1 q2
  rw [q1] at q2
  simp [tup, Px.obj] at q2
theorem nb_off {h₀ h : Heap} {L : Addr} {B : List (Addr × Obj)} (N : News h₀ L h B) {x : Nat} {a b c : UInt64} {i j k' : Tok} (h1 : (x, tup [.float a i, .float b j, .float c k']) ∈ B) {l t1 t2 t3 t4 : Addr} {vs : List Value} {k : Nat} {p1 p2 p3 p4 : Px}
    (hs : ∀ q ∈ [(l, lst vs k), (t1, p1.obj), (t2, p2.obj), (t3, p3.obj), (t4, p4.obj)], q ∈ B) : ∀ q ∈ [(l, lst vs k), (t1, p1.obj), (t2, p2.obj), (t3, p3.obj), (t4, p4.obj)], x ≠ q.1 :=
  mem_cons' (adr_ne N h1 (hs _ (.head _)) (show Value.type "tuple" ≠ Value.type "list" from by decide)) (mem_cons' (nb_ne N h1 (hs _ (.tail _ (.head _)))) (mem_cons' (nb_ne N h1 (hs _ (.tail _ (.tail _ (.head _))))) (mem_cons' (nb_ne N h1 (hs _ (.tail _ (.tail _ (.tail _ (.head _)))))) (mem_cons' (nb_ne N h1 (hs _ (.tail _ (.tail _ (.tail _ (.tail _ (.head _))))))) mem_nil'))))
end
section
local macro_rules | `(tactic| walk_at "eval ListComp") => `(tactic| (k_here; (with_reducible show wpAny _ _ (eval (Expr.ListComp _ [⟨_, _, [], _⟩] _ _) _) _ _ _); k_dflt (refine ListComp_G (t := none) (by k_asm) (by with_unfolding_all rfl) (by decide) (by rfl) (by decide) ?_)))
local macro_rules | `(tactic| walk_at "eval ListComp") => `(tactic| (k_here; (with_reducible show wpAny _ _ (eval (Expr.ListComp _ [⟨_, _, [_], _⟩] _ _) _) _ _ _); k_dflt (refine ListComp_G (t := some _) (by k_asm) (by with_unfolding_all rfl) (by decide) (by rfl) (by decide) ?_)))
local macro_rules | `(tactic| walk_at "exec Assign cons ListComp") => `(tactic| (k_here; (with_reducible show wpAny _ _ (exec (Stmt.Assign _ (Expr.ListComp _ [⟨_, _, [], _⟩] _ _) _) _) _ _ _); k_dflt (refine Assign_ListComp_G (t := none) (by k_asm) (by rfl) (by with_unfolding_all rfl) (by with_unfolding_all rfl) (by decide) (by rfl) (by decide) (by rfl) (by rfl) ?_)))
local macro_rules | `(tactic| walk_at "exec Assign cons ListComp") => `(tactic| (k_here; (with_reducible show wpAny _ _ (exec (Stmt.Assign _ (Expr.ListComp _ [⟨_, _, [_], _⟩] _ _) _) _) _ _ _); k_dflt (refine Assign_ListComp_G (t := some _) (by k_asm) (by rfl) (by with_unfolding_all rfl) (by with_unfolding_all rfl) (by decide) (by rfl) (by decide) (by rfl) (by rfl) ?_)))
local macro_rules | `(tactic| walk_at "SrcG") => `(tactic| (k_here; k_dflt (first
  | (refine src_three_l 4 (by rfl) (by k_asm) (by k_asm) (by k_mem) (by rfl) (Nat.le_of_ble_eq_true rfl) (by rfl) (by rfl) (by rfl) (by rfl) (by decide) (by decide) (by decide) ?_; intro g')
  | (refine src_name_l 3 (by rfl) (by k_asm) (by k_asm) (by k_mem) (by rfl) (Nat.le_of_ble_eq_true rfl) (by rfl) (by rfl) ?_; intro g')
  | (refine src_name_l 4 (by rfl) (by k_asm) (by k_asm) (by k_mem) (by rfl) (Nat.le_of_ble_eq_true rfl) (by rfl) (by rfl) ?_; intro g'))))
local macro_rules | `(tactic| walk_at "Turns") => `(tactic| (with_unfolding_all first
  | (refine Turns.three (by rfl) (by k_mem) (step_plain ?_); intro I' oI' C' oC' D' m' h' tk' E' hle9' hC' hB' F' N' off' hS' ne'; obtain ⟨hx', hy', hz'⟩ := hB'; have off9' := off'; (try simp only [LCg.Off3, and_true] at off9'))
  | (refine Turns.name (by rfl) (step_plain ?_); intro I' oI' C' oC' D' m' h' tk' E' hle9' hC' hx' F' N' off' hS' ne'; have off9' := off'; (try simp only [LCg.Off3, and_true] at off9'))
  | refine Turns.zero ?_))
local macro_rules | `(tactic| walk_at "CompEnd") => `(tactic| (k_dflt (refine compEnd_drop (by k_asm) (by k_asm) (by k_asm) (by k_asm) ?_ ?_; focus first | exact fun _ h => h | exact fun _ h => .tail _ h | exact fun _ h => .tail _ (.tail _ h) | exact fun _ h => .tail _ (.tail _ (.tail _ h)))))
local macro_rules | `(tactic| walk_at "CompEnd") => `(tactic| ((with_reducible show LCg.CompEnd _ _ _ _ _ _ _ _ _ _ _ _ (Value.ref _) _); k_dflt (first
  | refine compEnd_pre [_] (by k_asm) (by k_asm) (by k_asm) (by first | exact True.intro | exact srcAt_app _ (by k_asm)) (mem_cons' ⟨by k_ne, by k_ne, by k_ne⟩ mem_nil') ?_
  | refine compEnd_pre [_, _, _, _, _] (by k_asm) (by k_asm) (by k_asm) (by first | exact True.intro | exact srcAt_app _ (by k_asm)) (mem_cons' ⟨by k_ne, by k_ne, by k_ne⟩ (mem_cons' ⟨by k_ne, by k_ne, by k_ne⟩ (mem_cons' ⟨by k_ne, by k_ne, by k_ne⟩ (mem_cons' ⟨by k_ne, by k_ne, by k_ne⟩ (mem_cons' ⟨by k_ne, by k_ne, by k_ne⟩ mem_nil'))))) ?_); (try dsimp only [List.cons_append, List.nil_append])))
local macro_rules | `(tactic| walk_at "binaryOp Div int int") => `(tactic| (k_here; k_dflt (first
  | refine div4i rfl (px_r (by assumption)) ?_ | refine div4i rfl (px_g (by assumption)) ?_ | refine div4i rfl (px_b (by assumption)) ?_)))
local macro_rules | `(tactic| walk_at "binaryOp Div float int") => `(tactic| (k_here; k_dflt (refine div4f rfl ?_)))
local macro_rules | `(tactic| walk_at "call type:int") => `(tactic| (k_here; (with_reducible show wpAny _ _ (call (Value.type "int") [Value.float _ _]) _ _ _); k_dflt (first
  | refine int_tells rfl (tells_warm (by assumption)) ?_ | refine int_tells rfl (tells_cold (by assumption)) ?_ | refine int_tells rfl (tells_r (by assumption)) ?_ | refine int_tells rfl (tells_g (by assumption)) ?_ | refine int_tells rfl (tells_b (by assumption)) ?_)))
local macro_rules | `(tactic| walk_at "binaryOp Mult int float") => `(tactic| (k_here; k_dflt (refine mul_if_fits (lt_1023 (by decide)) ?_)))
local macro_rules | `(tactic| k_ne) => `(tactic| first | (refine neN (NeA.l ?_); with_reducible assumption) | (refine neN (NeA.r ?_); with_reducible assumption))
section
/-! F3 -/
local macro_rules | `(tactic| walk_at "call ref") => `(tactic| (k_here; (with_reducible show wpAny _ _ (call (Value.ref 21) _) _ _ _); k_dflt (refine' c_rgb ?C ?A _ _ _ _ _ _ ?_; (case C => exact ⟨by assumption, by assumption, Fr.keep (by k_asm)⟩); (case A => exact ⟨rfl, Nat.le_of_ble_eq_true rfl, Nat.le_of_ble_eq_true rfl⟩); k_whole); intro t9 x9 y9 z9 h9 tk9 e9 M9; ((with_reducible rename Fr _ _ _ _ => F8); (with_reducible rename News _ _ _ _ => N8); (have N' := news_made F8 N8 e9 M9); (have F' := fr_ext F8 e9); (have ne9 := made_apart N8 M9); (simp only [List.cons_append, List.nil_append] at N'); (try simp only [AllNe2, AllNe, and_true] at ne9); (repeat (obtain ⟨n9', ne9⟩ := ne9)); clear M9 N8 F8; (try dsimp only))))
local macro_rules | `(tactic| walk_at "SrcG") => `(tactic| (k_here; refine stubQ ?_))
local macro_rules | `(tactic| k_mem) => `(tactic| assumption)
def pheat (p : Px) : Int := heat p.r p.g p.b
def PxAt (B : List (Addr × Obj)) (v : Value) (p : Px) : Prop := ∃ t, v = .ref t ∧ (t, p.obj) ∈ B
theorem all_ok {p1 p2 p3 p4 : Px} (o1 : p1.Ok) (o2 : p2.Ok) (o3 : p3.Ok) (o4 : p4.Ok) : ∀ p ∈ [p1, p2, p3, p4], p.Ok := mem_cons' o1 (mem_cons' o2 (mem_cons' o3 (mem_cons' o4 mem_nil')))
theorem c_warmI {w : World} {mean : ExcName → Option Value} {mg mb : Str → Option Value} {G : Heap} {A : Around} {s : Shared} {Q E : Value → Shared → Prop}
    (C : Cx w mean mg mb G s.heap) (hA : Fits A 690 2900) (l t1 t2 t3 t4 : Addr) (k : Nat) (p1 p2 p3 p4 : Px) (o1 : p1.Ok) (o2 : p2.Ok) (o3 : p3.Ok) (o4 : p4.Ok)
    (O : Obs G s.heap [(l, lst [.ref t1, .ref t2, .ref t3, .ref t4] k), (t1, p1.obj), (t2, p2.obj), (t3, p3.obj), (t4, p4.obj)])
    (hQ : ∀ t n x1 x2 x3 x4 h' tk', Ext s.heap h' → Made s.heap h' [(t, lst [.int (heat p1.r p1.g p1.b) x1, .int (heat p2.r p2.g p2.b) x2, .int (heat p3.r p3.g p3.b) x3, .int (heat p4.r p4.g p4.b) x4] n)] → Q (.ref t) { s with heap := h', toks := tk' }) :
    wpAny (model PySem.Challenge.pw_wu0004_01 w) A (call (.ref 66) [.ref l]) Q E s := by
  refine' enterB (binds := [(PySem.Str.ofString "pixels", .ref l)]) (fun v l => ∃ t n x1 x2 x3 x4 w1 w2 w3 w4, v = .ref t ∧ l = [(t, lst [.int w1 x1, .int w2 x2, .int w3 x3, .int w4 x4] n)] ∧ w1 = heat p1.r p1.g p1.b ∧ w2 = heat p2.r p2.g p2.b ∧ w3 = heat p3.r p3.g p3.b ∧ w4 = heat p4.r p4.g p4.b) ([(l, lst [.ref t1, .ref t2, .ref t3, .ref t4] k), (t1, p1.obj), (t2, p2.obj), (t3, p3.obj), (t4, p4.obj)]) C hA ?hh ?hQ ?ho ?hcd ?hroom ?hbind ?hloc ?body ?hco ?hgen ?hk ?hcell
  (case ho => k_is)
  (case hcd => k_is)
  (case hroom => decide)
  (case hbind => exact BindsTo.of_eq rfl)
  (case hloc => exact locs rfl)
  (case hco => exact rfl)
  (case hgen => exact rfl)
  (case hk => exact rfl)
  (case hcell => decide)
  case hh => exact O
  case hQ =>
    rintro v l h' tk' e1 e2 ⟨t, n, x1, x2, x3, x4, w1, w2, w3, w4, rfl, rfl, rfl, rfl, rfl, rfl⟩
    exact hQ t n x1 x2 x3 x4 h' tk' e1 e2
  case body =>
    intro g' L' h1 tk1 hle1 hg FG N' KX T l1
    (try simp only [List.length_cons, List.length_nil] at hle1)
    (try k_lt l1)
    try dsimp only
    try k_fold
    k_steps
    refine Mark.mk ?_
    with_reducible rename News _ _ _ _ => N9
    with_reducible rename Fr _ _ _ _ => F9
    have hok := all_ok o1 o2 o3 o4
    obtain ⟨B, hB⟩ : ∃ B, B = [(l, lst [.ref t1, .ref t2, .ref t3, .ref t4] k), (t1, p1.obj), (t2, p2.obj), (t3, p3.obj), (t4, p4.obj)] := ⟨_, rfl⟩
    have hsrc : All2 PxAt B [.ref t1, .ref t2, .ref t3, .ref t4] [p1, p2, p3, p4] := by
      subst hB
      (try simp only [LCg.Off1, and_true] at o1')
      exact .cons ⟨t1, rfl, .tail _ (.head _)⟩ (.cons ⟨t2, rfl, .tail _ (.tail _ (.head _))⟩ (.cons ⟨t3, rfl, .tail _ (.tail _ (.tail _ (.head _)))⟩ (.cons ⟨t4, rfl, .tail _ (.tail _ (.tail _ (.tail _ (.head _))))⟩ .nil)))
    have hl : (l, lst [.ref t1, .ref t2, .ref t3, .ref t4] k) ∈ B := by subst hB; exact .head _
    rw [← hB] at N9
    clear o1 o2 o3 o4
    refine src_three_l 4 (by rfl) F9 N9 hl (by rfl) (Nat.le_of_ble_eq_true rfl) (by rfl) (by rfl) (by rfl) (by rfl) (by decide) (by decide) (by decide) ?_
    intro g9
    refine turns_same (n := 4) (fun i ys => IntsAre ys (([p1, p2, p3, p4].take i).map pheat)) ?_ ?_ _ 0 [] (Nat.zero_add _) .nil
    · rintro i zs v hi hJ hv
      obtain ⟨p, hp, t, rfl, ht⟩ := hsrc.get (by simpa using hv)
      have ok := hok p (List.mem_of_getElem? hp)
      refine ⟨⟨t, _, _, _, _, rfl, ht⟩, step_plain ?_⟩
      intro I' oI' C' oC' D' m' h' tk' E' hle9' hC' hx' F' N' off' hS' ne'
      obtain ⟨hx1, hx2, hx3⟩ := bd3_get N' (fun q hq => .tail _ (.tail _ (.tail _ hq))) ht hx'
      have off9' := off'
      clear hx' hsrc hl hok ht
      (try dsimp only)
      (try k_fold)
      k_steps
      exact ints_mapA hJ hp (by unfold pheat; omega)
    · rintro zs hJ
      obtain ⟨ta, tb, tc, td, rfl⟩ := ints4 (show IntsAre zs [pheat p1, pheat p2, pheat p3, pheat p4] from hJ)
      unfold LCg.FinE
      intro D' h' tk' F' N' o1'
      (try dsimp only)
      k_steps
      subst hB
      (try simp only [LCg.Off1, and_true] at o1')
      (with_reducible rename Fr _ _ _ _ => F9)
      (with_reducible rename News _ _ _ _ => N9)
      refine back_one F9 N9 hg (by k_mem) (by repeat' (first | exact mem_nil' | (refine mem_cons' ?_ ?_; k_mem))) (by repeat' (first | exact mem_nil' | (refine mem_cons' ?_ ?_; k_ne))) ?_
      exact ⟨_, _, _, _, _, _, _, _, _, _, rfl, rfl, rfl, rfl, rfl, rfl⟩
/-- the negative's pixel -/
abbrev nob (p : Px) (x y z : Tok) : Obj := tup [.float (nR (q4 p.r) (q4 p.g) (q4 p.b)) x, .float (nG (q4 p.r) (q4 p.g) (q4 p.b)) y, .float (nB (q4 p.r) (q4 p.g) (q4 p.b)) z]

theorem c_warmF {w : World} {mean : ExcName → Option Value} {mg mb : Str → Option Value} {G : Heap} {A : Around} {s : Shared} {Q E : Value → Shared → Prop}
    (C : Cx w mean mg mb G s.heap) (hA : Fits A 690 2900) (l t1 t2 t3 t4 : Addr) (k : Nat) (p1 p2 p3 p4 : Px) (o1 : p1.Ok) (o2 : p2.Ok) (o3 : p3.Ok) (o4 : p4.Ok) (a1 b1 d1 a2 b2 d2 a3 b3 d3 a4 b4 d4 : Tok)
    (O : Obs G s.heap [(l, lst [.ref t1, .ref t2, .ref t3, .ref t4] k), (t1, nob p1 a1 b1 d1), (t2, nob p2 a2 b2 d2), (t3, nob p3 a3 b3 d3), (t4, nob p4 a4 b4 d4)])
    (hQ : ∀ t n x1 x2 x3 x4 h' tk', Ext s.heap h' → Made s.heap h' [(t, lst [.int (-heat p1.r p1.g p1.b) x1, .int (-heat p2.r p2.g p2.b) x2, .int (-heat p3.r p3.g p3.b) x3, .int (-heat p4.r p4.g p4.b) x4] n)] → Q (.ref t) { s with heap := h', toks := tk' }) :
    wpAny (model PySem.Challenge.pw_wu0004_01 w) A (call (.ref 66) [.ref l]) Q E s := by
  refine' enterB (binds := [(PySem.Str.ofString "pixels", .ref l)]) (fun v l => ∃ t n x1 x2 x3 x4 w1 w2 w3 w4, v = .ref t ∧ l = [(t, lst [.int w1 x1, .int w2 x2, .int w3 x3, .int w4 x4] n)] ∧ w1 = -heat p1.r p1.g p1.b ∧ w2 = -heat p2.r p2.g p2.b ∧ w3 = -heat p3.r p3.g p3.b ∧ w4 = -heat p4.r p4.g p4.b) ([(l, lst [.ref t1, .ref t2, .ref t3, .ref t4] k), (t1, nob p1 a1 b1 d1), (t2, nob p2 a2 b2 d2), (t3, nob p3 a3 b3 d3), (t4, nob p4 a4 b4 d4)]) C hA ?hh ?hQ ?ho ?hcd ?hroom ?hbind ?hloc ?body ?hco ?hgen ?hk ?hcell
  (case ho => k_is)
  (case hcd => k_is)
  (case hroom => decide)
  (case hbind => exact BindsTo.of_eq rfl)
  (case hloc => exact locs rfl)
  (case hco => exact rfl)
  (case hgen => exact rfl)
  (case hk => exact rfl)
  (case hcell => decide)
  case hh => exact O
  case hQ =>
    rintro v l h' tk' e1 e2 ⟨t, n, x1, x2, x3, x4, w1, w2, w3, w4, rfl, rfl, rfl, rfl, rfl, rfl⟩
    exact hQ t n x1 x2 x3 x4 h' tk' e1 e2
  case body =>
    intro g' L' h1 tk1 hle1 hg FG N' KX T l1
    (try simp only [List.length_cons, List.length_nil] at hle1)
    (try k_lt l1)
    try dsimp only
    try k_fold
    k_steps
    refine Mark.mk ?_
    with_reducible rename News _ _ _ _ => N9
    with_reducible rename Fr _ _ _ _ => F9
    have hok := all_ok o1 o2 o3 o4
    obtain ⟨B, hB⟩ : ∃ B, B = [(l, lst [.ref t1, .ref t2, .ref t3, .ref t4] k), (t1, nob p1 a1 b1 d1), (t2, nob p2 a2 b2 d2), (t3, nob p3 a3 b3 d3), (t4, nob p4 a4 b4 d4)] := ⟨_, rfl⟩
    have hsrc : All2 NbAt B [.ref t1, .ref t2, .ref t3, .ref t4] [p1, p2, p3, p4] := by
      subst hB
      (try simp only [LCg.Off1, and_true] at o1')
      exact .cons ⟨t1, _, _, _, rfl, .tail _ (.head _)⟩ (.cons ⟨t2, _, _, _, rfl, .tail _ (.tail _ (.head _))⟩ (.cons ⟨t3, _, _, _, rfl, .tail _ (.tail _ (.tail _ (.head _)))⟩ (.cons ⟨t4, _, _, _, rfl, .tail _ (.tail _ (.tail _ (.tail _ (.head _))))⟩ .nil)))
    have hl : (l, lst [.ref t1, .ref t2, .ref t3, .ref t4] k) ∈ B := by subst hB; exact .head _
    rw [← hB] at N9
    clear o1 o2 o3 o4
    refine src_three_l 4 (by rfl) F9 N9 hl (by rfl) (Nat.le_of_ble_eq_true rfl) (by rfl) (by rfl) (by rfl) (by rfl) (by decide) (by decide) (by decide) ?_
    intro g9
    refine turns_same (n := 4) (fun i ys => IntsAre ys (([p1, p2, p3, p4].take i).map (fun p => -pheat p))) ?_ ?_ _ 0 [] (Nat.zero_add _) .nil
    · rintro i zs v hi hJ hv
      obtain ⟨p, hp, t, x, y, z, rfl, ht⟩ := hsrc.get (by simpa using hv)
      have ok := hok p (List.mem_of_getElem? hp)
      refine ⟨⟨t, _, _, _, _, rfl, ht⟩, step_plain ?_⟩
      intro I' oI' C' oC' D' m' h' tk' E' hle9' hC' hx' F' N' off' hS' ne'
      obtain ⟨hx1, hx2, hx3⟩ := bd3_get N' (fun q hq => .tail _ (.tail _ (.tail _ hq))) ht hx'
      have off9' := off'
      clear hx' hsrc hl hok ht
      (try dsimp only)
      (try k_fold)
      k_steps
      exact ints_mapA hJ hp (by unfold pheat; omega)
    · rintro zs hJ
      obtain ⟨ta, tb, tc, td, rfl⟩ := ints4 (show IntsAre zs [-pheat p1, -pheat p2, -pheat p3, -pheat p4] from hJ)
      unfold LCg.FinE
      intro D' h' tk' F' N' o1'
      (try dsimp only)
      k_steps
      subst hB
      (try simp only [LCg.Off1, and_true] at o1')
      (with_reducible rename Fr _ _ _ _ => F9)
      (with_reducible rename News _ _ _ _ => N9)
      refine back_one F9 N9 hg (by k_mem) (by repeat' (first | exact mem_nil' | (refine mem_cons' ?_ ?_; k_mem))) (by repeat' (first | exact mem_nil' | (refine mem_cons' ?_ ?_; k_ne))) ?_
      exact ⟨_, _, _, _, _, _, _, _, _, _, rfl, rfl, rfl, rfl, rfl, rfl⟩
end
section
/-! F4 -/
local macro_rules | `(tactic| walk_at "call ref") => `(tactic| (k_here; (with_reducible show wpAny _ _ (call (Value.ref 21) _) _ _ _); k_dflt (refine' c_rgb ?C ?A _ _ _ _ _ _ ?_; (case C => exact ⟨by assumption, by assumption, Fr.keep (by k_asm)⟩); (case A => exact ⟨rfl, Nat.le_of_ble_eq_true rfl, Nat.le_of_ble_eq_true rfl⟩); k_whole); intro t9 x9 y9 z9 h9 tk9 e9 M9; ((with_reducible rename Fr _ _ _ _ => F8); (with_reducible rename News _ _ _ _ => N8); (have N' := news_made F8 N8 e9 M9); (have F' := fr_ext F8 e9); (have ne9 := made_apart N8 M9); (simp only [List.cons_append, List.nil_append] at N'); (try simp only [AllNe2, AllNe, and_true] at ne9); (repeat (obtain ⟨n9', ne9⟩ := ne9)); clear M9 N8 F8; (try dsimp only))))
local macro_rules | `(tactic| walk_at "call ref") => `(tactic| (k_here; (with_reducible show wpAny _ _ (call (Value.ref 28) _) _ _ _); k_dflt (refine' c_yiq ?C ?A _ _ _ _ _ _ ?_; (case C => exact ⟨by assumption, by assumption, Fr.keep (by k_asm)⟩); (case A => exact ⟨rfl, Nat.le_of_ble_eq_true rfl, Nat.le_of_ble_eq_true rfl⟩); k_whole); intro t9 x9 y9 z9 h9 tk9 e9 M9; ((with_reducible rename Fr _ _ _ _ => F8); (with_reducible rename News _ _ _ _ => N8); (have N' := news_made F8 N8 e9 M9); (have F' := fr_ext F8 e9); (have ne9 := made_apart N8 M9); (simp only [List.cons_append, List.nil_append] at N'); (try simp only [AllNe2, AllNe, and_true] at ne9); (repeat (obtain ⟨n9', ne9⟩ := ne9)); clear M9 N8 F8; (try dsimp only))))
local macro_rules | `(tactic| walk_at "exec For Tuple Name cons nil") => `(tactic| (k_here; refine stubQ ?_))
local macro_rules | `(tactic| walk_at "pyIter ref") => `(tactic| (k_here; refine stubQ ?_))
local macro_rules | `(tactic| walk_at "call builtin:list.append") => `(tactic| (k_here; refine stubQ ?_))
local macro_rules | `(tactic| k_mem) => `(tactic| assumption)
theorem c_negative {w : World} {mean : ExcName → Option Value} {mg mb : Str → Option Value} {G : Heap} {A : Around} {s : Shared} {Q E : Value → Shared → Prop}
    (C : Cx w mean mg mb G s.heap) (hA : Fits A 690 2900) (l t1 t2 t3 t4 : Addr) (k : Nat) (p1 p2 p3 p4 : Px) (o1 : p1.Ok) (o2 : p2.Ok) (o3 : p3.Ok) (o4 : p4.Ok)
    (O : Obs G s.heap [(l, lst [.ref t1, .ref t2, .ref t3, .ref t4] k), (t1, p1.obj), (t2, p2.obj), (t3, p3.obj), (t4, p4.obj)])
    (hQ : ∀ t n n1 n2 n3 n4 a1 b1 d1 a2 b2 d2 a3 b3 d3 a4 b4 d4 h' tk', Ext s.heap h' → Made s.heap h' [(t, lst [.ref n1, .ref n2, .ref n3, .ref n4] n), (n1, nob p1 a1 b1 d1), (n2, nob p2 a2 b2 d2), (n3, nob p3 a3 b3 d3), (n4, nob p4 a4 b4 d4)] → Q (.ref t) { s with heap := h', toks := tk' }) :
    wpAny (model PySem.Challenge.pw_wu0004_01 w) A (call (.ref 73) [.ref l]) Q E s := by
  refine' enterB (binds := [(PySem.Str.ofString "pixels", .ref l)]) (fun v l => ∃ t n n1 n2 n3 n4 a1 b1 d1 a2 b2 d2 a3 b3 d3 a4 b4 d4, v = .ref t ∧ l = [(t, lst [.ref n1, .ref n2, .ref n3, .ref n4] n), (n1, nob p1 a1 b1 d1), (n2, nob p2 a2 b2 d2), (n3, nob p3 a3 b3 d3), (n4, nob p4 a4 b4 d4)]) ([(l, lst [.ref t1, .ref t2, .ref t3, .ref t4] k), (t1, p1.obj), (t2, p2.obj), (t3, p3.obj), (t4, p4.obj)]) C hA ?hh ?hQ ?ho ?hcd ?hroom ?hbind ?hloc ?body ?hco ?hgen ?hk ?hcell
  (case ho => k_is)
  (case hcd => k_is)
  (case hroom => decide)
  (case hbind => exact BindsTo.of_eq rfl)
  (case hloc => exact locs rfl)
  (case hco => exact rfl)
  (case hgen => exact rfl)
  (case hk => exact rfl)
  (case hcell => decide)
  case hh => exact O
  case hQ =>
    rintro v l h' tk' e1 e2 ⟨t, n, n1, n2, n3, n4, a1, b1, d1, a2, b2, d2, a3, b3, d3, a4, b4, d4, rfl, rfl⟩
    exact hQ t n n1 n2 n3 n4 a1 b1 d1 a2 b2 d2 a3 b3 d3 a4 b4 d4 h' tk' e1 e2
  case body =>
    intro g' L' h1 tk1 hle1 hg FG N' KX T l1
    (try simp only [List.length_cons, List.length_nil] at hle1)
    (try k_lt l1)
    try dsimp only
    try k_fold
    k_steps
    refine Mark.mk ?_
    with_reducible rename News _ _ _ _ => N9
    with_reducible rename Fr _ _ _ _ => F9
    refine For_invTF F9 ?_ (by intro _; rfl)
    k_steps
    refine Mark.mk ?_
    have hsrc : All2 PxAt [(l, lst [.ref t1, .ref t2, .ref t3, .ref t4] k), (t1, p1.obj), (t2, p2.obj), (t3, p3.obj), (t4, p4.obj)] [.ref t1, .ref t2, .ref t3, .ref t4] [p1, p2, p3, p4] := .cons ⟨t1, rfl, .tail _ (.head _)⟩ (.cons ⟨t2, rfl, .tail _ (.tail _ (.head _))⟩ (.cons ⟨t3, rfl, .tail _ (.tail _ (.tail _ (.head _)))⟩ (.cons ⟨t4, rfl, .tail _ (.tail _ (.tail _ (.tail _ (.head _))))⟩ .nil)))
    have hok := all_ok o1 o2 o3 o4
    refine iter_lst (k := k) (JN _ [(l, lst [.ref t1, .ref t2, .ref t3, .ref t4] k), (t1, p1.obj), (t2, p2.obj), (t3, p3.obj), (t4, p4.obj)] [p1, p2, p3, p4]) (by rfl) F9 N9 (.tail _ (.head _)) ⟨⟨_, rfl⟩, mem_cons' (by k_ne) (mem_cons' (by k_ne) (mem_cons' (by k_ne) (mem_cons' (by k_ne) (mem_cons' (by k_ne) mem_nil')))), fun q hq => .tail _ hq, [], 0, .head _, .nil, rfl⟩ ?_ ?_
    · clear N9 F9
      rintro i v I own m₁ B₁ s₁ hi hv ⟨⟨u, rfl⟩, hne, hsub, ys, kk, hD, hz, hlen⟩ hoff hown hI F N
      obtain ⟨p, hp, t, rfl, ht⟩ := hsrc.get hv
      have hl := hne _ (.head _)
      have ok := hok p (List.mem_of_getElem? hp)
      clear o1 o2 o3 o4 hok
      replace N : News g' L' _ _ := N
      replace F : Fr g' L' _ _ := F
      have ht2 : (t, p.obj) ∈ own ++ B₁ := List.mem_append_right _ (hsub _ ht)
      have hD2 := List.mem_append_right own hD
      (try dsimp only)
      k_steps
      refine Mark.mk ?_
      with_reducible rename News _ _ _ _ => N8
      with_reducible rename Fr _ _ _ _ => F8
      have mD := hD2
      refine append_U F8 N8 (.tail _ (.tail _ (.tail _ mD))) (by rw [hlen]; simp only [List.length_cons, List.length_nil] at hi; omega) ?_
      intro h7 F7 N7
      k_steps
      exact neg_end (pre := [_, _, _]) N8 F7 N7 (by rfl) hne hsub hD hz hlen hp hoff hown hI hl (.head _)
    · rintro h6 tk6 m6 B6 ⟨⟨u, rfl⟩, hne, hsub, ys, kk, hD, hz, hlen⟩ F N
      replace N : News g' L' _ _ := N
      replace F : Fr g' L' _ _ := F
      (try dsimp only)
      k_steps
      obtain ⟨_, _, _, _, rfl, ⟨n1, x1, y1, z1, rfl, m1⟩, ⟨n2, x2, y2, z2, rfl, m2⟩, ⟨n3, x3, y3, z3, rfl, m3⟩, ⟨n4, x4, y4, z4, rfl, m4⟩⟩ := all2_four (show All2 NbAt B6 ys [p1, p2, p3, p4] from hz)
      exact back_mk F N hg ⟨_, _, _, _, _, _, _, _, _, _, _, _, _, _, _, _, _, _, rfl, rfl⟩ hsub (mem_cons' hD (mem_cons' m1 (mem_cons' m2 (mem_cons' m3 (mem_cons' m4 mem_nil'))))) (mem_cons' (fun q hq => Ne.symm (hne q hq)) (mem_cons' (nb_off N m1 hsub) (mem_cons' (nb_off N m2 hsub) (mem_cons' (nb_off N m3 hsub) (mem_cons' (nb_off N m4 hsub) mem_nil')))))
end
section
/-! F5 -/
/-- the negative's pixel, in whole fourths -/
abbrev rob (p : Px) (x y z : Tok) : Obj := tup [.int (4 - p.r) x, .int (4 - p.g) y, .int (4 - p.b) z]
local macro_rules | `(tactic| walk_at "SrcG") => `(tactic| (k_here; refine stubQ ?_))
local macro_rules | `(tactic| k_mem) => `(tactic| assumption)
def RbAt (B : List (Addr × Obj)) (v : Value) (p : Px) : Prop := ∃ t x y z, v = .ref t ∧ (t, rob p x y z) ∈ B
theorem mRbAt : Mono RbAt := fun _ _ _ _ hs ⟨t, x, y, z, e, m⟩ => ⟨t, x, y, z, e, hs _ m⟩
theorem rb_ne {h₀ h : Heap} {L : Addr} {B : List (Addr × Obj)} (N : News h₀ L h B) {x y : Nat} {a b c : UInt64} {i j k i' j' k' : Tok} {p : Px} (h1 : (x, rob p i' j' k') ∈ B) (h2 : (y, tup [.float a i, .float b j, .float c k]) ∈ B) : @Ne Nat x y := fun e => by
  subst e
  have q1 := (N _ h1).1
  have q2 := (N _ h2).1
  simp only at q1 q2
  rw [q1] at q2
  simp [tup] at q2
theorem c_rounded {w : World} {mean : ExcName → Option Value} {mg mb : Str → Option Value} {G : Heap} {A : Around} {s : Shared} {Q E : Value → Shared → Prop}
    (C : Cx w mean mg mb G s.heap) (hA : Fits A 690 2900) (l t1 t2 t3 t4 : Addr) (k : Nat) (p1 p2 p3 p4 : Px) (o1 : p1.Ok) (o2 : p2.Ok) (o3 : p3.Ok) (o4 : p4.Ok) (a1 b1 d1 a2 b2 d2 a3 b3 d3 a4 b4 d4 : Tok)
    (O : Obs G s.heap [(l, lst [.ref t1, .ref t2, .ref t3, .ref t4] k), (t1, nob p1 a1 b1 d1), (t2, nob p2 a2 b2 d2), (t3, nob p3 a3 b3 d3), (t4, nob p4 a4 b4 d4)])
    (hQ : ∀ t n n1 n2 n3 n4 a1 b1 d1 a2 b2 d2 a3 b3 d3 a4 b4 d4 h' tk', Ext s.heap h' → Made s.heap h' [(t, lst [.ref n1, .ref n2, .ref n3, .ref n4] n), (n1, rob p1 a1 b1 d1), (n2, rob p2 a2 b2 d2), (n3, rob p3 a3 b3 d3), (n4, rob p4 a4 b4 d4)] → Q (.ref t) { s with heap := h', toks := tk' }) :
    wpAny (model PySem.Challenge.pw_wu0004_01 w) A (call (.ref 78) [.ref l]) Q E s := by
  refine' enterB (binds := [(PySem.Str.ofString "pixels", .ref l)]) (fun v l => ∃ t n n1 n2 n3 n4 a1 b1 d1 a2 b2 d2 a3 b3 d3 a4 b4 d4, v = .ref t ∧ l = [(t, lst [.ref n1, .ref n2, .ref n3, .ref n4] n), (n1, rob p1 a1 b1 d1), (n2, rob p2 a2 b2 d2), (n3, rob p3 a3 b3 d3), (n4, rob p4 a4 b4 d4)]) ([(l, lst [.ref t1, .ref t2, .ref t3, .ref t4] k), (t1, nob p1 a1 b1 d1), (t2, nob p2 a2 b2 d2), (t3, nob p3 a3 b3 d3), (t4, nob p4 a4 b4 d4)]) C hA ?hh ?hQ ?ho ?hcd ?hroom ?hbind ?hloc ?body ?hco ?hgen ?hk ?hcell
  (case ho => k_is)
  (case hcd => k_is)
  (case hroom => decide)
  (case hbind => exact BindsTo.of_eq rfl)
  (case hloc => exact locs rfl)
  (case hco => exact rfl)
  (case hgen => exact rfl)
  (case hk => exact rfl)
  (case hcell => decide)
  case hh => exact O
  case hQ =>
    rintro v l h' tk' e1 e2 ⟨t, n, n1, n2, n3, n4, a1, b1, d1, a2, b2, d2, a3, b3, d3, a4, b4, d4, rfl, rfl⟩
    exact hQ t n n1 n2 n3 n4 a1 b1 d1 a2 b2 d2 a3 b3 d3 a4 b4 d4 h' tk' e1 e2
  case body =>
    intro g' L' h1 tk1 hle1 hg FG N' KX T l1
    (try simp only [List.length_cons, List.length_nil] at hle1)
    (try k_lt l1)
    try dsimp only
    try k_fold
    k_steps
    refine Mark.mk ?_
    with_reducible rename News _ _ _ _ => N9
    with_reducible rename Fr _ _ _ _ => F9
    have hok := all_ok o1 o2 o3 o4
    obtain ⟨B, hB⟩ : ∃ B, B = [(l, lst [.ref t1, .ref t2, .ref t3, .ref t4] k), (t1, nob p1 a1 b1 d1), (t2, nob p2 a2 b2 d2), (t3, nob p3 a3 b3 d3), (t4, nob p4 a4 b4 d4)] := ⟨_, rfl⟩
    have hsrc : All2 NbAt B [.ref t1, .ref t2, .ref t3, .ref t4] [p1, p2, p3, p4] := by
      subst hB
      exact .cons ⟨t1, _, _, _, rfl, .tail _ (.head _)⟩ (.cons ⟨t2, _, _, _, rfl, .tail _ (.tail _ (.head _))⟩ (.cons ⟨t3, _, _, _, rfl, .tail _ (.tail _ (.tail _ (.head _)))⟩ (.cons ⟨t4, _, _, _, rfl, .tail _ (.tail _ (.tail _ (.tail _ (.head _))))⟩ .nil)))
    have hl : (l, lst [.ref t1, .ref t2, .ref t3, .ref t4] k) ∈ B := by subst hB; exact .head _
    rw [← hB] at N9
    clear o1 o2 o3 o4
    refine src_three_l 4 (by rfl) F9 N9 hl (by rfl) (Nat.le_of_ble_eq_true rfl) (by rfl) (by rfl) (by rfl) (by rfl) (by decide) (by decide) (by decide) ?_
    intro g9
    refine turns_ind (n := 4) (JM RbAt B [p1, p2, p3, p4]) ?_ ?_ _ 0 [] B (Nat.zero_add _) ⟨fun p hp => hp, .nil⟩
    · rintro i zs news v hi hJ hv
      obtain ⟨p, hp, t, x, y, z, rfl, ht⟩ := hsrc.get (by simpa using hv)
      have ok := hok p (List.mem_of_getElem? hp)
      replace ht := hJ.1 _ ht
      refine ⟨⟨t, _, _, _, _, rfl, ht⟩, step_plain ?_⟩
      intro I' oI' C' oC' D' m' h' tk' E' hle9' hC' hx' F' N' off' hS' ne'
      obtain ⟨hx1, hx2, hx3⟩ := bd3_get N' (fun q hq => .tail _ (.tail _ (.tail _ hq))) ht hx'
      have off9' := off'
      clear hx' hsrc hl hok ht
      (try dsimp only)
      (try k_fold)
      k_steps
      exact hJ.step (new := [_]) mRbAt hp ⟨_, _, _, _, rfl, .head _⟩
    · rintro zs news hJ
      obtain ⟨hsub, hz⟩ := hJ.fin (Nat.le_refl _)
      unfold LCg.FinE
      intro D' h' tk' F' N' o1'
      (try dsimp only)
      k_steps
      obtain ⟨_, _, _, _, rfl, ⟨n1, x1, y1, z1, rfl, m1⟩, ⟨n2, x2, y2, z2, rfl, m2⟩, ⟨n3, x3, y3, z3, rfl, m3⟩, ⟨n4, x4, y4, z4, rfl, m4⟩⟩ := all2_four hz
      subst hB
      have off1 : ∀ (B : List (Addr × Obj)), LCg.Off1 D' B → ∀ q ∈ B, @Ne Nat D' q.1 := by
        intro B
        induction B with
        | nil => intro _ q hq; cases hq
        | cons p r ih =>
          intro h q hq
          rcases List.mem_cons.mp hq with rfl | hq
          · exact Ne.symm h.1
          · exact ih h.2 q hq
      have hin : ∀ q ∈ [(l, lst [.ref t1, .ref t2, .ref t3, .ref t4] k), (t1, nob p1 a1 b1 d1), (t2, nob p2 a2 b2 d2), (t3, nob p3 a3 b3 d3), (t4, nob p4 a4 b4 d4)], q ∈ news := hsub
      have N2 : News g' L' h' news := fun q hq => N' q (.tail _ hq)
      have ro : ∀ {n : Nat} {p : Px} {x y z : Tok}, (n, rob p x y z) ∈ news → ∀ q ∈ [(l, lst [.ref t1, .ref t2, .ref t3, .ref t4] k), (t1, nob p1 a1 b1 d1), (t2, nob p2 a2 b2 d2), (t3, nob p3 a3 b3 d3), (t4, nob p4 a4 b4 d4)], @Ne Nat n q.1 := fun {n p x y z} m =>
        mem_cons' (adr_ne N2 m (hin _ (.head _)) (show Value.type "tuple" ≠ Value.type "list" from by decide)) (mem_cons' (rb_ne N2 m (hin _ (.tail _ (.head _)))) (mem_cons' (rb_ne N2 m (hin _ (.tail _ (.tail _ (.head _))))) (mem_cons' (rb_ne N2 m (hin _ (.tail _ (.tail _ (.tail _ (.head _)))))) (mem_cons' (rb_ne N2 m (hin _ (.tail _ (.tail _ (.tail _ (.tail _ (.head _))))))) mem_nil'))))
      exact back_mk F' N' hg ⟨_, _, _, _, _, _, _, _, _, _, _, _, _, _, _, _, _, _, rfl, rfl⟩ (fun q hq => .tail _ (hin q hq)) (mem_cons' (.head _) (mem_cons' (.tail _ m1) (mem_cons' (.tail _ m2) (mem_cons' (.tail _ m3) (mem_cons' (.tail _ m4) mem_nil'))))) (mem_cons' (fun q hq => off1 _ o1' q (hin q hq)) (mem_cons' (ro m1) (mem_cons' (ro m2) (mem_cons' (ro m3) (mem_cons' (ro m4) mem_nil')))))
end
section
/-! F6 -/
theorem c_edges {w : World} {mean : ExcName → Option Value} {mg mb : Str → Option Value} {G : Heap} {A : Around} {s : Shared} {Q E : Value → Shared → Prop}
    (C : Cx w mean mg mb G s.heap) (hA : Fits A 690 2900) (l : Addr) (vs : List Value) (ws : List Int) (k : Nat) (hI : IntsAre vs ws) (hlen : ws.length ≤ 4)
    (O : Obs G s.heap [(l, lst vs k)])
    (hQ : ∀ t n ys h' tk', Ext s.heap h' → Made s.heap h' [(t, lst ys n)] → IntsAre ys (edgesOf ws) → Q (.ref t) { s with heap := h', toks := tk' }) :
    wpAny (model PySem.Challenge.pw_wu0004_01 w) A (call (.ref 83) [.ref l]) Q E s := by
  refine' enterB (binds := [(PySem.Str.ofString "warmths", .ref l)]) (fun v l => ∃ t n ys, v = .ref t ∧ l = [(t, lst ys n)] ∧ IntsAre ys (edgesOf ws)) ([(l, lst vs k)]) C hA ?hh ?hQ ?ho ?hcd ?hroom ?hbind ?hloc ?body ?hco ?hgen ?hk ?hcell
  (case ho => k_is)
  (case hcd => k_is)
  (case hroom => decide)
  (case hbind => exact BindsTo.of_eq rfl)
  (case hloc => exact locs rfl)
  (case hco => exact rfl)
  (case hgen => exact rfl)
  (case hk => exact rfl)
  (case hcell => decide)
  case hh => exact O
  case hQ =>
    rintro v l h' tk' e1 e2 ⟨t, n, ys, rfl, rfl, i1⟩
    exact hQ t n ys h' tk' e1 e2 i1
  case body =>
    intro g' L' h1 tk1 hle1 hg FG N' KX T l1
    (try simp only [List.length_cons, List.length_nil] at hle1)
    (try k_lt l1)
    try dsimp only
    try k_fold
    k_steps
    have hvl := ints_len hI
    refine src_name_l vs.length (by rfl) (by k_asm) (by k_asm) (by k_mem) (by simp) (by rw [PySem.sizeLine_eq]; omega) (by rfl) (by rfl) ?_
    intro g9
    refine turns_ind (n := vs.length) (fun i ys news => news = [(l, lst vs k)] ∧ IntsAre ys (edgesOf (ws.take i))) ?step ?fin _ 0 [] _ (by simp) ⟨rfl, by simpa [edgesOf] using IntsAre.nil⟩
    case step =>
      rintro i ys news v hi ⟨rfl, hJ⟩ hv
      obtain ⟨w9, tk9, rfl, hw9⟩ := ints_get hI (by simpa using hv)
      refine ⟨trivial, step_test ?_⟩
      intro I' oI' C' oC' D' m' h' tk' E' hle9' hC' hx' F' N' off' hS' ne'
      unfold BdName at hx'
      have off9' := off'
      (try simp only [LCg.Off3, and_true] at off9')
      (try dsimp only)
      (try k_fold)
      k_steps
      all_goals first | exact edges_up hw9 (by assumption) (by assumption) hJ | exact edges_down hw9 (by assumption) (by assumption) hJ | exact edges_flat hw9 (by omega) hJ
    case fin =>
      rintro ys news ⟨rfl, hJ⟩
      rw [hvl, List.take_length] at hJ
      unfold LCg.FinE
      intro D' h' tk' F' N' o1'
      (try simp only [LCg.Off1, and_true] at o1')
      (try dsimp only)
      (with_reducible rename Fr _ _ _ _ => F9)
      (with_reducible rename News _ _ _ _ => N9)
      refine back_one F9 N9 hg (by k_mem) (by repeat' (first | exact mem_nil' | (refine mem_cons' ?_ ?_; k_mem))) (by repeat' (first | exact mem_nil' | (refine mem_cons' ?_ ?_; k_ne))) ?_
      exact ⟨_, _, _, rfl, rfl, hJ⟩
end
section
/-! F7 -/
local macro_rules | `(tactic| walk_at "exec For Name Name cons nil") => `(tactic| (k_here; (with_unfolding_all refine' For_invVF ?kF ?k1 ?k2 ?_; (case kF => k_asm); (case k1 => exact rfl); (case k2 => exact rfl); k_whole)))
local macro_rules | `(tactic| walk_at "subscriptTail") => `(tactic| (k_here; (with_reducible show wpAny _ _ (subscriptTail _ _ (Value.ref _) (Value.int 0 _)) _ _ _); k_dflt (refine item0 (by k_asm) (by assumption) (by assumption) (ne_nil_of (by assumption)) ?_; intro t9)))
local macro_rules | `(tactic| walk_at "pyIter ref") => `(tactic| (k_here; k_dflt (refine iter_W (by rfl) (by assumption) (by assumption) (by k_asm) (by k_asm) ?_ ?_ ?_)))
local macro_rules | `(tactic| walk_at "binaryOp Mult int int") => `(tactic| (k_here; k_dflt (refine mul_int (hm := IntMulOk.of_left (pm_bits (by assumption) (by assumption))) ?_)))
local macro_rules | `(tactic| walk_at "InvEnd") => `(tactic| (k_dflt (refine InvEnd.intro (by k_asm) (by k_asm) (fun p hp => hp) ?_)))
theorem c_worth {w : World} {mean : ExcName → Option Value} {mg mb : Str → Option Value} {G : Heap} {A : Around} {s : Shared} {Q E : Value → Shared → Prop}
    (C : Cx w mean mg mb G s.heap) (hA : Fits A 690 2900) (l : Addr) (vs : List Value) (ns : List Int) (hL : s.heap.IsList l vs.toArray) (hI : IntsAre vs ns) (hpm : ∀ e ∈ ns, e = 1 ∨ e = -1)
    (hQ : ∀ t h' tk', Ext s.heap h' → Q (.int (worthOf ns) t) { s with heap := h', toks := tk' }) :
    wpAny (model PySem.Challenge.pw_wu0004_01 w) A (call (.ref 107) [.ref l]) Q E s := by
  refine' enterB (binds := [(PySem.Str.ofString "edges", .ref l)]) (fun v l => ∃ t, v = .int (worthOf ns) t ∧ l = []) ([]) C hA ?hh ?hQ ?ho ?hcd ?hroom ?hbind ?hloc ?body ?hco ?hgen ?hk ?hcell
  (case ho => k_is)
  (case hcd => k_is)
  (case hroom => decide)
  (case hbind => exact BindsTo.of_eq rfl)
  (case hloc => exact locs rfl)
  (case hco => exact rfl)
  (case hgen => exact rfl)
  (case hk => exact rfl)
  (case hcell => decide)
  case hh => exact obs_nil
  case hQ =>
    rintro v l h' tk' e1 e2 ⟨t, rfl, rfl⟩
    exact hQ t h' tk' e1
  case body =>
    intro g' L' h1 tk1 hle1 hg FG N' KX T l1
    have SL : g'.IsList l vs.toArray := by subst hg; exact hL
    try dsimp only
    try k_fold
    k_steps
    all_goals first
      | exact JW_init _ _ _ _
      | exact JW_half (by assumption) (by assumption) (by omega)
      | exact JW_same (by assumption) (by assumption) (by omega)
      | (dsimp only
         (with_reducible rename Fr _ _ _ _ => F9)
         (with_reducible rename News _ _ _ _ => N9)
         refine back_zero F9 N9 hg (by repeat' (first | exact mem_nil' | (refine mem_cons' ?_ ?_; k_mem))) ?_
         exact ⟨_, congrArg (fun x => Value.int x _) (worth_end (by assumption)), rfl⟩
        )
end
section
/-! F8 -/
local macro_rules | `(tactic| walk_at "exec While") => `(tactic| (k_here; k_dflt (refine While_ap (by k_asm) (by k_asm) (JA_init _ _ _ _ _ (by assumption)) ?_)))
local macro_rules | `(tactic| walk_at "subscriptTail") => `(tactic| (k_here; (with_reducible show wpAny _ _ (subscriptTail _ (Expr.Slice _ _ none _) (Value.bytes _ _) (Value.ref _)) _ _ _); (with_reducible rename Fr _ _ _ _ => F'); (with_reducible rename News _ _ _ _ => N'); (refine slice_ap (s := ⟨_, _, _, _, _⟩) (fm_lo _) (fm_hi _) F' N' ?_); intro h9' t9' k9' F' N'))
local macro_rules | `(tactic| walk_at "binaryOp Add bytes bytes") => `(tactic| (k_here; (refine KBy.add_bytes (ap_fits (by assumption)) ?_); intro _ _))
theorem c_ap {w : World} {mean : ExcName → Option Value} {mg mb : Str → Option Value} {G : Heap} {A : Around} {s : Shared} {Q E : Value → Shared → Prop}
    (C : Cx w mean mg mb G s.heap) (hA : Fits A 690 2900) (n : Int) (tn : Tok) (hn : n.natAbs < 16 ^ 16)
    (hQ : ∀ t h' tk', Ext s.heap h' → Q (.bytes (apL n.natAbs).toArray t) { s with heap := h', toks := tk' }) :
    wpAny (model PySem.Challenge.pw_wu0004_01 w) A (call (.ref 35) [.int n tn]) Q E s := by
  refine' enterB (binds := [(PySem.Str.ofString "num", .int n tn)]) (fun v l => ∃ t, v = .bytes (apL n.natAbs).toArray t ∧ l = []) ([]) C hA ?hh ?hQ ?ho ?hcd ?hroom ?hbind ?hloc ?body ?hco ?hgen ?hk ?hcell
  (case ho => k_is)
  (case hcd => k_is)
  (case hroom => decide)
  (case hbind => exact BindsTo.of_eq rfl)
  (case hloc => exact locs rfl)
  (case hco => exact rfl)
  (case hgen => exact rfl)
  (case hk => exact rfl)
  (case hcell => decide)
  case hh => exact obs_nil
  case hQ =>
    rintro v l h' tk' e1 e2 ⟨t, rfl, rfl⟩
    exact hQ t h' tk' e1
  case body =>
    intro g' L' h1 tk1 hle1 hg FG N' KX T l1
    (try simp only [List.length_cons, List.length_nil] at hle1)
    (try k_lt l1)
    try dsimp only
    try k_fold
    k_steps
    all_goals first
      | (dsimp only
         (with_reducible rename Fr _ _ _ _ => F9)
         (with_reducible rename News _ _ _ _ => N9)
         refine back_zero F9 N9 hg (by repeat' (first | exact mem_nil' | (refine mem_cons' ?_ ?_; k_mem))) ?_
         exact ⟨_, congrArg (fun x => Value.bytes x _) (JA_end (b := fun _ => none) (by assumption) (by omega)), rfl⟩
        )
      | (obtain ⟨f9, h9, J9⟩ := JA_step (by assumption) (by assumption) (by assumption) (by assumption) (by assumption)
         exact WhileStep.intro (by assumption) news_none h9 J9)
end
section
/-! F9 -/
local macro_rules | `(tactic| walk_at "execs cons") => `(tactic| refine wpAny_execs_cons ?_)
local macro_rules | `(tactic| walk_at "execs nil") => `(tactic| refine wpAny_execs_nil ?_)
local macro_rules | `(tactic| walk_at "call builtin:str.replace") => `(tactic| (k_here; (refine wpAny_with_toks (n := 1) ?hn (SC.replaceW ?hu ?hv ?huv ?hyz ?hx ?hz ?_); (case hn => ((show @LE.le Nat _ _ _); (try dsimp only); omega)); (case hu => ((show @Ne Nat _ _); (try dsimp only); omega)); (case hv => ((show @Ne Nat _ _); (try dsimp only); omega)); (case huv => ((show @Ne Nat _ _); (try dsimp only); omega)); (case hyz => decide); (case hx => first | (exact Nat.le_trans (by assumption) (by decide)) | (refine Nat.le_trans (rep_le ?_ (by assumption)) ?_ <;> decide) | (refine Nat.le_trans (rep_le ?_ (rep_le ?_ (by assumption))) ?_ <;> decide) | (refine Nat.le_trans (rep_le ?_ (rep_le ?_ (rep_le ?_ (by assumption)))) ?_ <;> decide)); (case hz => decide); intro t9 k9 hk9; (replace hk9 : @LE.le Nat _ 1 k9 := hk9))))
structure IfEndS (g : Heap) (L : Addr) (s : Shared) (x : Str) (v : Str) (m : Str → Option Value) (f : Flow) (s' : Shared) : Prop where
  e : f = .next
  h : ∃ h' tk t, s' = { s with heap := h', toks := tk } ∧ @LE.le Nat _ 1 tk ∧ Fr g L h' (fun y => if y = x then some (.str v t) else m y)
theorem ifS_set {g h : Heap} {L : Addr} {s : Shared} {x : Str} {v : Str} {t : Tok} {m : Str → Option Value} {tk : Nat} (F : Fr g L h (fun y => if y = x then some (.str v t) else m y)) (l : @LE.le Nat _ 1 tk) : IfEndS g L s x v m .next { s with heap := h, toks := tk } := ⟨rfl, _, _, _, rfl, l, F⟩
theorem ifS_same {g h : Heap} {L : Addr} {s : Shared} {x : Str} {v u : Str} {t : Tok} {m : Str → Option Value} {tk : Nat} (F : Fr g L h m) (hm : m x = some (.str u t)) (e : u = v) (l : @LE.le Nat _ 1 tk) : IfEndS g L s x v m .next { s with heap := h, toks := tk } := by
  subst e
  refine ⟨rfl, h, tk, t, rfl, l, ?_⟩
  have : (fun y => if y = x then some (Value.str u t) else m y) = m := funext fun y => by
    by_cases q : y = x
    · rw [if_pos q, q, hm]
    · rw [if_neg q]
  rw [this]; exact F
theorem ifS_join {M : Model} {A : Around} {E : Value → Shared → Prop} {s : Shared} {t : Sem Flow} {Q : Flow → Shared → Prop} {g : Heap} {L : Addr} {m : Str → Option Value} (_F : Fr g L s.heap m) (x : Str) (v : Str) (h1 : wpAny M A t (IfEndS g L s x v m) E s) (h2 : ∀ f s', IfEndS g L s x v m f s' → Q f s') : wpAny M A t Q E s := wpAny_mono h1 h2 fun _ _ e => e
section
local macro_rules | `(tactic| walk_at "exec If") => `(tactic| (k_here; refine stubI ?_))
theorem c_escape {w : World} {mean : ExcName → Option Value} {mg mb : Str → Option Value} {G : Heap} {A : Around} {s : Shared} {Q E : Value → Shared → Prop}
    (C : Cx w mean mg mb G s.heap) (hA : Fits A 690 2900) (x : Str) (tx : Tok) (hx : @LE.le Nat _ x.length 5)
    (hQ : ∀ t h' tk', Ext s.heap h' → Q (.str (esc x) t) { s with heap := h', toks := tk' }) :
    wpAny (model PySem.Challenge.pw_wu0004_01 w) A (call (.ref 49) [.str x tx]) Q E s := by
  refine' enterB (binds := [(PySem.Str.ofString "text", .str x tx)]) (fun v l => ∃ t y, v = .str y t ∧ l = [] ∧ y = esc x) ([]) C hA ?hh ?hQ ?ho ?hcd ?hroom ?hbind ?hloc ?body ?hco ?hgen ?hk ?hcell
  (case ho => k_is)
  (case hcd => k_is)
  (case hroom => decide)
  (case hbind => exact BindsTo.of_eq rfl)
  (case hloc => exact locs rfl)
  (case hco => exact rfl)
  (case hgen => exact rfl)
  (case hk => exact rfl)
  (case hcell => decide)
  case hh => exact obs_nil
  case hQ =>
    rintro v l h' tk' e1 e2 ⟨t, y, rfl, rfl, rfl⟩
    exact hQ t h' tk' e1
  case body =>
    intro g' L' h1 tk1 hle1 hg FG N' KX T l1
    (try simp only [List.length_cons, List.length_nil] at hle1)
    (try k_lt l1)
    try dsimp only
    try k_fold
    k_steps
    as_aux_lemma =>
    refine MarkI.mk ?_
    with_reducible rename Fr _ _ _ _ => F9
    refine ifS_join F9 (PySem.Str.ofString "text") (Txt.replace x (PySem.Str.ofString "&") (PySem.Str.ofString "&amp;")) ?_ ?_
    · refine wpAny_If ?_
      k_steps
      all_goals (try dsimp only)
      all_goals first | (refine ifS_set (by assumption) ?_; omega) | (refine ifS_same F9 (by rfl) (rep_none (by assumption)).symm ?_; omega)
    rintro _ _ ⟨rfl, h9, tk9, t9, rfl, l9, F8⟩
    have N8 : News g' L' h9 [] := newsNo
    clear F9
    (try dsimp only)
    k_steps
    as_aux_lemma =>
    refine MarkI.mk ?_
    with_reducible rename Fr _ _ _ _ => F9
    refine ifS_join F9 (PySem.Str.ofString "text") (Txt.replace (Txt.replace x (PySem.Str.ofString "&") (PySem.Str.ofString "&amp;")) (PySem.Str.ofString "<") (PySem.Str.ofString "&lt;")) ?_ ?_
    · refine wpAny_If ?_
      k_steps
      all_goals (try dsimp only)
      all_goals first | (refine ifS_set (by assumption) ?_; omega) | (refine ifS_same F9 (by rfl) (rep_none (by assumption)).symm ?_; omega)
    rintro _ _ ⟨rfl, h9, tk9, t9, rfl, l9, F8⟩
    have N8 : News g' L' h9 [] := newsNo
    clear F9
    (try dsimp only)
    k_steps
    as_aux_lemma =>
    refine MarkI.mk ?_
    with_reducible rename Fr _ _ _ _ => F9
    refine ifS_join F9 (PySem.Str.ofString "text") (Txt.replace (Txt.replace (Txt.replace x (PySem.Str.ofString "&") (PySem.Str.ofString "&amp;")) (PySem.Str.ofString "<") (PySem.Str.ofString "&lt;")) (PySem.Str.ofString ">") (PySem.Str.ofString "&gt;")) ?_ ?_
    · refine wpAny_If ?_
      k_steps
      all_goals (try dsimp only)
      all_goals first | (refine ifS_set (by assumption) ?_; omega) | (refine ifS_same F9 (by rfl) (rep_none (by assumption)).symm ?_; omega)
    rintro _ _ ⟨rfl, h9, tk9, t9, rfl, l9, F8⟩
    have N8 : News g' L' h9 [] := newsNo
    clear F9
    (try dsimp only)
    k_steps
    as_aux_lemma =>
    refine MarkI.mk ?_
    with_reducible rename Fr _ _ _ _ => F9
    refine ifS_join F9 (PySem.Str.ofString "text") (Txt.replace (Txt.replace (Txt.replace (Txt.replace x (PySem.Str.ofString "&") (PySem.Str.ofString "&amp;")) (PySem.Str.ofString "<") (PySem.Str.ofString "&lt;")) (PySem.Str.ofString ">") (PySem.Str.ofString "&gt;")) (PySem.Str.ofString "\r") (PySem.Str.ofString "&#xD;")) ?_ ?_
    · refine wpAny_If ?_
      k_steps
      all_goals (try dsimp only)
      all_goals first | (refine ifS_set (by assumption) ?_; omega) | (refine ifS_same F9 (by rfl) (rep_none (by assumption)).symm ?_; omega)
    rintro _ _ ⟨rfl, h9, tk9, t9, rfl, l9, F8⟩
    have N8 : News g' L' h9 [] := newsNo
    clear F9
    (try dsimp only)
    k_steps
    (with_reducible rename Fr _ _ _ _ => F9)
    (with_reducible rename News _ _ _ _ => N9)
    refine back_zero F9 N9 hg (by repeat' (first | exact mem_nil' | (refine mem_cons' ?_ ?_; k_mem))) ?_
    exact ⟨_, _, rfl, rfl, rfl⟩
end
theorem c_read {w : World} {mean : ExcName → Option Value} {mg mb : Str → Option Value} {G : Heap} {A : Around} {s : Shared} {Q E : Value → Shared → Prop}
    (C : Cx w mean mg mb G s.heap) (hA : Fits A 690 2900) (x : Str) (tx : Tok) (hx : @LE.le Nat _ x.length 100)
    (hQ : ∀ t h' tk', Ext s.heap h' → Q (.str (unesc x) t) { s with heap := h', toks := tk' }) :
    wpAny (model PySem.Challenge.pw_wu0004_01 w) A (call (.ref 95) [.str x tx]) Q E s := by
  refine' enterB (binds := [(PySem.Str.ofString "text", .str x tx)]) (fun v l => ∃ t y, v = .str y t ∧ l = [] ∧ y = unesc x) ([]) C hA ?hh ?hQ ?ho ?hcd ?hroom ?hbind ?hloc ?body ?hco ?hgen ?hk ?hcell
  (case ho => k_is)
  (case hcd => k_is)
  (case hroom => decide)
  (case hbind => exact BindsTo.of_eq rfl)
  (case hloc => exact locs rfl)
  (case hco => exact rfl)
  (case hgen => exact rfl)
  (case hk => exact rfl)
  (case hcell => decide)
  case hh => exact obs_nil
  case hQ =>
    rintro v l h' tk' e1 e2 ⟨t, y, rfl, rfl, rfl⟩
    exact hQ t h' tk' e1
  case body =>
    intro g' L' h1 tk1 hle1 hg FG N' KX T l1
    (try simp only [List.length_cons, List.length_nil] at hle1)
    (try k_lt l1)
    try dsimp only
    try k_fold
    k_steps
    (with_reducible rename Fr _ _ _ _ => F9)
    (with_reducible rename News _ _ _ _ => N9)
    refine back_zero F9 N9 hg (by repeat' (first | exact mem_nil' | (refine mem_cons' ?_ ?_; k_mem))) ?_
    exact ⟨_, _, rfl, rfl, rfl⟩
end
section
/-! F10 -/
local macro_rules | `(tactic| walk_at "no key") => `(tactic| fail)
local macro_rules | `(tactic| walk_at "binaryOp Mod int int") => `(tactic| (k_here; k_dflt (first | refine mod_int' (div_low _) ?_ | refine mod_int' (div_end _) ?_)))
local macro_rules | `(tactic| walk_at "subscriptTail") => `(tactic| (k_here; (with_reducible show wpAny _ _ (subscriptTail _ _ (Value.str _ _) (Value.int _ _)) _ _ _); k_dflt (first | (with_unfolding_all refine item_signs (low_fits _) ?_) | (with_unfolding_all refine item_signs (end_fits _) ?_) | (with_unfolding_all refine item_signs (high_fits _) ?_))))
local macro_rules | `(tactic| walk_at "call builtin:str.join") => `(tactic| (k_here; (refine join_W (by assumption) (by k_mem) (by assumption) (signs_short _ _) (by omega) ?_); intro _ _))
local macro_rules | `(tactic| walk_at "binaryOp Add str str") => `(tactic| (k_here; (refine add_join (signs_short _ _) (by omega) ?_); intro _ _))
theorem c_name {w : World} {mean : ExcName → Option Value} {mg mb : Str → Option Value} {G : Heap} {A : Around} {s : Shared} {Q E : Value → Shared → Prop}
    (C : Cx w mean mg mb G s.heap) (hA : Fits A 690 2900) (l : Addr) (vs : List Value) (ws : List Int) (k : Nat) (c : Int) (tc : Tok) (hI : IntsAre vs ws) (hlen : ws.length ≤ 4)

    (O : Obs G s.heap [(l, lst vs k)])
    (hQ : ∀ t h' tk', Ext s.heap h' → Q (.str (nameOf c ws) t) { s with heap := h', toks := tk' }) :
    wpAny (model PySem.Challenge.pw_wu0004_01 w) A (call (.ref 88) [.ref l, .int c tc]) Q E s := by
  refine' enterC (binds := [(PySem.Str.ofString "edges", .ref l), (PySem.Str.ofString "choice", .int c tc)]) (fun v l => ∃ t y, v = .str y t ∧ l = [] ∧ y = nameOf c ws) ([(l, lst vs k)]) C hA ?hh ?hQ ?ho ?hcd ?hroom ?hbind ?hloc ?hnd ?body ?hco ?hgen ?hk
  (case ho => k_is)
  (case hcd => k_is)
  (case hroom => decide)
  (case hbind => exact BindsTo.of_eq rfl)
  (case hloc => exact rfl)
  (case hnd => decide +kernel)
  (case hco => exact rfl)
  (case hgen => exact rfl)
  (case hk => exact rfl)
  case hh => exact O
  case hQ =>
    rintro v l h' tk' e1 e2 ⟨t, y, rfl, rfl, rfl⟩
    exact hQ t h' tk' e1
  case body =>
    intro g' L' h1 tk1 cells' hle1 hg FG N' Y' KX T l1
    (try k_lt l1)
    k_cells Y'
    (try simp only [List.cons_append, List.nil_append] at N')
    try dsimp only
    try k_fold
    k_steps
    have hvl := ints_len hI
    refine src_name_l vs.length (by rfl) (by k_asm) (by k_asm) (by k_mem) (by simp) (by rw [PySem.sizeLine_eq]; omega) (by rfl) (by rfl) ?_
    intro g9
    refine turns_same (n := vs.length) (fun i ys => StrsAre ys ((ws.take i).map fun e => signAt (if 0 < e then highOf c else lowOf c))) ?step ?fin _ 0 [] (by simp) .nil
    case step =>
      rintro i ys v hi hJ hv
      obtain ⟨w9, tk9, rfl, hw9⟩ := ints_get hI (by simpa using hv)
      refine ⟨trivial, step_plain ?_⟩
      intro I' oI' C' oC' D' m' h' tk' E' hle9' hC' hx' F' N' off' hS' ne'
      unfold BdName at hx'
      have off9' := off'
      (try simp only [LCg.Off3, and_true] at off9')
      (try dsimp only)
      (try k_fold)
      k_steps
      · exact strs_map hJ hw9 (by rw [if_pos (by assumption)]; rfl)
      · exact strs_map hJ hw9 (by rw [if_neg (by assumption)]; rfl)
    case fin =>
      rintro ys hJ
      rw [hvl, List.take_length] at hJ
      unfold LCg.FinE
      intro D' h' tk' F' N' o1'
      (try simp only [LCg.Off1, and_true] at o1')
      (try dsimp only)
      k_steps
      (with_reducible rename Fr _ _ _ _ => F9)
      (with_reducible rename News _ _ _ _ => N9)
      refine back_zero F9 N9 hg (by repeat' (first | exact mem_nil' | (refine mem_cons' ?_ ?_; k_mem))) ?_
      exact ⟨_, _, rfl, rfl, rfl⟩
end
section
/-! F11 -/
local macro_rules | `(tactic| k_steps) => `(tactic| repeat' (first | (k_unfold; (try dsimp only)) | (k_end; wrow_close) | (walk1; (all_goals try dsimp only)) | (dsimp only; walk1; (all_goals try dsimp only)) | (leave1; walk_say "STEP leave1"; try dsimp only) | fail "no step"))
local macro_rules | `(tactic| walk_at "exec While BoolOp old") => `(tactic| ((with_reducible rename IntsAre _ _ => hI9); (have hI8 := hI9); (with_reducible rename Fr _ _ _ _ => F'); (with_reducible rename News _ _ _ _ => N'); k_dflt (refine While_run9 hI9 F' N' ?_)))
local macro_rules | `(tactic| walk_at "subscriptTail Name Slice ref ref") => `(tactic| (k_here; refine stubm ?_))
local macro_rules | `(tactic| walk_at "call builtin:len") => `(tactic| (k_here; (with_reducible show wpAny _ _ (call (Value.builtin "len") [Value.ref _]) _ _ _); (refine' len_W (by k_asm) (by k_mem) ?hi9 ?hl9 ?_); (case hi9 => (first | assumption | exact ints_snoc (by assumption) | (repeat (first | exact IntsAre.nil | refine IntsAre.cons _ _ ?_)))); (case hl9 => (first | omega | (simp only [List.length_map, List.length_drop, List.length_append, List.length_replicate, List.length_cons, List.length_nil]; omega)))))
local macro_rules | `(tactic| walk_at "binaryOp Mult ref int") => `(tactic| (k_here; (refine' mul_W (by k_asm) (by k_asm) (by k_mem) ?h1 ?h2 ?_); (case h1 => (first | omega | (simp only [List.length_map, List.length_drop, List.length_append, List.length_replicate, List.length_cons, List.length_nil]; omega))); (case h2 => (first | omega | (simp only [List.length_map, List.length_drop, List.length_append, List.length_replicate, List.length_cons, List.length_nil]; omega))); intro h9' D9' F' N' hI9'; (replace N' := news_second N')))
local macro_rules | `(tactic| walk_at "binaryOp Add ref ref") => `(tactic| (k_here; (refine' add_W (by k_asm) (by k_asm) (by k_mem) (by k_mem) ?h1 ?h2 ?h3 ?_); (case h1 => (first | assumption | exact ints_snoc (by assumption) | (repeat (first | exact IntsAre.nil | refine IntsAre.cons _ _ ?_)))); (case h2 => (first | assumption | exact ints_snoc (by assumption) | (repeat (first | exact IntsAre.nil | refine IntsAre.cons _ _ ?_)))); (case h3 => (first | omega | (simp only [List.length_map, List.length_drop, List.length_append, List.length_replicate, List.length_cons, List.length_nil]; omega))); intro h9' D9' F' N' hI9'; (replace N' := news_second N')))
local macro_rules | `(tactic| walk_at "subscriptTail Name Name ref int") => `(tactic| (k_here; (refine' item_W (by k_asm) (by k_mem) (by assumption) ?h0 ?h1 ?h2 ?_); (case h0 => (first | omega | (simp only [List.length_map, List.length_drop, List.length_append, List.length_replicate, List.length_cons, List.length_nil]; omega))); (case h1 => (first | omega | (simp only [List.length_map, List.length_drop, List.length_append, List.length_replicate, List.length_cons, List.length_nil]; omega))); (case h2 => (first | omega | (simp only [List.length_map, List.length_drop, List.length_append, List.length_replicate, List.length_cons, List.length_nil]; omega))); intro t9'))
local macro_rules | `(tactic| walk_at "subscriptTail Name BinOp ref int") => `(tactic| (k_here; (refine' item_W (by k_asm) (by k_mem) (by assumption) ?h0 ?h1 ?h2 ?_); (case h0 => (first | omega | (simp only [List.length_map, List.length_drop, List.length_append, List.length_replicate, List.length_cons, List.length_nil]; omega))); (case h1 => (first | omega | (simp only [List.length_map, List.length_drop, List.length_append, List.length_replicate, List.length_cons, List.length_nil]; omega))); (case h2 => (first | omega | (simp only [List.length_map, List.length_drop, List.length_append, List.length_replicate, List.length_cons, List.length_nil]; omega))); intro t9'))
local macro_rules | `(tactic| walk_at "binaryOp Mult int int") => `(tactic| (k_here; k_dflt (refine mul_int (hm := IntMulOk.of_left (intBits_le_64 (by decide) (by decide))) ?_)))
local macro_rules | `(tactic| walk_at "SrcG") => `(tactic| (k_here; (refine src_name_t 3 (by rfl) (by k_asm) (by k_asm) (by k_mem) (by rfl) (Nat.le_of_ble_eq_true rfl) (by rfl) (by rfl) ?_); intro g'; refine stubm ?_))
local macro_rules | `(tactic| walk_at "Turns") => `(tactic| (with_unfolding_all first
  | (refine Turns.name (by rfl) (step_plain ?_); intro I' oI' C' oC' D' m' h' tk' E' hle9' hC' hx' F' N' off' hS' ne'; (unfold BdName at hx'); (try simp only [List.cons_append, List.nil_append, List.getElem_toArray, List.getElem_cons_zero, List.getElem_cons_succ] at hx'); have off9' := off'; (try simp only [LCg.Off3, and_true] at off9'))
  | refine Turns.zero ?_))
local macro_rules | `(tactic| walk_at "subscriptTail") => `(tactic| (k_here; (with_reducible show wpAny _ _ (subscriptTail (Expr.Constant _ _ _) _ (Value.str _ _) (Value.int _ _)) _ _ _); (with_unfolding_all refine item_letter ?hb9 ?_); (case hb9 => first | exact fig_ok (by assumption) _ _ _ _ | omega)))
local macro_rules | `(tactic| walk_at "call builtin:str.join") => `(tactic| (k_here; (refine join4 (by k_asm) (by k_mem) ?_); intro _ _))
local macro_rules | `(tactic| walk_at "call builtin:str.lstrip") => `(tactic| (k_here; (refine SCL.lstripChars (hsz := ?hsz) ?_); (case hsz => (rw [word4_len, PySem.sizeLine_eq]; decide)); intro _ _))
local macro_rules | `(tactic| walk_at "getMethod str") => `(tactic| (k_here; (with_reducible show wpAny _ _ (getMethod (Value.str _ _) (Str.ofString "encode") _) _ _ _); refine get_encode ?_))
local macro_rules | `(tactic| walk_at "call builtin:str.encode") => `(tactic| (k_here; refine stubm ?_))
theorem run_next {h₀ h : Heap} {L : Addr} {s : Shared} {b : Str → Option Value} {news : List (Addr × Obj)} {ns : List Int} {r : Nat} {t1 t2 : Tok} {tk : Nat}
    (F : Fr h₀ L h (fun y => if y = PySem.Str.ofString "run" then some (.int ((r : Int) + 1) t2) else if y = PySem.Str.ofString "run" then some (.int (r : Int) t1) else b y)) (N : News h₀ L h news) (hS : Same ns r) (hlt : (r : Int) < (ns.length : Int))
    (e : ns.getD (r : Int).toNat 0 = ns.getD (Int.toNat 0) 0) : WhileStep h₀ L s (JRun b news ns) (ns.length - r) .next { s with heap := h, toks := tk } := by
  refine WhileStep.intro F N (n' := ns.length - (r + 1)) (by omega) ⟨r + 1, t2, funext fun y => ?_, rfl, by omega, fun j hj => ?_⟩
  · by_cases h1 : y = PySem.Str.ofString "run"
    · subst h1; rfl
    · simp only [mapR, if_neg h1]
  · rcases Nat.lt_succ_iff_lt_or_eq.mp hj with h | rfl
    · exact hS j h
    · have hj : j < ns.length := by omega
      rw [Int.toNat_natCast] at e
      have e2 : ns.getD j 0 = ns[j] := by rw [List.getD_eq_getElem?_getD, List.getElem?_eq_getElem hj]; rfl
      have e3 : ns.getD (Int.toNat 0) 0 = ns.headD 0 := by cases ns <;> rfl
      rw [List.getElem?_eq_getElem hj, ← e2, e, e3]
local macro_rules | `(tactic| walk_at "exec While BoolOp") => `(tactic| (k_here; refine stubm ?_))
local macro_rules | `(tactic| walk_at "exec If") => `(tactic| (k_here; refine stubm ?_))
local macro_rules | `(tactic| walk_at "eval Tuple") => `(tactic| (k_here; (with_reducible rename IntsAre _ (_ ++ List.replicate _ _) => hX8); refine stubm ?_))
theorem ints3 {vs : List Value} {a b c : Int} (h : IntsAre vs [a, b, c]) : ∃ ta tb tc, vs = [.int a ta, .int b tb, .int c tc] := by
  cases h with
  | cons _ ta h => cases h with
    | cons _ tb h => cases h with
      | cons _ tc h => cases h with
        | nil => exact ⟨ta, tb, tc, rfl⟩
structure WEnd (g : Heap) (L : Addr) (s : Shared) (b : Str → Option Value) (news : List (Addr × Obj)) (ns : List Int) (f : Flow) (s' : Shared) : Prop where
  e : f = .next
  h : ∃ (r : Nat) (t : Tok) (h' : Heap) (tk : Nat), s' = { s with heap := h', toks := tk } ∧ Fr g L h' (fun y => if y = PySem.Str.ofString "run" then some (.int (r : Int) t) else b y) ∧ News g L h' news ∧ Same ns r ∧ r ≤ ns.length ∧ (¬ (r : Int) < (ns.length : Int) ∨ ns.getD (r : Int).toNat 0 ≠ ns.getD (Int.toNat 0) 0)
theorem wEnd_mk {g h' : Heap} {L : Addr} {s : Shared} {b : Str → Option Value} {news : List (Addr × Obj)} {ns : List Int} {r : Nat} {t : Tok} {tk : Nat} (F : Fr g L h' (fun y => if y = PySem.Str.ofString "run" then some (.int (r : Int) t) else b y)) (N : News g L h' news) (hS : Same ns r) (hr : r ≤ ns.length)
    (hc : ¬ (r : Int) < (ns.length : Int) ∨ ns.getD (r : Int).toNat 0 ≠ ns.getD (Int.toNat 0) 0) : WEnd g L s b news ns .next { s with heap := h', toks := tk } := ⟨rfl, r, t, h', tk, rfl, F, N, hS, hr, hc⟩
theorem w_join {M : Model} {A : Around} {E : Value → Shared → Prop} {s : Shared} {x : Sem Flow} {Q : Flow → Shared → Prop} {g : Heap} {L : Addr} {b : Str → Option Value} {news : List (Addr × Obj)} {t₀ : Tok} (ns : List Int) (_F : Fr g L s.heap (fun y => if y = PySem.Str.ofString "run" then some (.int 0 t₀) else b y)) (_N : News g L s.heap news)
    (h1 : wpAny M A x (WEnd g L s b news ns) E s) (h2 : ∀ f s', WEnd g L s b news ns f s' → Q f s') : wpAny M A x Q E s := wpAny_mono h1 h2 fun _ _ e => e
structure BEnd (g : Heap) (L : Addr) (s : Shared) (m : Str → Option Value) (D : Addr) (rest : List (Addr × Obj)) (W : Nat) (f : Flow) (s' : Shared) : Prop where
  e : f = .next
  h : ∃ (cnt : Int) (t : Tok) (k : Nat) (zs : List Value) (bs : List Int) (h' : Heap) (tk : Nat), s' = { s with heap := h', toks := tk } ∧ Fr g L h' (fun y => if y = PySem.Str.ofString "count" then some (.int cnt t) else m y) ∧ News g L h' ((D, lst zs k) :: rest) ∧ IntsAre zs bs ∧ bs.length ≤ 12 ∧ Bits bs ∧ 0 ≤ cnt ∧ cnt ≤ 15 ∧ cnt * 4096 + wsum bs 2048 = (W : Int)
theorem b_join {M : Model} {A : Around} {E : Value → Shared → Prop} {s : Shared} {x : Sem Flow} {Q : Flow → Shared → Prop} {g : Heap} {L D : Addr} {m : Str → Option Value} {o : Obj} {rest : List (Addr × Obj)} (W : Nat) (_F : Fr g L s.heap m) (_N : News g L s.heap ((D, o) :: rest))
    (h1 : wpAny M A x (BEnd g L s m D rest W) E s) (h2 : ∀ f s', BEnd g L s m D rest W f s' → Q f s') : wpAny M A x Q E s := wpAny_mono h1 h2 fun _ _ e => e
theorem bEnd_part {g h' : Heap} {L D : Addr} {s : Shared} {m : Str → Option Value} {rest : List (Addr × Obj)} {ns : List Int} {r k tk : Nat} {t tb : Tok} {ys : List Value} (F : Fr g L h' (fun y => if y = PySem.Str.ofString "count" then some (.int ((r : Int) - 1) t) else m y)) (N : News g L h' ((D, lst (ys ++ [.int 1 tb]) k) :: rest)) (hJ : IntsAre ys ((ns.drop (r + 1)).map (bitF ns)))
    (hS : Same ns r) (hlt : (r : Int) < (ns.length : Int)) (hne : ns.getD (r : Int).toNat 0 ≠ ns.getD (Int.toNat 0) 0) (hpm : ∀ e ∈ ns, e = 1 ∨ e = -1) (hlen : ns.length ≤ 12) : BEnd g L s m D rest (worthOf ns).natAbs .next { s with heap := h', toks := tk } := by
  obtain ⟨k1, k2⟩ := worth_parts hS (by omega) hne hpm hlen
  refine ⟨rfl, _, _, _, _, _, _, _, rfl, F, N, ints_snoc hJ, ?_, bits_app (bits_map _ _) bits_one, by omega, by omega, by omega⟩
  rw [List.length_append, List.length_map, List.length_drop]; simp only [List.length_cons, List.length_nil]; omega
theorem bEnd_whole {g h' : Heap} {L D : Addr} {s : Shared} {m : Str → Option Value} {rest : List (Addr × Obj)} {ns : List Int} {r k tk : Nat} {t : Tok} {ys : List Value} (F : Fr g L h' m) (hm : m (PySem.Str.ofString "count") = some (.int (r : Int) t)) (N : News g L h' ((D, lst ys k) :: rest)) (hJ : IntsAre ys ((ns.drop (r + 1)).map (bitF ns)))
    (hS : Same ns r) (hle : r ≤ ns.length) (hlt : ¬ (r : Int) < (ns.length : Int)) (hpm : ∀ e ∈ ns, e = 1 ∨ e = -1) (hlen : ns.length ≤ 12) : BEnd g L s m D rest (worthOf ns).natAbs .next { s with heap := h', toks := tk } := by
  have k1 := worth_whole hS (by omega) hpm hlen hle
  have e : List.map (bitF ns) (List.drop (r + 1) ns) = [] := by rw [List.drop_eq_nil_of_le (by omega)]; rfl
  refine ⟨rfl, r, t, k, ys, _, h', tk, rfl, ?_, N, hJ, by rw [e]; exact Nat.zero_le _, bits_map _ _, by omega, by omega, ?_⟩
  · have : (fun y => if y = PySem.Str.ofString "count" then some (Value.int (r : Int) t) else m y) = m := funext fun y => by
      by_cases q : y = PySem.Str.ofString "count"
      · rw [if_pos q, q, hm]
      · rw [if_neg q]
    rw [this]; exact F
  · rw [e, k1]; simp [wsum]
theorem c_word {w : World} {mean : ExcName → Option Value} {mg mb : Str → Option Value} {G : Heap} {A : Around} {s : Shared} {Q E : Value → Shared → Prop}
    (C : Cx w mean mg mb G s.heap) (hA : Fits A 690 2900) (l : Addr) (vs : List Value) (ns : List Int) (k : Nat) (hI : IntsAre vs ns) (hlen : ns.length ≤ 12) (hpm : ∀ e ∈ ns, e = 1 ∨ e = -1)
    (O : Obs G s.heap [(l, lst vs k)])
    (hQ : ∀ t h' tk', Ext s.heap h' → Q (.bytes (apL (worthOf ns).natAbs).toArray t) { s with heap := h', toks := tk' }) :
    wpAny (model PySem.Challenge.pw_wu0004_01 w) A (call (.ref 112) [.ref l]) Q E s := by
  refine' enterC (binds := [(PySem.Str.ofString "edges", .ref l)]) (fun v l => ∃ t y, v = .bytes y t ∧ l = [] ∧ y = (apL (worthOf ns).natAbs).toArray) ([(l, lst vs k)]) C hA ?hh ?hQ ?ho ?hcd ?hroom ?hbind ?hloc ?hnd ?body ?hco ?hgen ?hk
  (case ho => k_is)
  (case hcd => k_is)
  (case hroom => decide)
  (case hbind => exact BindsTo.of_eq rfl)
  (case hloc => exact rfl)
  (case hnd => decide +kernel)
  (case hco => exact rfl)
  (case hgen => exact rfl)
  (case hk => exact rfl)
  case hh => exact O
  case hQ =>
    rintro v l h' tk' e1 e2 ⟨t, y, rfl, rfl, rfl⟩
    exact hQ t h' tk' e1
  case body =>
    have hvl := ints_len hI
    intro g' L' h1 tk1 cells' hle1 hg FG N' Y' KX T l1
    (try k_lt l1)
    k_cells Y'
    (try simp only [List.cons_append, List.nil_append] at N')
    try dsimp only
    try k_fold
    k_steps
    as_aux_lemma =>
    refine Marker.mk ?_
    with_reducible rename News _ _ _ _ => N9
    with_reducible rename Fr _ _ _ _ => F9
    refine w_join ns F9 N9 ?_ ?_
    · refine While_run9 hI F9 N9 ?_
      k_steps
      all_goals first
        | exact run_next (by assumption) (by assumption) (by assumption) (by assumption) (by assumption)
        | exact wEnd_mk (by assumption) (by assumption) (by assumption) (by assumption) (.inr (by assumption))
        | exact wEnd_mk (by assumption) (by assumption) (by assumption) (by assumption) (.inl (by assumption))
    rintro _ _ ⟨rfl, r, t9, h9, tk9, rfl, F8, N8, hS9, hr9, hc9⟩
    clear F9 N9
    (try dsimp only)
    k_steps
    as_aux_lemma =>
    refine Marker.mk ?_
    (try dsimp only)
    with_reducible rename News _ _ _ _ => N9
    with_reducible rename Fr _ _ _ _ => F9
    refine slice_from (s := ⟨_, _, _, _, _⟩) hS9 F9 N9 (by k_mem) (by omega) ?_
    intro h9' D9' F' N'
    refine src_name_l (List.length (List.drop (r + 1) vs)) (by rfl) F' N' (by k_mem) (by rfl) (by rw [PySem.sizeLine_eq, List.length_drop]; omega) (by rfl) (by rfl) ?_
    intro g9
    refine turns_same (n := List.length (List.drop (r + 1) vs)) (fun i9 ys9 => JB hS9 i9 ys9) ?_ ?_ _ 0 [] (Nat.zero_add _) .nil
    · rintro i9 ys9 v9 hi9 hJ9 hv9
      obtain ⟨w9, tk9, rfl, hw9⟩ := ints_get (ints_drop _ hI) (by simpa using hv9)
      have hp9 := idx_pos hI hi9
      refine ⟨trivial, step_plain ?_⟩
      intro I' oI' C' oC' D' m' h' tk' E' hle9' hC' hx' F' N' off' hS' ne'
      unfold BdName at hx'
      have off9' := off'
      (try simp only [LCg.Off3, and_true] at off9')
      (try dsimp only)
      (try k_fold)
      k_steps
      all_goals first | exact ints_map hJ9 hw9 (if_pos (by assumption)).symm | exact ints_map hJ9 hw9 (if_neg (by assumption)).symm
    rintro ys9 hJ9
    replace hJ9 := JB_end hI hJ9
    unfold LCg.FinE
    intro D' h' tk' F' N' o1'
    replace N' := news_second N'
    (try simp only [LCg.Off1, and_true] at o1')
    (try dsimp only)
    k_steps
    as_aux_lemma =>
    refine Marker.mk ?_
    with_reducible rename News _ _ _ _ => N3
    with_reducible rename Fr _ _ _ _ => F3
    refine b_join (worthOf ns).natAbs F3 N3 ?_ ?_
    · refine wpAny_If ?_
      k_steps
      · with_reducible rename News _ _ _ _ => N2
        simp only [List.push_toArray] at N2
        exact bEnd_part (by assumption) N2 hJ9 hS9 (by assumption) (hc9.elim (fun q => absurd (by assumption) q) id) hpm hlen
      · exact bEnd_whole F3 (by rfl) N3 hJ9 hS9 hr9 (by assumption) hpm hlen
    rintro _ _ ⟨rfl, cnt, tc, kk, zs, bs, h4, tk4, rfl, F4, N4, hI4, hb1, hb2, hb3, hb4, hb5⟩
    clear F3 N3
    (try dsimp only)
    k_steps
    as_aux_lemma =>
    refine Marker.mk ?_
    with_reducible rename IntsAre _ _ => hX
    with_reducible rename News _ _ _ _ => N5
    with_reducible rename Fr _ _ _ _ => F5
    have l12 : (padded bs).length = 12 := padded_len hb1
    have hbX : Bits (padded bs) := bits_app hb2 (bits_rep _)
    have hw : wsum (padded bs) 2048 = wsum bs 2048 := wsum_pad _ _ _
    rw [← hw] at hb5
    change IntsAre _ (padded bs) at hX
    generalize padded bs = X at hX l12 hbX hb5
    clear hw hb1 hb2 hI4
    k_steps
    as_aux_lemma =>
    refine Marker.mk ?_
    refine turns_same (n := 3) (fun j ys => IntsAre ys (([0, 4, 8].take j).map (fig X))) ?_ ?_ _ 0 [] (Nat.zero_add _) .nil
    · as_aux_lemma =>
      rintro j ys v hj hJ hv
      obtain ⟨q, hq, hq0, hq8, tv, rfl⟩ : ∃ q : Int, [0, 4, 8][j]? = some q ∧ 0 ≤ q ∧ q ≤ 8 ∧ ∃ t, v = .int q t := by
        rcases (by omega : j = 0 ∨ j = 1 ∨ j = 2) with rfl | rfl | rfl
        · exact ⟨0, rfl, by decide, by decide, _, (Option.some.inj hv).symm⟩
        · exact ⟨4, rfl, by decide, by decide, _, (Option.some.inj hv).symm⟩
        · exact ⟨8, rfl, by decide, by decide, _, (Option.some.inj hv).symm⟩
      refine ⟨trivial, step_plain ?_⟩
      intro I' oI' C' oC' D' m' h' tk' E' hle9' hC' hx' F' N' off' hS' ne'
      unfold BdName at hx'
      have off9' := off'
      (try simp only [LCg.Off3, and_true] at off9')
      (try dsimp only)
      (try k_fold)
      k_steps
      exact ints_mapA hJ hq (by unfold fig; rfl)
    rintro ys hJ
    obtain ⟨ta, tb, tc, rfl⟩ := ints3 (show IntsAre ys [fig X 0, fig X 4, fig X 8] from hJ)
    unfold LCg.FinE
    intro D2 h2 tk2 F2 N2 o2
    (try simp only [LCg.Off1, and_true] at o2)
    (try dsimp only)
    k_steps
    as_aux_lemma =>
    refine Marker.mk ?_
    refine enc_of ⟨hb3, hb4⟩ l12 hbX hb5 ?_
    intro t9' k9'
    k_steps
    (with_reducible rename Fr _ _ _ _ => F9)
    (with_reducible rename News _ _ _ _ => N9)
    refine back_zero F9 N9 hg (by repeat' (first | exact mem_nil' | (refine mem_cons' ?_ ?_; k_mem))) ?_
    exact ⟨_, _, rfl, rfl, rfl⟩
end
section
/-! F12 -/
local macro_rules | `(tactic| walk_at "exec For Name Call cons nil") => `(tactic| (k_here; refine stubm ?_))
local macro_rules | `(tactic| walk_at "pyIter ref") => `(tactic| (k_here; refine stubm ?_))
local macro_rules | `(tactic| walk_at "call builtin:list.append") => `(tactic| (k_here; refine stubm ?_))
local macro_rules | `(tactic| k_mem) => `(tactic| assumption)
local macro_rules | `(tactic| walk_at "call builtin:len") => `(tactic| (k_here; (with_reducible show wpAny _ _ (call (Value.builtin "len") [Value.ref _]) _ _ _); (refine len_W (by k_asm) (by k_mem) (by assumption) (by omega) ?_)))
local macro_rules | `(tactic| walk_at "SrcG") => `(tactic| (k_here; refine stubm ?_))
local macro_rules | `(tactic| walk_at "subscriptTail Name Name ref int") => `(tactic| (k_here; (refine' item_W (by k_asm) (by k_mem) (by assumption) ?h0 ?h1 ?h2 ?_); (case h0 => omega); (case h1 => omega); (case h2 => omega); intro t9'))
local macro_rules | `(tactic| walk_at "subscriptTail Name Name ref int") => `(tactic| (k_here; (refine item_refs (by k_asm) (by k_mem) (by omega) (by omega) ?_)))
local macro_rules | `(tactic| walk_at "binaryOp Add ref ref") => `(tactic| (k_here; refine stubm ?_))
local macro_rules | `(tactic| walk_at "subscriptTail") => `(tactic| (k_here; (with_reducible show wpAny _ _ (subscriptTail (PySem.Expr.Subscript _ _ _) _ (Value.ref _) (Value.int _ _)) _ _ _); (refine item_row (by k_asm) (by k_mem) (by assumption) (by assumption) ?_)))
local macro_rules | `(tactic| walk_at "compareOp NotEq ref ref") => `(tactic| (k_here; (refine ne_nil_U (by k_asm) (by k_mem) (by k_mem) (by assumption) (by units_room) ?_)))
local macro_rules | `(tactic| walk_at "subscriptTail") => `(tactic| (k_here; (with_reducible show wpAny _ _ (subscriptTail _ (PySem.Expr.UnaryOp _ _ _) (Value.ref _) (Value.int _ _)) _ _ _); (refine last_U (by k_asm) (by k_mem) ?_)))
theorem c_played {w : World} {mean : ExcName → Option Value} {mg mb : Str → Option Value} {G : Heap} {A : Around} {s : Shared} {Q E : Value → Shared → Prop}
    (C : Cx w mean mg mb G s.heap) (hA : Fits A 690 2900) (lx ly : Addr) (vs us : List Value) (ns ms : List Int) (k1 k2 : Nat) (hI : IntsAre vs ns) (hJ : IntsAre us ms) (hn : ns.length ≤ 4) (hm : ms.length ≤ 4) (pn : ∀ e ∈ ns, e = 1 ∨ e = -1) (pm : ∀ e ∈ ms, e = 1 ∨ e = -1)
    (O : Obs G s.heap [(lx, lst vs k1), (ly, lst us k2)])
    (hQ : ∀ t n h' tk', Ext s.heap h' → Made s.heap h' [(t, lst [.bool (isPos (worthOf ns + worthOf ms)), .bool (isNeg (worthOf ns + worthOf ms))] n)] → Q (.ref t) { s with heap := h', toks := tk' }) :
    wpAny (model PySem.Challenge.pw_wu0004_01 w) A (call (.ref 100) [.ref lx, .ref ly]) Q E s := by
  refine' enterC (binds := [(PySem.Str.ofString "one", .ref lx), (PySem.Str.ofString "two", .ref ly)]) (fun v l => ∃ t n, v = .ref t ∧ l = [(t, lst [.bool (isPos (worthOf ns + worthOf ms)), .bool (isNeg (worthOf ns + worthOf ms))] n)]) ([(lx, lst vs k1), (ly, lst us k2)]) C hA ?hh ?hQ ?ho ?hcd ?hroom ?hbind ?hloc ?hnd ?body ?hco ?hgen ?hk
  (case ho => k_is)
  (case hcd => k_is)
  (case hroom => decide)
  (case hbind => exact BindsTo.of_eq rfl)
  (case hloc => exact rfl)
  (case hnd => decide +kernel)
  (case hco => exact rfl)
  (case hgen => exact rfl)
  (case hk => exact rfl)
  case hh => exact O
  case hQ =>
    rintro v l h' tk' e1 e2 ⟨t, n, rfl, rfl⟩
    exact hQ t n h' tk' e1 e2
  case body =>
    have hvl := ints_len hI
    have hul := ints_len hJ
    intro g' L' h1 tk1 cells' hle1 hg FG N' Y' KX T l1
    (try k_lt l1)
    k_cells Y'
    (try simp only [List.cons_append, List.nil_append] at N')
    try dsimp only
    try k_fold
    k_steps
    with_reducible rename News _ _ _ _ => N0
    have P0 := pl_start (ns := ns) (ms := ms) (vs := vs) (us := us) N0 (by assumption) (by assumption) (by assumption) (by assumption) (by assumption) (by assumption) (by omega) (by omega) (by omega) (by omega)
    as_aux_lemma =>
    refine Marker.mk ?_
    refine For_invT g' ?_ (by intro _; rfl)
    k_steps
    as_aux_lemma =>
    refine Marker.mk ?_
    with_reducible rename IsRange _ _ _ _ _ _ _ _ => R1
    with_reducible rename News _ _ _ _ => N1
    with_reducible rename Fr _ _ _ _ => F1
    refine iter_rng (ns.length + 1) (JO _ L' lx ly _ _ (lst vs k1) (lst us k2) ns ms) (by omega) rfl F1 N1 R1 ⟨CutsMap.init _, _, _, _, _, P0⟩ ?_ ?_
    · rintro a tk0 own m₁ B₁ s₁ ha ⟨hcm, la, ra, va, vb, PL⟩ hsep F N
      refine assign_C F N (PL.c5.sub fun p hp => List.mem_append_right _ hp) rfl rfl rfl ?_
      intro h2 o2 F' N' d2
      replace N' : News g' L' h2 _ := N'
      replace F' : Fr g' L' h2 _ := F'
      have PL1 := PL.setA d2
      have S1 := Sep.upd (c := L' + 1 + 1 + 1 + 1 + 1) (o' := o2) hsep
      have hs1 := sub_upd (B := B₁) (all := own ++ B₁) (o' := o2) (fun p hp => hp) (PL.ne PL.c5 hsep)
      clear PL hsep N F d2
      generalize upd (own ++ B₁) (L' + 1 + 1 + 1 + 1 + 1) o2 = all at N' hs1
      generalize upd B₁ (L' + 1 + 1 + 1 + 1 + 1) o2 = B1 at PL1 S1 hs1
      have PLa := PL1.sub fun p hp => hs1 p (List.mem_append_right _ hp)
      obtain ⟨q3, mq3, dq3⟩ := PLa.c3
      unfold IsC at dq3
      obtain ⟨_, mL, kL, rfl⟩ := PLa.iL
      k_steps
      as_aux_lemma =>
      refine Marker.mk ?_
      with_reducible rename News _ _ _ _ => N2
      with_reducible rename Fr _ _ _ _ => F2
      with_reducible rename ∀ (p : Addr × Obj), p ∈ all → @LT.lt Nat _ p.fst _ => fr1
      obtain ⟨all2, B2, e2, eB, hs2, S2, d1, d3, C4, IR, mD⟩ := PL1.go_L S1 hs1 fr1 kL
      refine append_U F2 N2 (.tail _ mL) (by rw [refs_len]; omega) ?_
      intro h3 F3 N3
      replace N3 : News g' L' h3 all2 := by rw [e2]; exact N3
      clear N2 F2 e2
      obtain ⟨q4, mq4, dq4⟩ := C4
      unfold IsC at dq4
      obtain ⟨_, mR, kR, rfl⟩ := IR
      k_steps
      as_aux_lemma =>
      refine Marker.mk ?_
      with_reducible rename News _ _ _ _ => N4
      with_reducible rename Fr _ _ _ _ => F4
      with_reducible rename ∀ (p : Addr × Obj), p ∈ all2 → @LT.lt Nat _ p.fst _ => fr2
      obtain ⟨all3, B3, la3, ra3, e3, PL3, S3, hs3⟩ := PL1.go_R kR ⟨_, rfl⟩ d1 d3 eB S2 hs2 fr2 mD
      refine append_U F4 N4 (.tail _ mR) (by rw [refs_len]; omega) ?_
      intro h5 F5 N5
      replace N5 : News g' L' h5 all3 := by rw [e3]; exact N5
      clear N4 F4 e3 eB mD d1 d3 fr1 fr2 hs2 S2 mR mq4 dq4 mL mq3 dq3 PL1 PLa S1 hs1
      obtain ⟨q2, mq2, dq2⟩ := (PL3.sub fun p hp => hs3 p (List.mem_append_right _ hp)).c2
      unfold IsC at dq2
      obtain ⟨_, m2, rfl⟩ := (PL3.sub fun p hp => hs3 p (List.mem_append_right _ hp)).i2
      k_steps
      as_aux_lemma =>
      refine Marker.mk ?_
      refine For_invT g' ?_ (by intro _; rfl)
      k_steps
      as_aux_lemma =>
      refine Marker.mk ?_
      with_reducible rename IsRange _ _ _ _ _ _ _ _ => R6
      with_reducible rename News _ _ _ _ => N6
      with_reducible rename Fr _ _ _ _ => F6
      refine iter_rng (ms.length + 1) (JI own _ L' lx ly _ _ (lst vs k1) (lst us k2) ns ms la3 ra3 a _) (by omega) rfl F6 (fun p hp => N6 p (hs3 p hp)) R6 ⟨hcm, _, _, rfl, S3, PL3⟩ ?_ ?_
      · clear PL3 N6 F6 R6 hs3 S3 mq2 dq2 m2 hcm
        rintro b tk1 own2 m₂ B₂ s₂ hb ⟨hcm, vb2, B4, rfl, S4, PL4⟩ sep2 F N
        rw [← List.append_assoc] at N
        have SX := sep_join sep2 S4
        refine assign_C F N (PL4.c6.sub fun p hp => List.mem_append_right _ hp) rfl rfl rfl ?_
        intro h7 o7 F' N' d7
        replace N' : News g' L' h7 _ := N'
        replace F' : Fr g' L' h7 _ := F'
        have PL7 := PL4.setB d7
        have S7 := Sep.upd (c := L' + 1 + 1 + 1 + 1 + 1 + 1) (o' := o7) SX
        have hs7 := sub_upd (B := B4) (all := (own2 ++ own) ++ B4) (o' := o7) (fun p hp => hp) (PL4.ne PL4.c6 SX)
        clear PL4 N F d7 S4 SX
        generalize upd ((own2 ++ own) ++ B4) (L' + 1 + 1 + 1 + 1 + 1 + 1) o7 = all7 at N' hs7
        generalize upd B4 (L' + 1 + 1 + 1 + 1 + 1 + 1) o7 = B7 at PL7 S7 hs7
        have PLa := PL7.sub fun p hp => hs7 p (List.mem_append_right _ hp)
        obtain ⟨q1, mq1, dq1⟩ := PLa.c1
        unfold IsC at dq1
        obtain ⟨q5, mq5, dq5⟩ := PLa.c5
        unfold IsC at dq5
        obtain ⟨q6, mq6, dq6⟩ := PLa.c6
        unfold IsC at dq6
        obtain ⟨_, mi1, rfl⟩ := PLa.i1
        k_steps
        as_aux_lemma =>
        refine Marker.mk ?_
        with_reducible rename IsRange _ _ _ _ _ _ _ _ => R8
        with_reducible rename News _ _ _ _ => N8
        with_reducible rename Fr _ _ _ _ => F8
        refine src_range (n := a) (by rfl) F8 N8 R8 (small_rng (by omega)).1 (small_rng (by omega)).2 (by rw [PySem.sizeLine_eq]; omega) (by rfl) (by rfl) ?_
        intro g8
        refine turns_ind (n := a) (JC all7 (cutsA ns a b)) ?_ ?_ _ 0 [] all7 (Nat.zero_add _) ⟨fun p hp => hp, .nil⟩
        · rintro i ys news v hi ⟨hsub, hcuts⟩ ⟨t8, rfl⟩
          refine ⟨trivial, step_plain ?_⟩
          intro I' oI' C' oC' D' m' h' tk' E' hle9' hC' hx' F' N' off' hS' ne'
          unfold BdName at hx'
          rw [Int.zero_add] at hx'
          have off9' := off'
          replace mq1 := hsub _ mq1
          replace mq6 := hsub _ mq6
          replace mi1 := hsub _ mi1
          (try k_fold)
          k_steps
          exact ⟨fun p hp => .tail _ (hsub p hp), hcuts.more (cutsA_get hi) (fun p hp => .tail _ hp) ⟨_, _, _, _, rfl, .head _⟩⟩
        · rintro ys news ⟨hsub, hcuts⟩
          rw [List.take_of_length_le (by rw [cutsA_len]; exact Nat.le_refl _)] at hcuts
          unfold LCg.FinE
          intro D' h' tk' F' N' o1'
          obtain ⟨_, mi2, rfl⟩ := (PLa.sub hsub).i2
          obtain ⟨q2, mq2, dq2⟩ := (PLa.sub hsub).c2
          unfold IsC at dq2
          clear mq1 dq1 mi1
          replace mq5 := hsub _ mq5
          replace mq6 := hsub _ mq6
          replace mq2 := List.Mem.tail (D', LCg.lst ys) mq2
          replace mi2 := List.Mem.tail (D', LCg.lst ys) mi2
          replace mq5 := List.Mem.tail (D', LCg.lst ys) mq5
          replace mq6 := List.Mem.tail (D', LCg.lst ys) mq6
          k_steps
          as_aux_lemma =>
          refine Marker.mk ?_
          with_reducible rename IsRange _ _ _ _ _ _ _ _ => R10
          with_reducible rename News _ _ _ _ => N10
          with_reducible rename Fr _ _ _ _ => F10
          refine src_range (n := b) (by rfl) F10 N10 R10 (small_rng (by omega)).1 (small_rng (by omega)).2 (by rw [PySem.sizeLine_eq]; omega) (by rfl) (by rfl) ?_
          intro g10
          refine turns_ind (n := b) (JC ((D', LCg.lst ys) :: news) (cutsB ms a b)) ?_ ?_ _ 0 [] ((D', LCg.lst ys) :: news) (Nat.zero_add _) ⟨fun p hp => hp, .nil⟩
          · rintro i ys2 news2 v hi ⟨hsub2, hcuts2⟩ ⟨t8, rfl⟩
            refine ⟨trivial, step_plain ?_⟩
            intro I' oI' C' oC' D2 m' h' tk' E' hle9' hC' hx' F' N' off' hS' ne'
            unfold BdName at hx'
            rw [Int.zero_add] at hx'
            have off9' := off'
            replace mq2 := hsub2 _ mq2
            replace mq5 := hsub2 _ mq5
            replace mi2 := hsub2 _ mi2
            (try k_fold)
            k_steps
            exact ⟨fun p hp => .tail _ (hsub2 p hp), hcuts2.more (cutsB_get hi) (fun p hp => .tail _ hp) ⟨_, _, _, _, rfl, .head _⟩⟩
          · rintro ys2 news2 ⟨hsub2, hcuts2⟩
            rw [List.take_of_length_le (by rw [cutsB_len]; exact Nat.le_refl _)] at hcuts2
            unfold LCg.FinE
            intro D2 h' tk' F' N' o1'
            clear mq2 dq2 mi2 mq5 mq6 dq6
            k_steps
            as_aux_lemma =>
            refine Marker.mk ?_
            have hs9 : ∀ p ∈ all7, p ∈ (D2, LCg.lst ys2) :: news2 := fun p hp => .tail _ (hsub2 _ (.tail _ (hsub p hp)))
            have hcc := ((hcuts.sub (fun p hp => hsub2 _ (.tail _ hp))).app hcuts2).sub fun p hp => List.Mem.tail (D2, LCg.lst ys2) hp
            have hzl : (ys ++ ys2).length = a + b := by rw [List.length_append, hcuts.len, hcuts2.len, cutsA_len, cutsB_len]
            refine add_U (k1 := ys.length) (k2 := ys2.length) F' N' (.tail _ (hsub2 _ (.head _))) (.head _) (by rw [hcuts.len, cutsA_len]; omega) (by rw [hcuts2.len, cutsB_len]; omega) ?_
            intro h11 S F11 N11 frS
            clear N' F' o1' hcuts2 hcuts
            generalize ys ++ ys2 = zs at hcc hzl N11
            generalize (D2, LCg.lst ys2) :: news2 = allC at hs9 hcc N11 frS
            clear hsub2 hsub N10 R10 N8 F8 R8 F10
            have PLc := PL7.sub fun p hp => List.Mem.tail (S, lst zs 0) (hs9 _ (hs7 p (List.mem_append_right _ hp)))
            obtain ⟨q3, mq3, dq3⟩ := PLc.c3
            unfold IsC at dq3
            obtain ⟨q5, mq5, dq5⟩ := PLc.c5
            unfold IsC at dq5
            obtain ⟨_, mL, kL, rfl⟩ := PLc.iL
            obtain ⟨_, mrow, krow, rfl⟩ := PLc.jL a (by omega)
            rw [wid_last] at mrow
            k_steps
            as_aux_lemma =>
            refine Marker.mk ?_
            with_reducible rename News _ _ _ _ => N12
            with_reducible rename Fr _ _ _ _ => F12
            refine src_three_l zs.length (by rfl) F12 N12 (.head _) (by simp) (by rw [hzl, PySem.sizeLine_eq]; omega) (by rfl) (by rfl) (by rfl) (by rfl) (by decide) (by decide) (by decide) ?_
            intro g12
            refine turns_same (n := zs.length) (fun i ys => JT (cutW isPos isNeg ns ms) (cutsA ns a b ++ cutsB ms a b) i ys) ?_ ?_ _ 0 [] (Nat.zero_add _) JT.nil
            · rintro i ys3 v hi hJ3 hv
              obtain ⟨⟨who, c, d⟩, he, t, p, q, r, rfl, ht⟩ := hcc.get (by simpa using hv)
              have hme := cuts_mem (List.mem_of_getElem? he)
              dsimp only at hme
              refine ⟨⟨t, _, _, _, _, rfl, .tail _ ht⟩, step_test ?_⟩
              intro I' oI' C' oC' D3 m' h' tk' E' hle9' hC' hx' F' N' off' hS' ne'
              obtain ⟨hx1, hx2, hx3⟩ := bd3_get N' (fun p hp => .tail _ (.tail _ (.tail _ hp))) (.tail _ ht) hx'
              dsimp only at hx1 hx2 hx3
              have off9' := off'
              clear hx' mL mq3 dq3 mq5 dq5 mrow
              obtain ⟨q4, mq4, dq4⟩ := PLc.c4
              unfold IsC at dq4
              obtain ⟨_, mR, kR, rfl⟩ := PLc.iR
              obtain ⟨_, mw, kw, rfl⟩ := PLc.jR c (by omega)
              have hd : d < wid (ms.length + 1) (a + 1) b c := by unfold wid; split <;> omega
              have hd2 : wid (ms.length + 1) (a + 1) b c ≤ 1000 := by unfold wid; split <;> omega
              (try k_fold)
              k_steps
              · exact hJ3.wA he (by assumption)
              · exact hJ3.wB he (pos_yes (by assumption)) (by assumption)
              · exact hJ3.wC he (pos_no (by assumption))
            · rintro ys3 hJ3
              obtain ⟨qs, hq1, hq2⟩ := hJ3.fin (by rw [hzl, List.length_append, cutsA_len, cutsB_len])
              rw [(cuts_win (a := a) (b := b) (by omega) (by omega) hn hm pn pm).1] at hq2
              unfold LCg.FinE
              intro D3 h' tk' F' N' o1'
              k_steps
              as_aux_lemma =>
              refine Marker.mk ?_
              with_reducible rename News _ _ _ _ => N14
              with_reducible rename Fr _ _ _ _ => F14
              have hlt : la3 a < S := by
                obtain ⟨o, m, _⟩ := PL7.jL a (by omega)
                exact frS _ (hs9 _ (hs7 _ (List.mem_append_right _ m)))
              refine append_U F14 N14 (.tail _ (.tail _ mrow)) (by rw [rowV_len]; omega) ?_
              intro h15 F15 N15
              obtain ⟨allD, B8, eD, PL8, S8, hs8, hcc8, hS8⟩ := PL7.fin_L S7 (fun p hp => .tail _ (.tail _ (.tail _ (hs9 _ (hs7 p hp))))) N14 (.tail _ (.tail _ mrow)) (hcc.sub (fun p hp => .tail _ (.tail _ (.tail _ hp)))) (.tail _ (.tail _ (.head _))) hlt hq2
              replace N15 : News g' L' h15 allD := by rw [eD]; exact N15
              clear N14 F14 eD hlt o1' hq1 hq2 hJ3 mrow mL mq3 dq3 mq5 dq5 PLc hcc frS hs9 hs7 S7 PL7
              have PLd := PL8.sub fun p hp => hs8 p (List.mem_append_right _ hp)
              obtain ⟨q4, mq4, dq4⟩ := PLd.c4
              unfold IsC at dq4
              obtain ⟨q5, mq5, dq5⟩ := PLd.c5
              unfold IsC at dq5
              obtain ⟨_, mR, kR, rfl⟩ := PLd.iR
              obtain ⟨_, mrow, krow, rfl⟩ := PLd.jR a (by omega)
              rw [wid_last] at mrow
              k_steps
              as_aux_lemma =>
              refine Marker.mk ?_
              with_reducible rename News _ _ _ _ => N16
              with_reducible rename Fr _ _ _ _ => F16
              refine src_three_l zs.length (by rfl) F16 N16 hS8 (by simp) (by rw [hzl, PySem.sizeLine_eq]; omega) (by rfl) (by rfl) (by rfl) (by rfl) (by decide) (by decide) (by decide) ?_
              intro g16
              refine turns_same (n := zs.length) (fun i ys => JT (cutW isNeg isPos ns ms) (cutsA ns a b ++ cutsB ms a b) i ys) ?_ ?_ _ 0 [] (Nat.zero_add _) JT.nil
              · rintro i ys3 v hi hJ3 hv
                obtain ⟨⟨who, c, d⟩, he, t, p, q, r, rfl, ht⟩ := hcc8.get (by simpa using hv)
                have hme := cuts_mem (List.mem_of_getElem? he)
                dsimp only at hme
                refine ⟨⟨t, _, _, _, _, rfl, ht⟩, step_test ?_⟩
                intro I' oI' C' oC' D3 m' h' tk' E' hle9' hC' hx' F' N' off' hS' ne'
                obtain ⟨hx1, hx2, hx3⟩ := bd3_get N' (fun p hp => .tail _ (.tail _ (.tail _ hp))) ht hx'
                dsimp only at hx1 hx2 hx3
                have off9' := off'
                clear hx' mR mq4 dq4 mq5 dq5 mrow
                obtain ⟨q3, mq3, dq3⟩ := PLd.c3
                unfold IsC at dq3
                obtain ⟨_, mL, kL, rfl⟩ := PLd.iL
                obtain ⟨_, mw, kw, rfl⟩ := PLd.jL c (by omega)
                have hd : d < wid (ms.length + 1) (a + 1) (b + 1) c := by unfold wid; split <;> omega
                have hd2 : wid (ms.length + 1) (a + 1) (b + 1) c ≤ 1000 := by unfold wid; split <;> omega
                (try k_fold)
                k_steps
                · exact hJ3.wA he (by assumption)
                · exact hJ3.wB he (neg_yes (by assumption)) (by assumption)
                · exact hJ3.wC he (neg_no (by assumption))
              · rintro ys3 hJ3
                obtain ⟨qs, hq1, hq2⟩ := hJ3.fin (by rw [hzl, List.length_append, cutsA_len, cutsB_len])
                rw [(cuts_win (a := a) (b := b) (by omega) (by omega) hn hm pn pm).2] at hq2
                unfold LCg.FinE
                intro D3 h' tk' F' N' o1'
                k_steps
                as_aux_lemma =>
                refine Marker.mk ?_
                with_reducible rename News _ _ _ _ => N18
                with_reducible rename Fr _ _ _ _ => F18
                refine append_U F18 N18 (.tail _ (.tail _ mrow)) (by rw [rowV_len]; omega) ?_
                intro h19 F19 N19
                obtain ⟨allE, B9, eE, PL9, S9, hs9⟩ := PL8.fin_R (k := krow) S8 (fun p hp => List.Mem.tail (_, W.listOf #[] 0) (List.Mem.tail (D3, LCg.lst ys3) (hs8 p hp))) hq2
                replace N19 : News g' L' h19 allE := by rw [eE]; exact N19
                k_steps
                exact LoopEnd.intro F19 N19 (by rw [← List.append_assoc]; exact hs9) (sep_part sep2 S9) ⟨hcm.set, _, _, rfl, sep_right S9, PL9⟩
      · rintro h6 tk6 m6 B6 ⟨hcm6, vb6, B10, rfl, S10, PL10⟩ F N
        k_steps
        exact LoopEnd.intro F N (fun p hp => hp) S10 ⟨hcm6, la3, ra3, _, _, PL10⟩
    · rintro h6 tk6 m6 B6 ⟨hcm6, la, ra, va, vb, PL⟩ F N
      replace N : News g' L' h6 _ := N
      replace F : Fr g' L' h6 _ := F
      obtain ⟨q3, mq3, dq3⟩ := PL.c3
      unfold IsC at dq3
      obtain ⟨q4, mq4, dq4⟩ := PL.c4
      unfold IsC at dq4
      obtain ⟨_, mL, kL, rfl⟩ := PL.iL
      obtain ⟨_, mR, kR, rfl⟩ := PL.iR
      obtain ⟨_, mA, kA, rfl⟩ := PL.jL ns.length (by omega)
      obtain ⟨_, mB, kB, rfl⟩ := PL.jR ns.length (by omega)
      rw [refs_succ] at mL mR
      rw [wid_last, rowV_more] at mA mB
      obtain ⟨_, mi1, rfl⟩ := PL.i1
      obtain ⟨_, mi2, rfl⟩ := PL.i2
      have e1 : WW ns ms ns.length ms.length = worthOf ns + worthOf ms := by unfold WW; rw [List.take_length, List.take_length]
      rw [e1] at mA mB
      k_steps
      with_reducible rename Fr _ _ _ _ => F9
      with_reducible rename News _ _ _ _ => N9
      with_reducible rename ∀ (p : Addr × Obj), p ∈ B6 → @LT.lt Nat _ p.fst _ => fr9
      exact back_one F9 N9 hg (.head _) (mem_cons' (.tail _ mi1) (mem_cons' (.tail _ mi2) mem_nil')) (mem_cons' (Nat.ne_of_gt (fr9 _ mi1)) (mem_cons' (Nat.ne_of_gt (fr9 _ mi2)) mem_nil')) ⟨_, _, rfl, rfl⟩
end
section
/-! Law -/
open LCg (NsObj CompEnd Off3 Off1 FinE FinA SrcAt)
theorem ob_of {h₀ h : Heap} {L : Addr} {B : List (Addr × Obj)} (N : News h₀ L h B) {p : Addr × Obj} (hm : p ∈ B) : Ob h₀ h p := ⟨(N p hm).1, (N p hm).2.2⟩
/-! what the law's lists hold -/
structure Row where
  p1 : Px
  p2 : Px
  p3 : Px
  p4 : Px
structure Row.Ok (P : Row) : Prop where
  o1 : P.p1.Ok
  o2 : P.p2.Ok
  o3 : P.p3.Ok
  o4 : P.p4.Ok
def Row.heats (P : Row) : List Int := [pheat P.p1, pheat P.p2, pheat P.p3, pheat P.p4]
def IntA (_ : List (Addr × Obj)) (v : Value) (n : Int) : Prop := ∃ t, v = .int n t
def StrA (_ : List (Addr × Obj)) (v : Value) (x : Str) : Prop := ∃ t, v = .str x t
def RowI (B : List (Addr × Obj)) (v : Value) (P : Row) : Prop := ∃ r t1 t2 t3 t4 k, v = .ref r ∧ (r, lst [.ref t1, .ref t2, .ref t3, .ref t4] k) ∈ B ∧ (t1, P.p1.obj) ∈ B ∧ (t2, P.p2.obj) ∈ B ∧ (t3, P.p3.obj) ∈ B ∧ (t4, P.p4.obj) ∈ B
def RowN (B : List (Addr × Obj)) (v : Value) (P : Row) : Prop := ∃ r t1 t2 t3 t4 k a1 b1 d1 a2 b2 d2 a3 b3 d3 a4 b4 d4, v = .ref r ∧ (r, lst [.ref t1, .ref t2, .ref t3, .ref t4] k) ∈ B ∧ (t1, nob P.p1 a1 b1 d1) ∈ B ∧ (t2, nob P.p2 a2 b2 d2) ∈ B ∧ (t3, nob P.p3 a3 b3 d3) ∈ B ∧ (t4, nob P.p4 a4 b4 d4) ∈ B
def RowR (B : List (Addr × Obj)) (v : Value) (P : Row) : Prop := ∃ r t1 t2 t3 t4 k a1 b1 d1 a2 b2 d2 a3 b3 d3 a4 b4 d4, v = .ref r ∧ (r, lst [.ref t1, .ref t2, .ref t3, .ref t4] k) ∈ B ∧ (t1, rob P.p1 a1 b1 d1) ∈ B ∧ (t2, rob P.p2 a2 b2 d2) ∈ B ∧ (t3, rob P.p3 a3 b3 d3) ∈ B ∧ (t4, rob P.p4 a4 b4 d4) ∈ B
def RowW (B : List (Addr × Obj)) (v : Value) (ws : List Int) : Prop := ∃ r vs k, v = .ref r ∧ (r, lst vs k) ∈ B ∧ IntsAre vs ws
theorem mIntA : Mono IntA := fun _ _ _ _ _ h => h
theorem mStrA : Mono StrA := fun _ _ _ _ _ h => h
theorem mRowI : Mono RowI := fun _ _ _ _ hs ⟨r, t1, t2, t3, t4, k, e, m0, m1, m2, m3, m4⟩ => ⟨r, t1, t2, t3, t4, k, e, hs _ m0, hs _ m1, hs _ m2, hs _ m3, hs _ m4⟩
theorem mRowN : Mono RowN := fun _ _ _ _ hs => by
  unfold RowN
  iterate 18 refine Exists.imp fun _ => ?_
  exact And.imp id (And.imp (hs _) (And.imp (hs _) (And.imp (hs _) (And.imp (hs _) (hs _)))))
theorem mRowR : Mono RowR := fun _ _ _ _ hs => by
  unfold RowR
  iterate 18 refine Exists.imp fun _ => ?_
  exact And.imp id (And.imp (hs _) (And.imp (hs _) (And.imp (hs _) (And.imp (hs _) (hs _)))))
theorem mRowW : Mono RowW := fun _ _ _ _ hs ⟨r, vs, k, e, m, i⟩ => ⟨r, vs, k, e, hs _ m, i⟩
theorem cx_of {w : World} {mean : ExcName → Option Value} {mg mb : Str → Option Value} {G h : Heap} {L : Addr} {m : Str → Option Value} (F : Fr G L h m) (X : (hd.heap_1 w.params).In G) (T : Top view (looseW view []) mean mg mb G) : Cx w mean mg mb G h := ⟨X, T, fun b o e => F.keep b o e⟩
theorem px4 {h₀ h : Heap} {L : Addr} {B : List (Addr × Obj)} {t1 t2 t3 t4 : Addr} {p1 p2 p3 p4 : Px} (_N : News h₀ L h B) (m1 : (t1, p1.obj) ∈ B) (m2 : (t2, p2.obj) ∈ B) (m3 : (t3, p3.obj) ∈ B) (m4 : (t4, p4.obj) ∈ B) : All2 PxAt B [.ref t1, .ref t2, .ref t3, .ref t4] [p1, p2, p3, p4] :=
  .cons ⟨t1, rfl, m1⟩ (.cons ⟨t2, rfl, m2⟩ (.cons ⟨t3, rfl, m3⟩ (.cons ⟨t4, rfl, m4⟩ .nil)))
/-- the turns of the comprehension that makes the rows -/
def JP (Y : List (Addr × Obj)) (i : Nat) (ys : List Value) (news : List (Addr × Obj)) : Prop := ∃ Ps : List Row, Ps.length = i ∧ (∀ P ∈ Ps, P.Ok) ∧ (∀ p ∈ Y, p ∈ news) ∧ All2 RowI news ys Ps
theorem JP.step {Y news new : List (Addr × Obj)} {i : Nat} {ys : List Value} {v : Value} {P : Row} (h : JP Y i ys news) (hP : P.Ok) (hv : RowI (new ++ news) v P) : JP Y (i + 1) (ys ++ [v]) (new ++ news) := by
  obtain ⟨Ps, h1, h2, h3, h4⟩ := h
  refine ⟨Ps ++ [P], by simp [h1], fun Q hQ => ?_, fun p hp => List.mem_append_right _ (h3 p hp), (h4.sub mRowI fun p hp => List.mem_append_right _ hp).snoc hv⟩
  rcases List.mem_append.mp hQ with hQ | hQ
  · exact h2 Q hQ
  · rw [List.mem_singleton.mp hQ]; exact hP
theorem JP.init (Y : List (Addr × Obj)) : JP Y 0 [] Y := ⟨[], rfl, (fun _ h => by cases h), fun p hp => hp, .nil⟩
theorem JM.init {α : Type} {R : List (Addr × Obj) → Value → α → Prop} (Y : List (Addr × Obj)) (as : List α) : JM R Y as 0 [] Y := ⟨fun p hp => hp, .nil⟩
/-! two lists with the same data -/
theorem ne_same {prog : Program} {w : World} {A : Around} {E : Value → Shared → Prop} {s : Shared} {a b : Value} {d : PyData} {as bs : List Addr} {Q : Value → Shared → Prop} (ra : Reads s.heap a d as) (rb : Reads s.heap b d bs) (hc : d.canLay0 = true) (hd : d.depth ≤ 64) (hu : A.units + 64 < cLine)
    (h : Q (.bool false) s) : wpAny (model prog w) A (compareOp .NotEq a b) Q E s := by
  have hs : PySem.SeqAt.shaped d = true := by
    unfold PySem.SeqAt.shaped
    rw [hc, decide_eq_true hd]; rfl
  exact ne_dataH ra rb hs hs hu (by rw [PySem.SeqAt.eqv_refl _ hc]; exact h)
theorem all2_reads {α : Type} {R : List (Addr × Obj) → Value → α → Prop} {B : List (Addr × Obj)} {h : Heap} {D : α → PyData} (hR : ∀ v a, R B v a → ∃ ads, Reads h v (D a) ads) {ys : List Value} {as : List α} (H : All2 R B ys as) : ∃ ads, ReadsAll h ys (as.map D) ads := by
  induction H with
  | nil => exact ⟨_, .nil⟩
  | cons a _ ih =>
    obtain ⟨x, hx⟩ := hR _ _ a
    obtain ⟨y, hy⟩ := ih
    exact ⟨_, .cons hx hy⟩
theorem list_reads {α : Type} {R : List (Addr × Obj) → Value → α → Prop} {B : List (Addr × Obj)} {h₀ h : Heap} {L : Addr} {D : α → PyData} (N : News h₀ L h B) (hR : ∀ v a, R B v a → ∃ ads, Reads h v (D a) ads) {l : Addr} {ys : List Value} {k : Nat} {as : List α} (hm : (l, lst ys k) ∈ B) (H : All2 R B ys as) : ∃ ads, Reads h (.ref l) (.list (as.map D)) ads := by
  obtain ⟨x, hx⟩ := all2_reads hR H
  exact ⟨_, Reads.list (N _ hm).1 rfl rfl hx⟩
theorem canLay_map {α : Type} {D : α → PyData} (h : ∀ a, (D a).canLay0 = true) : ∀ as : List α, PyData.canLayAll0 (as.map D) = true
  | [] => by simp [PyData.canLayAll0]
  | a :: r => by simp [PyData.canLayAll0, h a, canLay_map h r]
theorem depth_map {α : Type} {D : α → PyData} {n : Nat} (h : ∀ a, (D a).depth ≤ n) : ∀ as : List α, PyData.depthAll (as.map D) ≤ n
  | [] => by simp [PyData.depthAll]
  | a :: r => by
    have h1 := h a
    have h2 := depth_map h r
    simp only [List.map_cons, PyData.depthAll]
    omega
theorem ne_lists {prog : Program} {w : World} {A : Around} {E : Value → Shared → Prop} {s : Shared} {α : Type} {R R' : List (Addr × Obj) → Value → α → Prop} {B : List (Addr × Obj)} {h₀ : Heap} {L l b : Addr} {D : α → PyData} {ys zs : List Value} {k1 k2 : Nat} {as : List α} {Q : Value → Shared → Prop} (N : News h₀ L s.heap B)
    (hR : ∀ v a, R B v a → ∃ ads, Reads s.heap v (D a) ads) (hR' : ∀ v a, R' B v a → ∃ ads, Reads s.heap v (D a) ads) (h1 : (l, lst ys k1) ∈ B) (H1 : All2 R B ys as) (h2 : (b, lst zs k2) ∈ B) (H2 : All2 R' B zs as) (hc : ∀ a, (D a).canLay0 = true) (hd : ∀ a, (D a).depth ≤ 60) (hu : A.units + 64 < cLine)
    (h : Q (.bool false) s) : wpAny (model prog w) A (compareOp .NotEq (.ref l) (.ref b)) Q E s := by
  obtain ⟨x, hx⟩ := list_reads N hR h1 H1
  obtain ⟨y, hy⟩ := list_reads N hR' h2 H2
  refine ne_same hx hy ?_ ?_ hu h
  · simp only [PyData.canLay0]; exact canLay_map hc as
  · have := depth_map hd as
    simp only [PyData.depth]; omega
def dInts (ws : List Int) : PyData := .list (ws.map .int)
theorem dInts_lay (ws : List Int) : (dInts ws).canLay0 = true := by simp only [dInts, PyData.canLay0]; exact canLay_map (fun _ => by simp [PyData.canLay0]) ws
theorem dInts_depth (ws : List Int) : (dInts ws).depth ≤ 60 := by
  have := depth_map (D := PyData.int) (n := 0) (fun a => by simp [PyData.depth]) ws
  simp only [dInts, PyData.depth]; omega
theorem rowW_reads {h₀ h : Heap} {L : Addr} {B : List (Addr × Obj)} (N : News h₀ L h B) : ∀ v ws, RowW B v ws → ∃ ads, Reads h v (dInts ws) ads := by
  rintro v ws ⟨r, vs, k, rfl, hm, hi⟩
  exact ⟨_, reads_of_ints (News.isList N hm) hi⟩
def dPx (p : Px) : PyData := .tuple [.int (4 - p.r), .int (4 - p.g), .int (4 - p.b)]
def dRow (P : Row) : PyData := .list [dPx P.p1, dPx P.p2, dPx P.p3, dPx P.p4]
theorem dRow_lay (P : Row) : (dRow P).canLay0 = true := by simp [dRow, dPx, PyData.canLay0, PyData.canLayAll0]
theorem dRow_depth (P : Row) : (dRow P).depth ≤ 60 := by simp [dRow, dPx, PyData.depth, PyData.depthAll]
theorem rob_reads {h₀ h : Heap} {L : Addr} {B : List (Addr × Obj)} (N : News h₀ L h B) {t : Addr} {p : Px} {x y z : Tok} (hm : (t, rob p x y z) ∈ B) : ∃ ads, Reads h (.ref t) (dPx p) ads :=
  ⟨_, Reads.tuple (N _ hm).1 rfl rfl (.cons (.int _ _) (.cons (.int _ _) (.cons (.int _ _) .nil)))⟩
theorem rowR_reads {h₀ h : Heap} {L : Addr} {B : List (Addr × Obj)} (N : News h₀ L h B) : ∀ v P, RowR B v P → ∃ ads, Reads h v (dRow P) ads := by
  rintro v P ⟨r, t1, t2, t3, t4, k, a1, b1, d1, a2, b2, d2, a3, b3, d3, a4, b4, d4, rfl, m0, m1, m2, m3, m4⟩
  obtain ⟨x1, r1⟩ := rob_reads N m1
  obtain ⟨x2, r2⟩ := rob_reads N m2
  obtain ⟨x3, r3⟩ := rob_reads N m3
  obtain ⟨x4, r4⟩ := rob_reads N m4
  exact ⟨_, Reads.list (N _ m0).1 rfl rfl (.cons r1 (.cons r2 (.cons r3 (.cons r4 .nil))))⟩
theorem get_map {α : Type} {Ps : List Row} {f : Row → α} {i : Nat} {a : α} (h : (Ps.map f)[i]? = some a) : ∃ P, Ps[i]? = some P ∧ a = f P := by
  rw [List.getElem?_map] at h
  obtain ⟨P, h1, h2⟩ := Option.map_eq_some_iff.mp h
  exact ⟨P, h1, h2.symm⟩
theorem map_at {α : Type} {Ps : List Row} (f : Row → α) {i : Nat} {P : Row} (h : Ps[i]? = some P) : (Ps.map f)[i]? = some (f P) := by
  rw [List.getElem?_map, h]; rfl
def Row.colds (P : Row) : List Int := [-pheat P.p1, -pheat P.p2, -pheat P.p3, -pheat P.p4]
def Row.stalk (P : Row) : List Int := edgesOf P.heats
theorem colds_eq (P : Row) : P.colds = P.heats.map fun w => -w := rfl
theorem stalk_len (P : Row) : P.stalk.length ≤ 4 := edges_len P.heats
theorem stalk_pm (P : Row) : ∀ e ∈ P.stalk, e = 1 ∨ e = -1 := edges_pm P.heats
theorem stalk_neg (P : Row) : edgesOf P.colds = P.stalk.map fun e => -e := by rw [colds_eq, edges_neg]; rfl
theorem obs5 {h₀ h : Heap} {L : Addr} {B : List (Addr × Obj)} (N : News h₀ L h B) {p0 p1 p2 p3 p4 : Addr × Obj} (q0 : p0 ∈ B) (q1 : p1 ∈ B) (q2 : p2 ∈ B) (q3 : p3 ∈ B) (q4 : p4 ∈ B) : Obs h₀ h [p0, p1, p2, p3, p4] :=
  obs_cons (ob_of N q0) (obs_cons (ob_of N q1) (obs_cons (ob_of N q2) (obs_cons (ob_of N q3) (obs_cons (ob_of N q4) obs_nil))))
theorem obs1 {h₀ h : Heap} {L : Addr} {B : List (Addr × Obj)} (N : News h₀ L h B) {p0 : Addr × Obj} (q0 : p0 ∈ B) : Obs h₀ h [p0] := obs_cons (ob_of N q0) obs_nil
theorem in3 {α : Type} {B : List α} {a b c p : α} (h : p ∈ B) : p ∈ a :: b :: c :: B := .tail _ (.tail _ (.tail _ h))
theorem strA_reads {h : Heap} {B : List (Addr × Obj)} : ∀ v x, StrA B v x → ∃ ads, Reads h v (.str x) ads := by
  rintro v x ⟨t, rfl⟩
  exact ⟨_, Reads.str _ _⟩
theorem sgn_low (i : Nat) : sgn i < 0x110000 := by
  match i with
  | 0 => decide
  | 1 => decide
  | 2 => decide
  | 3 => decide
  | 4 => decide
  | n + 5 => exact (by decide : (45 : Nat) < 0x110000)
theorem name_ok (c : Int) (ws : List Int) : (PyData.str (nameOf c ws)).canLay0 = true := by
  simp only [PyData.canLay0]
  show (nameOf c ws).cps.all (· < 0x110000) = true
  rw [← Array.all_toList, name_blocks, List.all_eq_true]
  intro x hx
  obtain ⟨i, _, rfl⟩ := List.mem_map.mp hx
  exact decide_eq_true (sgn_low i)
theorem ne_texts {prog : Program} {w : World} {A : Around} {E : Value → Shared → Prop} {s : Shared} {B : List (Addr × Obj)} {h₀ : Heap} {L l b : Addr} {ys zs : List Value} {k1 k2 : Nat} {Ps : List Row} {c : Int} {Q : Value → Shared → Prop} (N : News h₀ L s.heap B)
    (h1 : (l, lst ys k1) ∈ B) (H1 : All2 StrA B ys (Ps.map fun P => nameOf c P.stalk)) (h2 : (b, lst zs k2) ∈ B) (H2 : All2 StrA B zs (Ps.map fun P => nameOf c P.stalk)) (hu : A.units + 64 < cLine)
    (h : Q (.bool false) s) : wpAny (model prog w) A (compareOp .NotEq (.ref l) (.ref b)) Q E s := by
  obtain ⟨x, hx⟩ := list_reads (D := PyData.str) N strA_reads h1 H1
  obtain ⟨y, hy⟩ := list_reads (D := PyData.str) N strA_reads h2 H2
  rw [List.map_map] at hx hy
  refine ne_same hx hy ?_ ?_ hu h
  · simp only [PyData.canLay0]; exact canLay_map (D := PyData.str ∘ fun P : Row => nameOf c P.stalk) (fun P => name_ok c P.stalk) Ps
  · have := depth_map (D := PyData.str ∘ fun P : Row => nameOf c P.stalk) (n := 0) (fun a => by simp [PyData.depth]) Ps
    simp only [PyData.depth]; omega
def KPMap (m₀ m : Str → Option Value) : Prop := ∃ u v, m = fun y => if y = PySem.Str.ofString "played" then u else if y = PySem.Str.ofString "k" then v else m₀ y
theorem KPMap.init (m₀ : Str → Option Value) : KPMap m₀ m₀ := ⟨m₀ (PySem.Str.ofString "played"), m₀ (PySem.Str.ofString "k"), funext fun y => by
  by_cases h : y = PySem.Str.ofString "played"
  · subst h; simp
  · by_cases h2 : y = PySem.Str.ofString "k"
    · subst h2; simp [h]
    · simp only [if_neg h, if_neg h2]⟩
theorem KPMap.turn {m₀ : Str → Option Value} {u v x z : Option Value} : KPMap m₀ (fun y => if y = PySem.Str.ofString "played" then x else if y = PySem.Str.ofString "k" then z else if y = PySem.Str.ofString "played" then u else if y = PySem.Str.ofString "k" then v else m₀ y) := ⟨x, z, funext fun y => by
  by_cases h : y = PySem.Str.ofString "played"
  · simp only [if_pos h]
  · by_cases h2 : y = PySem.Str.ofString "k"
    · simp only [if_neg h, if_pos h2]
    · simp only [if_neg h, if_neg h2]⟩
def JK (all : List (Addr × Obj)) (m₀ : Str → Option Value) (_ : Nat) (m : Str → Option Value) (B : List (Addr × Obj)) : Prop := KPMap m₀ m ∧ ∀ p ∈ all, p ∈ B
section
variable {prog : Program} {w : World} {A : Around} {E : Value → Shared → Prop} {s : Shared} {B : List (Addr × Obj)} {h₀ : Heap} {L : Addr} {Q : Value → Shared → Prop}
theorem item_K {value slice : PySem.Expr} {l : Addr} {ys : List Value} {n : Nat} {k : Int} {u : Tok} {v : Value} (N : News h₀ L s.heap B) (hm : (l, lst ys n) ∈ B) (h0 : 0 ≤ k) (hk : k ≤ 1000) (hv : ys[k.toNat]? = some v) (h : Q v s)
    (hs : subscripted slice false (.ref l) (.int k u) = operate [.ref l, .int k u] (getItem (.ref l) (.int k u)) := by with_unfolding_all rfl) :
    wpAny (model prog w) A (subscriptTail value slice (.ref l) (.int k u)) Q E s :=
  item_litK (News.isList N hm) h0 (by omega) hv h hs
theorem item_P {value slice : PySem.Expr} {l : Addr} {ys : List Value} {n i : Nat} {u : Tok} {v : Value} (N : News h₀ L s.heap B) (hm : (l, lst ys n) ∈ B) (hi : i < 3) (hl : ys.length = 3) (hv : ys[(i + 2) % 3]? = some v) (h : Q v s)
    (hs : subscripted slice false (.ref l) (.int ((i : Int) - 1) u) = operate [.ref l, .int ((i : Int) - 1) u] (getItem (.ref l) (.int ((i : Int) - 1) u)) := by with_unfolding_all rfl) :
    wpAny (model prog w) A (subscriptTail value slice (.ref l) (.int ((i : Int) - 1) u)) Q E s := by
  have hL := News.isList N hm
  by_cases h0 : i = 0
  · refine tail_any hL.typeIs slot_list_getitem.lookup (wpAny_getItem_list_neg hL (by omega) (by rw [List.size_toArray, hl]; omega) (by omega) ?_ h) hs
    have e : (((i : Int) - 1) + ((ys.toArray.size : Nat) : Int)).toNat = (i + 2) % 3 := by rw [List.size_toArray, hl]; omega
    rw [e]; simpa using hv
  · refine item_litK hL (by omega) (by omega) ?_ h hs
    have e : ((i : Int) - 1).toNat = (i + 2) % 3 := by omega
    rw [e]; exact hv
theorem ne_bools {l b : Addr} {x y x' y' : Bool} {k1 k2 : Nat} (N : News h₀ L s.heap B) (h1 : (l, lst [.bool x, .bool y] k1) ∈ B) (h2 : (b, lst [.bool x', .bool y'] k2) ∈ B) (e1 : x' = x) (e2 : y' = y) (hu : A.units + 64 < cLine)
    (h : Q (.bool false) s) : wpAny (model prog w) A (compareOp .NotEq (.ref l) (.ref b)) Q E s := by
  subst e1 e2
  exact ne_same (d := .list [.bool x', .bool y']) (Reads.list (N _ h1).1 rfl rfl (.cons (.bool _) (.cons (.bool _) .nil))) (Reads.list (N _ h2).1 rfl rfl (.cons (.bool _) (.cons (.bool _) .nil))) (by simp [PyData.canLay0, PyData.canLayAll0]) (by simp [PyData.depth, PyData.depthAll]) hu h
end
theorem neg_sub (a b : Int) : isNeg (b - a) = isPos (a + -b) := by
  rw [Bool.eq_iff_iff, isPos_iff, isNeg_iff]; omega
theorem neg_add (a b : Int) : isNeg (a - b) = isNeg (a + -b) := by
  rw [Bool.eq_iff_iff, isNeg_iff, isNeg_iff]; omega
theorem neg_pm {s : List Int} (h : ∀ e ∈ s, e = 1 ∨ e = -1) : ∀ e ∈ s.map fun e => -e, e = 1 ∨ e = -1 := by
  intro e he
  obtain ⟨x, hx, rfl⟩ := List.mem_map.mp he
  rcases h x hx with rfl | rfl
  · exact .inr rfl
  · exact .inl rfl
theorem app_pm {a b : List Int} (h : ∀ e ∈ a, e = 1 ∨ e = -1) (k : ∀ e ∈ b, e = 1 ∨ e = -1) : ∀ e ∈ a ++ b, e = 1 ∨ e = -1 := fun e he => by
  rcases List.mem_append.mp he with he | he
  · exact h e he
  · exact k e he
theorem eq_bytes_same {prog : Program} {w : World} {A : Around} {E : Value → Shared → Prop} {s : Shared} {Q : Value → Shared → Prop} {b c : Array UInt8} {t u : Tok} (e : b = c) (h : Q (.bool true) s) : wpAny (model prog w) A (compareOp .Eq (.bytes b t) (.bytes c u)) Q E s := by
  subst e
  exact PySem.W.eq_bytes (by rw [beq_self_eq_true]; exact h)
end
section
/-! F13 -/
local macro_rules | `(tactic| k_steps) => `(tactic| repeat' (first | (k_unfold; (try dsimp only)) | (k_end; wrow_close) | (walk1; (all_goals try dsimp only)) | (dsimp only; walk1; (all_goals try dsimp only)) | (leave1; walk_say "STEP leave1"; try dsimp only) | fail "no step"))
local macro_rules | `(tactic| k_qdec) => `(tactic| decide +kernel)
local macro_rules | `(tactic| tm_val) => `(tactic| exact PyProof.Rows.v_eq_bool (PyProof.Rows.v_res (by first | rfl | decide | assumption)) PyProof.Rows.v_lit)
local macro_rules | `(tactic| walk_at "SrcG") => `(tactic| (k_here; refine stubm ?_))
local macro_rules | `(tactic| walk_at "call ref") => `(tactic| (k_here; refine stubm ?_))
local macro_rules | `(tactic| walk_at "compareOp NotEq ref ref") => `(tactic| (k_here; refine stubm ?_))
local macro_rules | `(tactic| walk_at "exec For Name Call cons nil") => `(tactic| (k_here; refine stubm ?_))
local macro_rules | `(tactic| walk_at "pyIter ref") => `(tactic| (k_here; refine stubm ?_))
local macro_rules | `(tactic| k_mem) => `(tactic| assumption)
local macro_rules | `(tactic| walk_at "subscriptTail") => `(tactic| (k_here; (with_reducible show wpAny _ _ (subscriptTail (PySem.Expr.Name _ _) _ (Value.ref _) (Value.int _ _)) _ _ _); (first | (refine item_K (by k_asm) (by k_mem) (by omega) (by omega) (by assumption) ?_) | (refine item_P (by k_asm) (by k_mem) (by assumption) (by assumption) (by assumption) ?_))))
local macro_rules | `(tactic| walk_at "binaryOp Add ref ref") => `(tactic| (k_here; (refine add_W (by k_asm) (by k_asm) (by k_mem) (by k_mem) (by assumption) (by assumption) (by first | omega | (simp only [List.length_append]; omega)) ?_); intro h9' D9' F' N' hI9'))
local macro_rules | `(tactic| walk_at "compareOp Eq bytes bytes") => `(tactic| (k_here; (refine eq_bytes_same (by first | rfl | (rw [Int.natAbs_neg])) ?_)))
local macro_rules | `(tactic| walk_at "getMethod bytes") => `(tactic| (k_here; refine get_decode ?_))
local macro_rules | `(tactic| walk_at "call builtin:bytes.decode") => `(tactic| (k_here; refine stubm ?_))
local macro_rules | `(tactic| walk_at "call builtin:sum") => `(tactic| (k_here; (refine sumK (by with_unfolding_all rfl) (by k_asm) (by k_asm) (News.isList (by k_asm) (by k_mem)) (.cons _ _ (.cons _ _ (.cons _ _ .nil))) ?_); intro h' tk' t' F' N'))
local macro_rules | `(tactic| walk_at "binaryOp Mult int int") => `(tactic| (k_here; k_dflt (refine mul_int (hm := IntMulOk.of_left (intBits_le_64 (by decide) (by decide))) ?_)))
local macro_rules | `(tactic| walk_at "Turns") => `(tactic| (with_unfolding_all first
  | (refine Turns.name (by rfl) (step_plain ?_); intro I' oI' C' oC' D' m' h' tk' E' hle9' hC' hx' F' N' off' hS' ne'; (unfold BdName at hx'); (try simp only [List.cons_append, List.nil_append, List.getElem_toArray, List.getElem_cons_zero, List.getElem_cons_succ] at hx'); have off9' := off'; (try simp only [LCg.Off3, and_true] at off9'))
  | refine Turns.zero ?_))
theorem t1 : PySem.Challenge.rw_wu0004_01.Holds := hd (by
  k_go0
  with_reducible rename IntsAre _ _ => hI
  k_steps
  refine Marker.mk ?_
  with_reducible rename News _ _ _ _ => N0
  with_reducible rename Fr _ _ _ _ => F0
  refine c_numbers (cx_of F0 (by assumption) (by assumption)) ⟨rfl, Nat.le_of_ble_eq_true rfl, Nat.le_of_ble_eq_true rfl⟩ _ _ _ (Heap.IsList.at (by assumption) fun o e => F0.keep _ o e) hI (by omega) ?_
  intro t0 n0 na nb nc x0 y0 z0 h1 tk1 e1 M1
  have N1 := news_made F0 N0 e1 M1
  have F1 := fr_ext F0 e1
  have ne1 := made_apart N0 M1
  simp only [List.cons_append, List.nil_append] at N1
  simp only [AllNe2, AllNe, and_true] at ne1
  clear N0 F0 M1 e1
  k_steps
  as_aux_lemma =>
  refine Marker.mk ?_
  with_reducible rename News _ _ _ _ => N2
  with_reducible rename Fr _ _ _ _ => F2
  have hnum : ∀ B, All2 IntA B [.int na x0, .int nb y0, .int nc z0] [na, nb, nc] := fun B => .cons ⟨_, rfl⟩ (.cons ⟨_, rfl⟩ (.cons ⟨_, rfl⟩ .nil))
  refine src_name_l 3 (by rfl) F2 N2 (.head _) (by rfl) (Nat.le_of_ble_eq_true rfl) (by rfl) (by rfl) ?_
  intro g2
  refine turns_ind (n := 3) (JP _) ?_ ?_ _ 0 [] _ (Nat.zero_add _) (JP.init _)
  · as_aux_lemma =>
    rintro i zs news v hi hJ hv
    obtain ⟨a, ha, ta, rfl⟩ := (hnum news).get (by simpa using hv)
    refine ⟨trivial, step_plain ?_⟩
    intro I' oI' C' oC' D' m' h' tk' E' hle9' hC' hx' F' N' off' hS' ne'
    unfold BdName at hx'
    have off9' := off'
    (try k_fold)
    k_steps
    refine Marker.mk ?_
    refine c_pixels (cx_of F' (by assumption) (by assumption)) ⟨rfl, Nat.le_of_ble_eq_true rfl, Nat.le_of_ble_eq_true rfl⟩ _ _ ?_
    intro t k t1 t2 t3 t4 p1 p2 p3 p4 h9 tk9 e9 M9 o1 o2 o3 o4
    exact compEnd_made F' N' e9 M9 off' (srcAt_app _ hS') (hJ.step (P := ⟨p1, p2, p3, p4⟩) ⟨o1, o2, o3, o4⟩ ⟨t, t1, t2, t3, t4, k, rfl, .head _, .tail _ (.head _), .tail _ (.tail _ (.head _)), .tail _ (.tail _ (.tail _ (.head _))), .tail _ (.tail _ (.tail _ (.tail _ (.head _))))⟩)
  rintro yR news ⟨Ps, hP3, hOk, hsub, aR⟩
  unfold LCg.FinA
  intro dR h3 tk3 F3 N3 o3
  have mnum := hsub _ (.head _)
  have mcell := hsub _ (.tail _ (.head _))
  replace mnum := List.mem_cons_of_mem (dR, LCg.lst yR) mnum
  replace mcell := List.mem_cons_of_mem (dR, LCg.lst yR) mcell
  replace aR := aR.sub mRowI (fun p hp => List.Mem.tail (dR, LCg.lst yR) hp)
  have mR : (dR, LCg.lst yR) ∈ (dR, LCg.lst yR) :: news := .head _
  clear hsub N2 F2 hnum o3
  generalize (dR, LCg.lst yR) :: news = all at mnum mcell aR mR N3
  clear news
  (try dsimp only)
  k_steps
  as_aux_lemma =>
  refine Marker.mk ?_
  with_reducible rename News _ _ _ _ => N9
  with_reducible rename Fr _ _ _ _ => F9
  have len9 := aR.len
  refine src_name_l yR.length (by rfl) F9 N9 mR (by simp) (by rw [len9, hP3, PySem.sizeLine_eq]; omega) (by rfl) (by rfl) ?_
  intro g9
  refine turns_ind (n := yR.length) (JM RowW all (Ps.map Row.heats)) ?_ ?_ _ 0 [] all (Nat.zero_add _) (JM.init _ _)
  · as_aux_lemma =>
    rintro i zs news v hi hJ hv
    obtain ⟨P0, ha, hRa⟩ := (aR.sub mRowI hJ.1).get (by simpa using hv)
    have ok := hOk _ (List.mem_of_getElem? ha)
    obtain ⟨r, t1, t2, t3, t4, k, rfl, q0, q1, q2, q3, q4⟩ := hRa
    refine ⟨trivial, step_plain ?_⟩
    intro I' oI' C' oC' D' m' h' tk' E' hle9' hC' hx' F' N' off' hS' ne'
    unfold BdName at hx'
    have off9' := off'
    (try k_fold)
    k_steps
    refine Marker.mk ?_
    refine c_warmI (cx_of F' (by assumption) (by assumption)) ⟨rfl, Nat.le_of_ble_eq_true rfl, Nat.le_of_ble_eq_true rfl⟩ r t1 t2 t3 t4 k P0.p1 P0.p2 P0.p3 P0.p4 ok.o1 ok.o2 ok.o3 ok.o4 (obs5 N' (in3 q0) (in3 q1) (in3 q2) (in3 q3) (in3 q4)) ?_
    intro t n x1 x2 x3 x4 h9 tk9 e9 M9
    exact compEnd_made F' N' e9 M9 off' (srcAt_app _ hS') (hJ.step mRowW (map_at Row.heats ha) ⟨t, _, n, rfl, .head _, (.cons _ _ (.cons _ _ (.cons _ _ (.cons _ _ .nil))))⟩)
  rintro yW news hJ
  obtain ⟨hsub, aW⟩ := hJ.fin (by simp [len9])
  unfold LCg.FinA
  intro dW hW tkW FW NW oW
  have hsB : ∀ p ∈ all, p ∈ (dW, LCg.lst yW) :: news := fun p hp => .tail _ (hsub p hp)
  have mW : (dW, LCg.lst yW) ∈ (dW, LCg.lst yW) :: news := .head _
  replace aW := aW.sub mRowW (fun p hp => List.Mem.tail (dW, LCg.lst yW) hp)
  replace mnum := hsB _ mnum
  replace mcell := hsB _ mcell
  replace mR := hsB _ mR
  replace aR := aR.sub mRowI hsB
  clear hsB hsub hJ N9 F9 len9 oW
  clear all
  generalize (dW, LCg.lst yW) :: news = all at mnum mcell mR aR mW aW NW
  clear news
  (try clear g9)
  (try dsimp only)
  k_steps
  as_aux_lemma =>
  refine Marker.mk ?_
  with_reducible rename News _ _ _ _ => N9
  with_reducible rename Fr _ _ _ _ => F9
  have len9 := aR.len
  refine src_name_l yR.length (by rfl) F9 N9 mR (by simp) (by rw [len9, hP3, PySem.sizeLine_eq]; omega) (by rfl) (by rfl) ?_
  intro g9
  refine turns_ind (n := yR.length) (JM RowW all (Ps.map Row.heats)) ?_ ?_ _ 0 [] all (Nat.zero_add _) (JM.init _ _)
  · as_aux_lemma =>
    rintro i zs news v hi hJ hv
    obtain ⟨P0, ha, hRa⟩ := (aR.sub mRowI hJ.1).get (by simpa using hv)
    have ok := hOk _ (List.mem_of_getElem? ha)
    obtain ⟨r, t1, t2, t3, t4, k, rfl, q0, q1, q2, q3, q4⟩ := hRa
    refine ⟨trivial, step_plain ?_⟩
    intro I' oI' C' oC' D' m' h' tk' E' hle9' hC' hx' F' N' off' hS' ne'
    unfold BdName at hx'
    have off9' := off'
    (try k_fold)
    k_steps
    refine Marker.mk ?_
    with_reducible rename News _ _ _ _ => N5
    with_reducible rename Fr _ _ _ _ => F5
    have hsrc := px4 N5 (in3 q1) (in3 q2) (in3 q3) (in3 q4)
    refine src_three_l 4 (by rfl) F5 N5 (in3 q0) (by rfl) (Nat.le_of_ble_eq_true rfl) (by rfl) (by rfl) (by rfl) (by rfl) (by decide) (by decide) (by decide) ?_
    intro g5
    refine turns_same (n := 4) (fun j ys => IntsAre ys (([P0.p1, P0.p2, P0.p3, P0.p4].take j).map pheat)) ?_ ?_ _ 0 [] (Nat.zero_add _) .nil
    · as_aux_lemma =>
      rintro j ys w hj hJ2 hw
      obtain ⟨p, hp, t, rfl, ht⟩ := hsrc.get (by simpa using hw)
      refine ⟨⟨t, _, _, _, _, rfl, ht⟩, step_plain ?_⟩
      clear F5 N5 off' hS' ne' off9'
      intro I' oI' C' oC' D' m' h' tk' E' hle9' hC' hx' F' N' off' hS' ne'
      obtain ⟨hx1, hx2, hx3⟩ := bd3_get N' (fun q hq => .tail _ (.tail _ (.tail _ hq))) ht hx'
      have off9' := off'
      clear hx' hsrc ht
      (try dsimp only)
      (try k_fold)
      k_steps
      exact ints_mapA hJ2 hp (by unfold pheat; rfl)
    rintro ys hJ2
    unfold LCg.FinE
    intro D2 h2 tk2 F2 N2 o2
    (try simp only [LCg.Off1, and_true] at o2)
    (try dsimp only)
    k_steps
    exact hJ.step (new := [_]) mRowW (map_at Row.heats ha) ⟨_, _, _, rfl, .head _, hJ2⟩
  rintro yX news hJ
  obtain ⟨hsub, aX⟩ := hJ.fin (by simp [len9])
  unfold LCg.FinE
  intro dX hX tkX FX NX oX
  have hsB : ∀ p ∈ all, p ∈ (dX, LCg.lst yX) :: news := fun p hp => .tail _ (hsub p hp)
  have mX : (dX, LCg.lst yX) ∈ (dX, LCg.lst yX) :: news := .head _
  replace aX := aX.sub mRowW (fun p hp => List.Mem.tail (dX, LCg.lst yX) hp)
  replace mnum := hsB _ mnum
  replace mcell := hsB _ mcell
  replace mR := hsB _ mR
  replace aR := aR.sub mRowI hsB
  replace mW := hsB _ mW
  replace aW := aW.sub mRowW hsB
  clear hsB hsub hJ N9 F9 len9 oX
  clear all
  generalize (dX, LCg.lst yX) :: news = all at mnum mcell mR aR mW aW mX aX NX
  clear news
  (try clear g9)
  (try dsimp only)
  k_steps
  refine Marker.mk ?_
  with_reducible rename News _ _ _ _ => N9
  refine ne_lists N9 (rowW_reads N9) (rowW_reads N9) mW aW mX aX dInts_lay dInts_depth (by units_room) ?_
  clear mX
  clear aX
  k_steps
  as_aux_lemma =>
  refine Marker.mk ?_
  with_reducible rename News _ _ _ _ => N9
  with_reducible rename Fr _ _ _ _ => F9
  have len9 := aR.len
  refine src_name_l yR.length (by rfl) F9 N9 mR (by simp) (by rw [len9, hP3, PySem.sizeLine_eq]; omega) (by rfl) (by rfl) ?_
  intro g9
  refine turns_ind (n := yR.length) (JM RowN all Ps) ?_ ?_ _ 0 [] all (Nat.zero_add _) (JM.init _ _)
  · as_aux_lemma =>
    rintro i zs news v hi hJ hv
    obtain ⟨P0, ha, hRa⟩ := (aR.sub mRowI hJ.1).get (by simpa using hv)
    have ok := hOk _ (List.mem_of_getElem? ha)
    obtain ⟨r, t1, t2, t3, t4, k, rfl, q0, q1, q2, q3, q4⟩ := hRa
    refine ⟨trivial, step_plain ?_⟩
    intro I' oI' C' oC' D' m' h' tk' E' hle9' hC' hx' F' N' off' hS' ne'
    unfold BdName at hx'
    have off9' := off'
    (try k_fold)
    k_steps
    refine Marker.mk ?_
    refine c_negative (cx_of F' (by assumption) (by assumption)) ⟨rfl, Nat.le_of_ble_eq_true rfl, Nat.le_of_ble_eq_true rfl⟩ r t1 t2 t3 t4 k P0.p1 P0.p2 P0.p3 P0.p4 ok.o1 ok.o2 ok.o3 ok.o4 (obs5 N' (in3 q0) (in3 q1) (in3 q2) (in3 q3) (in3 q4)) ?_
    intro t n n1 n2 n3 n4 a1 b1 d1 a2 b2 d2 a3 b3 d3 a4 b4 d4 h9 tk9 e9 M9
    exact compEnd_made F' N' e9 M9 off' (srcAt_app _ hS') (hJ.step mRowN ha ⟨t, n1, n2, n3, n4, n, a1, b1, d1, a2, b2, d2, a3, b3, d3, a4, b4, d4, rfl, .head _, .tail _ (.head _), .tail _ (.tail _ (.head _)), .tail _ (.tail _ (.tail _ (.head _))), .tail _ (.tail _ (.tail _ (.tail _ (.head _))))⟩)
  rintro yN news hJ
  obtain ⟨hsub, aN⟩ := hJ.fin (by simp [len9])
  unfold LCg.FinA
  intro dN hN tkN FN NN oN
  have hsB : ∀ p ∈ all, p ∈ (dN, LCg.lst yN) :: news := fun p hp => .tail _ (hsub p hp)
  have mN : (dN, LCg.lst yN) ∈ (dN, LCg.lst yN) :: news := .head _
  replace aN := aN.sub mRowN (fun p hp => List.Mem.tail (dN, LCg.lst yN) hp)
  replace mnum := hsB _ mnum
  replace mcell := hsB _ mcell
  replace mR := hsB _ mR
  replace aR := aR.sub mRowI hsB
  replace mW := hsB _ mW
  replace aW := aW.sub mRowW hsB
  clear hsB hsub hJ N9 F9 len9 oN
  clear all
  generalize (dN, LCg.lst yN) :: news = all at mnum mcell mR aR mW aW mN aN NN
  clear news
  (try clear g9)
  (try dsimp only)
  k_steps
  as_aux_lemma =>
  refine Marker.mk ?_
  with_reducible rename News _ _ _ _ => N9
  with_reducible rename Fr _ _ _ _ => F9
  have len9 := aN.len
  refine src_name_l yN.length (by rfl) F9 N9 mN (by simp) (by rw [len9, hP3, PySem.sizeLine_eq]; omega) (by rfl) (by rfl) ?_
  intro g9
  refine turns_ind (n := yN.length) (JM RowR all Ps) ?_ ?_ _ 0 [] all (Nat.zero_add _) (JM.init _ _)
  · as_aux_lemma =>
    rintro i zs news v hi hJ hv
    obtain ⟨P0, ha, hRa⟩ := (aN.sub mRowN hJ.1).get (by simpa using hv)
    have ok := hOk _ (List.mem_of_getElem? ha)
    obtain ⟨r, t1, t2, t3, t4, k, a1, b1, d1, a2, b2, d2, a3, b3, d3, a4, b4, d4, rfl, q0, q1, q2, q3, q4⟩ := hRa
    refine ⟨trivial, step_plain ?_⟩
    intro I' oI' C' oC' D' m' h' tk' E' hle9' hC' hx' F' N' off' hS' ne'
    unfold BdName at hx'
    have off9' := off'
    (try k_fold)
    k_steps
    refine Marker.mk ?_
    refine c_rounded (cx_of F' (by assumption) (by assumption)) ⟨rfl, Nat.le_of_ble_eq_true rfl, Nat.le_of_ble_eq_true rfl⟩ r t1 t2 t3 t4 k P0.p1 P0.p2 P0.p3 P0.p4 ok.o1 ok.o2 ok.o3 ok.o4 a1 b1 d1 a2 b2 d2 a3 b3 d3 a4 b4 d4 (obs5 N' (in3 q0) (in3 q1) (in3 q2) (in3 q3) (in3 q4)) ?_
    intro t n n1 n2 n3 n4 a1 b1 d1 a2 b2 d2 a3 b3 d3 a4 b4 d4 h9 tk9 e9 M9
    exact compEnd_made F' N' e9 M9 off' (srcAt_app _ hS') (hJ.step mRowR ha ⟨t, n1, n2, n3, n4, n, a1, b1, d1, a2, b2, d2, a3, b3, d3, a4, b4, d4, rfl, .head _, .tail _ (.head _), .tail _ (.tail _ (.head _)), .tail _ (.tail _ (.tail _ (.head _))), .tail _ (.tail _ (.tail _ (.tail _ (.head _))))⟩)
  rintro yX news hJ
  obtain ⟨hsub, aX⟩ := hJ.fin (by simp [len9])
  unfold LCg.FinE
  intro dX hX tkX FX NX oX
  have hsB : ∀ p ∈ all, p ∈ (dX, LCg.lst yX) :: news := fun p hp => .tail _ (hsub p hp)
  have mX : (dX, LCg.lst yX) ∈ (dX, LCg.lst yX) :: news := .head _
  replace aX := aX.sub mRowR (fun p hp => List.Mem.tail (dX, LCg.lst yX) hp)
  replace mnum := hsB _ mnum
  replace mcell := hsB _ mcell
  replace mR := hsB _ mR
  replace aR := aR.sub mRowI hsB
  replace mW := hsB _ mW
  replace aW := aW.sub mRowW hsB
  replace mN := hsB _ mN
  replace aN := aN.sub mRowN hsB
  clear hsB hsub hJ N9 F9 len9 oX
  clear all
  generalize (dX, LCg.lst yX) :: news = all at mnum mcell mR aR mW aW mN aN mX aX NX
  clear news
  (try clear g9)
  (try dsimp only)
  k_steps
  as_aux_lemma =>
  refine Marker.mk ?_
  with_reducible rename News _ _ _ _ => N9
  with_reducible rename Fr _ _ _ _ => F9
  have len9 := aR.len
  refine src_name_l yR.length (by rfl) F9 N9 mR (by simp) (by rw [len9, hP3, PySem.sizeLine_eq]; omega) (by rfl) (by rfl) ?_
  intro g9
  refine turns_ind (n := yR.length) (JM RowR all Ps) ?_ ?_ _ 0 [] all (Nat.zero_add _) (JM.init _ _)
  · as_aux_lemma =>
    rintro i zs news v hi hJ hv
    obtain ⟨P0, ha, hRa⟩ := (aR.sub mRowI hJ.1).get (by simpa using hv)
    have ok := hOk _ (List.mem_of_getElem? ha)
    obtain ⟨r, t1, t2, t3, t4, k, rfl, q0, q1, q2, q3, q4⟩ := hRa
    refine ⟨trivial, step_plain ?_⟩
    intro I' oI' C' oC' D' m' h' tk' E' hle9' hC' hx' F' N' off' hS' ne'
    unfold BdName at hx'
    have off9' := off'
    (try k_fold)
    k_steps
    refine Marker.mk ?_
    with_reducible rename News _ _ _ _ => N5
    with_reducible rename Fr _ _ _ _ => F5
    refine src_three_l 4 (by rfl) F5 N5 (in3 q0) (by rfl) (Nat.le_of_ble_eq_true rfl) (by rfl) (by rfl) (by rfl) (by rfl) (by decide) (by decide) (by decide) ?_
    intro g5
    k_steps
    exact hJ.step (new := [_, _, _, _, _]) mRowR ha ⟨_, _, _, _, _, _, _, _, _, _, _, _, _, _, _, _, _, _, rfl, .head _, .tail _ (.tail _ (.tail _ (.tail _ (.head _)))), .tail _ (.tail _ (.tail _ (.head _))), .tail _ (.tail _ (.head _)), .tail _ (.head _)⟩
  rintro yZ news hJ
  obtain ⟨hsub, aZ⟩ := hJ.fin (by simp [len9])
  unfold LCg.FinE
  intro dZ hZ tkZ FZ NZ oZ
  have hsB : ∀ p ∈ all, p ∈ (dZ, LCg.lst yZ) :: news := fun p hp => .tail _ (hsub p hp)
  have mZ : (dZ, LCg.lst yZ) ∈ (dZ, LCg.lst yZ) :: news := .head _
  replace aZ := aZ.sub mRowR (fun p hp => List.Mem.tail (dZ, LCg.lst yZ) hp)
  replace mnum := hsB _ mnum
  replace mcell := hsB _ mcell
  replace mR := hsB _ mR
  replace aR := aR.sub mRowI hsB
  replace mW := hsB _ mW
  replace aW := aW.sub mRowW hsB
  replace mN := hsB _ mN
  replace aN := aN.sub mRowN hsB
  replace mX := hsB _ mX
  replace aX := aX.sub mRowR hsB
  clear hsB hsub hJ N9 F9 len9 oZ
  clear all
  generalize (dZ, LCg.lst yZ) :: news = all at mnum mcell mR aR mW aW mN aN mX aX mZ aZ NZ
  clear news
  (try clear g9)
  (try dsimp only)
  k_steps
  refine Marker.mk ?_
  with_reducible rename News _ _ _ _ => N9
  refine ne_lists N9 (rowR_reads N9) (rowR_reads N9) mX aX mZ aZ dRow_lay dRow_depth (by units_room) ?_
  clear mX
  clear aX
  clear mZ
  clear aZ
  k_steps
  as_aux_lemma =>
  refine Marker.mk ?_
  with_reducible rename News _ _ _ _ => N9
  with_reducible rename Fr _ _ _ _ => F9
  have len9 := aN.len
  refine src_name_l yN.length (by rfl) F9 N9 mN (by simp) (by rw [len9, hP3, PySem.sizeLine_eq]; omega) (by rfl) (by rfl) ?_
  intro g9
  refine turns_ind (n := yN.length) (JM RowW all (Ps.map Row.colds)) ?_ ?_ _ 0 [] all (Nat.zero_add _) (JM.init _ _)
  · as_aux_lemma =>
    rintro i zs news v hi hJ hv
    obtain ⟨P0, ha, hRa⟩ := (aN.sub mRowN hJ.1).get (by simpa using hv)
    have ok := hOk _ (List.mem_of_getElem? ha)
    obtain ⟨r, t1, t2, t3, t4, k, a1, b1, d1, a2, b2, d2, a3, b3, d3, a4, b4, d4, rfl, q0, q1, q2, q3, q4⟩ := hRa
    refine ⟨trivial, step_plain ?_⟩
    intro I' oI' C' oC' D' m' h' tk' E' hle9' hC' hx' F' N' off' hS' ne'
    unfold BdName at hx'
    have off9' := off'
    (try k_fold)
    k_steps
    refine Marker.mk ?_
    refine c_warmF (cx_of F' (by assumption) (by assumption)) ⟨rfl, Nat.le_of_ble_eq_true rfl, Nat.le_of_ble_eq_true rfl⟩ r t1 t2 t3 t4 k P0.p1 P0.p2 P0.p3 P0.p4 ok.o1 ok.o2 ok.o3 ok.o4 a1 b1 d1 a2 b2 d2 a3 b3 d3 a4 b4 d4 (obs5 N' (in3 q0) (in3 q1) (in3 q2) (in3 q3) (in3 q4)) ?_
    intro t n x1 x2 x3 x4 h9 tk9 e9 M9
    exact compEnd_made F' N' e9 M9 off' (srcAt_app _ hS') (hJ.step mRowW (map_at Row.colds ha) ⟨t, _, n, rfl, .head _, (.cons _ _ (.cons _ _ (.cons _ _ (.cons _ _ .nil))))⟩)
  rintro yT news hJ
  obtain ⟨hsub, aT⟩ := hJ.fin (by simp [len9])
  unfold LCg.FinA
  intro dT hT tkT FT NT oT
  have hsB : ∀ p ∈ all, p ∈ (dT, LCg.lst yT) :: news := fun p hp => .tail _ (hsub p hp)
  have mT : (dT, LCg.lst yT) ∈ (dT, LCg.lst yT) :: news := .head _
  replace aT := aT.sub mRowW (fun p hp => List.Mem.tail (dT, LCg.lst yT) hp)
  replace mnum := hsB _ mnum
  replace mcell := hsB _ mcell
  replace mR := hsB _ mR
  replace aR := aR.sub mRowI hsB
  replace mW := hsB _ mW
  replace aW := aW.sub mRowW hsB
  replace mN := hsB _ mN
  replace aN := aN.sub mRowN hsB
  clear hsB hsub hJ N9 F9 len9 oT
  clear all
  generalize (dT, LCg.lst yT) :: news = all at mnum mcell mR aR mW aW mN aN mT aT NT
  clear news
  (try clear g9)
  (try dsimp only)
  k_steps
  as_aux_lemma =>
  refine Marker.mk ?_
  with_reducible rename News _ _ _ _ => N9
  with_reducible rename Fr _ _ _ _ => F9
  have len9 := aW.len
  refine src_name_l yW.length (by rfl) F9 N9 mW (by simp) (by rw [len9, List.length_map, hP3, PySem.sizeLine_eq]; omega) (by rfl) (by rfl) ?_
  intro g9
  refine turns_ind (n := yW.length) (JM RowW all (Ps.map Row.colds)) ?_ ?_ _ 0 [] all (Nat.zero_add _) (JM.init _ _)
  · as_aux_lemma =>
    rintro i zs news v hi hJ hv
    obtain ⟨P0, ha, hRa⟩ := (aW.sub mRowW hJ.1).get (by simpa using hv)
    obtain ⟨P, hP, rfl⟩ := get_map ha
    obtain ⟨r, vs, k, rfl, q0, hi⟩ := hRa
    obtain ⟨ta, tb, tc, td, rfl⟩ := ints4 hi
    refine ⟨trivial, step_plain ?_⟩
    intro I' oI' C' oC' D' m' h' tk' E' hle9' hC' hx' F' N' off' hS' ne'
    unfold BdName at hx'
    have off9' := off'
    (try k_fold)
    k_steps
    refine Marker.mk ?_
    with_reducible rename News _ _ _ _ => N5
    with_reducible rename Fr _ _ _ _ => F5
    refine src_name_l 4 (by rfl) F5 N5 (in3 q0) (by rfl) (Nat.le_of_ble_eq_true rfl) (by rfl) (by rfl) ?_
    intro g5
    k_steps
    exact hJ.step (new := [_]) mRowW (map_at Row.colds hP) ⟨_, _, _, rfl, .head _, (.cons _ _ (.cons _ _ (.cons _ _ (.cons _ _ .nil))))⟩
  rintro yX news hJ
  obtain ⟨hsub, aX⟩ := hJ.fin (by simp [len9])
  unfold LCg.FinE
  intro dX hX tkX FX NX oX
  have hsB : ∀ p ∈ all, p ∈ (dX, LCg.lst yX) :: news := fun p hp => .tail _ (hsub p hp)
  have mX : (dX, LCg.lst yX) ∈ (dX, LCg.lst yX) :: news := .head _
  replace aX := aX.sub mRowW (fun p hp => List.Mem.tail (dX, LCg.lst yX) hp)
  replace mnum := hsB _ mnum
  replace mcell := hsB _ mcell
  replace mR := hsB _ mR
  replace aR := aR.sub mRowI hsB
  replace mW := hsB _ mW
  replace aW := aW.sub mRowW hsB
  replace mN := hsB _ mN
  replace aN := aN.sub mRowN hsB
  replace mT := hsB _ mT
  replace aT := aT.sub mRowW hsB
  clear hsB hsub hJ N9 F9 len9 oX
  clear all
  generalize (dX, LCg.lst yX) :: news = all at mnum mcell mR aR mW aW mN aN mT aT mX aX NX
  clear news
  (try clear g9)
  (try dsimp only)
  k_steps
  refine Marker.mk ?_
  with_reducible rename News _ _ _ _ => N9
  refine ne_lists N9 (rowW_reads N9) (rowW_reads N9) mT aT mX aX dInts_lay dInts_depth (by units_room) ?_
  clear mX
  clear aX
  clear mN
  clear aN
  clear mR
  clear aR
  k_steps
  as_aux_lemma =>
  refine Marker.mk ?_
  with_reducible rename News _ _ _ _ => N9
  with_reducible rename Fr _ _ _ _ => F9
  have len9 := aW.len
  refine src_name_l yW.length (by rfl) F9 N9 mW (by simp) (by rw [len9, List.length_map, hP3, PySem.sizeLine_eq]; omega) (by rfl) (by rfl) ?_
  intro g9
  refine turns_ind (n := yW.length) (JM RowW all (Ps.map Row.stalk)) ?_ ?_ _ 0 [] all (Nat.zero_add _) (JM.init _ _)
  · as_aux_lemma =>
    rintro i zs news v hi hJ hv
    obtain ⟨P0, ha, hRa⟩ := (aW.sub mRowW hJ.1).get (by simpa using hv)
    obtain ⟨P, hP, rfl⟩ := get_map ha
    obtain ⟨r, vs, k, rfl, q0, hi⟩ := hRa
    refine ⟨trivial, step_plain ?_⟩
    intro I' oI' C' oC' D' m' h' tk' E' hle9' hC' hx' F' N' off' hS' ne'
    unfold BdName at hx'
    have off9' := off'
    (try k_fold)
    k_steps
    refine Marker.mk ?_
    refine c_edges (cx_of F' (by assumption) (by assumption)) ⟨rfl, Nat.le_of_ble_eq_true rfl, Nat.le_of_ble_eq_true rfl⟩ r vs _ k hi (Nat.le_refl _) (obs1 N' (in3 q0)) ?_
    intro t n zs h9 tk9 e9 M9 i9
    exact compEnd_made F' N' e9 M9 off' (srcAt_app _ hS') (hJ.step mRowW (map_at Row.stalk hP) ⟨t, zs, n, rfl, .head _, i9⟩)
  rintro yS news hJ
  obtain ⟨hsub, aS⟩ := hJ.fin (by simp [len9])
  unfold LCg.FinA
  intro dS hS tkS FS NS oS
  have hsB : ∀ p ∈ all, p ∈ (dS, LCg.lst yS) :: news := fun p hp => .tail _ (hsub p hp)
  have mS : (dS, LCg.lst yS) ∈ (dS, LCg.lst yS) :: news := .head _
  replace aS := aS.sub mRowW (fun p hp => List.Mem.tail (dS, LCg.lst yS) hp)
  replace mnum := hsB _ mnum
  replace mcell := hsB _ mcell
  replace mW := hsB _ mW
  replace aW := aW.sub mRowW hsB
  replace mT := hsB _ mT
  replace aT := aT.sub mRowW hsB
  clear hsB hsub hJ N9 F9 len9 oS
  clear all
  generalize (dS, LCg.lst yS) :: news = all at mnum mcell mW aW mT aT mS aS NS
  clear news
  (try clear g9)
  (try dsimp only)
  k_steps
  as_aux_lemma =>
  refine Marker.mk ?_
  with_reducible rename News _ _ _ _ => N9
  with_reducible rename Fr _ _ _ _ => F9
  have len9 := aS.len
  refine src_name_l yS.length (by rfl) F9 N9 mS (by simp) (by rw [len9, List.length_map, hP3, PySem.sizeLine_eq]; omega) (by rfl) (by rfl) ?_
  intro g9
  refine turns_ind (n := yS.length) (JM StrA all (Ps.map fun P => nameOf ([na, nb, nc] : List Int).sum P.stalk)) ?_ ?_ _ 0 [] all (Nat.zero_add _) (JM.init _ _)
  · as_aux_lemma =>
    rintro i zs news v hi hJ hv
    obtain ⟨P0, ha, hRa⟩ := (aS.sub mRowW hJ.1).get (by simpa using hv)
    obtain ⟨P, hP, rfl⟩ := get_map ha
    obtain ⟨r, vs, k, rfl, q0, hi⟩ := hRa
    have mnum2 := hJ.1 _ mnum
    have mcell2 := hJ.1 _ mcell
    refine ⟨trivial, step_plain ?_⟩
    intro I' oI' C' oC' D' m' h' tk' E' hle9' hC' hx' F' N' off' hS' ne'
    unfold BdName at hx'
    have off9' := off'
    (try k_fold)
    k_steps
    refine Marker.mk ?_
    with_reducible rename News _ _ _ _ => N8
    with_reducible rename Fr _ _ _ _ => F8
    refine c_name (cx_of F8 (by assumption) (by assumption)) ⟨rfl, Nat.le_of_ble_eq_true rfl, Nat.le_of_ble_eq_true rfl⟩ r vs _ k _ _ hi (stalk_len P) (obs1 N8 (in3 q0)) ?_
    intro t h9 tk9 e9
    exact compEnd_none F8 N8 e9 off' hS' (hJ.step (new := []) mStrA (map_at (fun P => nameOf ([na, nb, nc] : List Int).sum P.stalk) hP) ⟨t, rfl⟩)
  rintro yA news hJ
  obtain ⟨hsub, aA⟩ := hJ.fin (by simp [len9])
  unfold LCg.FinA
  intro dA hA tkA FA NA oA
  have hsB : ∀ p ∈ all, p ∈ (dA, LCg.lst yA) :: news := fun p hp => .tail _ (hsub p hp)
  have mA : (dA, LCg.lst yA) ∈ (dA, LCg.lst yA) :: news := .head _
  replace aA := aA.sub mStrA (fun p hp => List.Mem.tail (dA, LCg.lst yA) hp)
  replace mnum := hsB _ mnum
  replace mcell := hsB _ mcell
  replace mW := hsB _ mW
  replace aW := aW.sub mRowW hsB
  replace mT := hsB _ mT
  replace aT := aT.sub mRowW hsB
  replace mS := hsB _ mS
  replace aS := aS.sub mRowW hsB
  clear hsB hsub hJ N9 F9 len9 oA
  clear all
  generalize (dA, LCg.lst yA) :: news = all at mnum mcell mW aW mT aT mS aS mA aA NA
  clear news
  (try clear g9)
  (try dsimp only)
  k_steps
  as_aux_lemma =>
  refine Marker.mk ?_
  with_reducible rename News _ _ _ _ => N9
  with_reducible rename Fr _ _ _ _ => F9
  have len9 := aA.len
  refine src_name_l yA.length (by rfl) F9 N9 mA (by simp) (by rw [len9, List.length_map, hP3, PySem.sizeLine_eq]; omega) (by rfl) (by rfl) ?_
  intro g9
  refine turns_ind (n := yA.length) (JM StrA all (Ps.map fun P => esc (nameOf ([na, nb, nc] : List Int).sum P.stalk))) ?_ ?_ _ 0 [] all (Nat.zero_add _) (JM.init _ _)
  · as_aux_lemma =>
    rintro i zs news v hi hJ hv
    obtain ⟨P0, ha, hRa⟩ := (aA.sub mStrA hJ.1).get (by simpa using hv)
    obtain ⟨P, hP, rfl⟩ := get_map ha
    obtain ⟨tx, rfl⟩ := hRa
    refine ⟨trivial, step_plain ?_⟩
    intro I' oI' C' oC' D' m' h' tk' E' hle9' hC' hx' F' N' off' hS' ne'
    unfold BdName at hx'
    have off9' := off'
    (try k_fold)
    k_steps
    refine Marker.mk ?_
    with_reducible rename News _ _ _ _ => N8
    with_reducible rename Fr _ _ _ _ => F8
    refine c_escape (cx_of F8 (by assumption) (by assumption)) ⟨rfl, Nat.le_of_ble_eq_true rfl, Nat.le_of_ble_eq_true rfl⟩ _ _ (by rw [name_len]; have := stalk_len P; omega) ?_
    intro t h9 tk9 e9
    exact compEnd_none F8 N8 e9 off' hS' (hJ.step (new := []) mStrA (map_at (fun P => esc (nameOf ([na, nb, nc] : List Int).sum P.stalk)) hP) ⟨t, rfl⟩)
  rintro yB news hJ
  obtain ⟨hsub, aB⟩ := hJ.fin (by simp [len9])
  unfold LCg.FinA
  intro dB hB tkB FB NB oB
  have hsB : ∀ p ∈ all, p ∈ (dB, LCg.lst yB) :: news := fun p hp => .tail _ (hsub p hp)
  have mB : (dB, LCg.lst yB) ∈ (dB, LCg.lst yB) :: news := .head _
  replace aB := aB.sub mStrA (fun p hp => List.Mem.tail (dB, LCg.lst yB) hp)
  replace mnum := hsB _ mnum
  replace mcell := hsB _ mcell
  replace mW := hsB _ mW
  replace aW := aW.sub mRowW hsB
  replace mT := hsB _ mT
  replace aT := aT.sub mRowW hsB
  replace mS := hsB _ mS
  replace aS := aS.sub mRowW hsB
  replace mA := hsB _ mA
  replace aA := aA.sub mStrA hsB
  clear hsB hsub hJ N9 F9 len9 oB
  clear all
  generalize (dB, LCg.lst yB) :: news = all at mnum mcell mW aW mT aT mS aS mA aA mB aB NB
  clear news
  (try clear g9)
  (try dsimp only)
  k_steps
  as_aux_lemma =>
  refine Marker.mk ?_
  with_reducible rename News _ _ _ _ => N9
  with_reducible rename Fr _ _ _ _ => F9
  have len9 := aB.len
  refine src_name_l yB.length (by rfl) F9 N9 mB (by simp) (by rw [len9, List.length_map, hP3, PySem.sizeLine_eq]; omega) (by rfl) (by rfl) ?_
  intro g9
  refine turns_ind (n := yB.length) (JM StrA all (Ps.map fun P => nameOf ([na, nb, nc] : List Int).sum P.stalk)) ?_ ?_ _ 0 [] all (Nat.zero_add _) (JM.init _ _)
  · as_aux_lemma =>
    rintro i zs news v hi hJ hv
    obtain ⟨P0, ha, hRa⟩ := (aB.sub mStrA hJ.1).get (by simpa using hv)
    obtain ⟨P, hP, rfl⟩ := get_map ha
    obtain ⟨tx, rfl⟩ := hRa
    refine ⟨trivial, step_plain ?_⟩
    intro I' oI' C' oC' D' m' h' tk' E' hle9' hC' hx' F' N' off' hS' ne'
    unfold BdName at hx'
    have off9' := off'
    (try k_fold)
    k_steps
    refine Marker.mk ?_
    with_reducible rename News _ _ _ _ => N8
    with_reducible rename Fr _ _ _ _ => F8
    refine c_read (cx_of F8 (by assumption) (by assumption)) ⟨rfl, Nat.le_of_ble_eq_true rfl, Nat.le_of_ble_eq_true rfl⟩ _ _ (esc_len _ (stalk_len P)) ?_
    rw [name_read]
    intro t h9 tk9 e9
    exact compEnd_none F8 N8 e9 off' hS' (hJ.step (new := []) mStrA (map_at (fun P => nameOf ([na, nb, nc] : List Int).sum P.stalk) hP) ⟨t, rfl⟩)
  rintro yX news hJ
  obtain ⟨hsub, aX⟩ := hJ.fin (by simp [len9])
  unfold LCg.FinE
  intro dX hX tkX FX NX oX
  have hsB : ∀ p ∈ all, p ∈ (dX, LCg.lst yX) :: news := fun p hp => .tail _ (hsub p hp)
  have mX : (dX, LCg.lst yX) ∈ (dX, LCg.lst yX) :: news := .head _
  replace aX := aX.sub mStrA (fun p hp => List.Mem.tail (dX, LCg.lst yX) hp)
  replace mnum := hsB _ mnum
  replace mcell := hsB _ mcell
  replace mW := hsB _ mW
  replace aW := aW.sub mRowW hsB
  replace mT := hsB _ mT
  replace aT := aT.sub mRowW hsB
  replace mS := hsB _ mS
  replace aS := aS.sub mRowW hsB
  replace mA := hsB _ mA
  replace aA := aA.sub mStrA hsB
  replace mB := hsB _ mB
  replace aB := aB.sub mStrA hsB
  clear hsB hsub hJ N9 F9 len9 oX
  clear all
  generalize (dX, LCg.lst yX) :: news = all at mnum mcell mW aW mT aT mS aS mA aA mB aB mX aX NX
  clear news
  (try clear g9)
  (try dsimp only)
  k_steps
  refine Marker.mk ?_
  with_reducible rename News _ _ _ _ => N9
  refine ne_texts N9 mX aX mA aA (by units_room) ?_
  clear mX
  clear aX
  clear mA
  clear aA
  clear mW
  clear aW
  clear mnum
  clear mcell
  k_steps
  as_aux_lemma =>
  refine Marker.mk ?_
  with_reducible rename News _ _ _ _ => N9
  with_reducible rename Fr _ _ _ _ => F9
  have len9 := aS.len
  refine src_name_l yS.length (by rfl) F9 N9 mS (by simp) (by rw [len9, List.length_map, hP3, PySem.sizeLine_eq]; omega) (by rfl) (by rfl) ?_
  intro g9
  refine turns_ind (n := yS.length) (JM StrA all (Ps.map fun P => apS P.stalk)) ?_ ?_ _ 0 [] all (Nat.zero_add _) (JM.init _ _)
  · as_aux_lemma =>
    rintro i zs news v hi hJ hv
    obtain ⟨P0, ha, hRa⟩ := (aS.sub mRowW hJ.1).get (by simpa using hv)
    obtain ⟨P, hP, rfl⟩ := get_map ha
    obtain ⟨r, vs, k, rfl, q0, hi⟩ := hRa
    refine ⟨trivial, step_plain ?_⟩
    intro I' oI' C' oC' D' m' h' tk' E' hle9' hC' hx' F' N' off' hS' ne'
    unfold BdName at hx'
    have off9' := off'
    (try k_fold)
    k_steps
    refine Marker.mk ?_
    with_reducible rename News _ _ _ _ => N8
    with_reducible rename Fr _ _ _ _ => F8
    refine c_worth (cx_of F8 (by assumption) (by assumption)) ⟨rfl, Nat.le_of_ble_eq_true rfl, Nat.le_of_ble_eq_true rfl⟩ r vs _ (News.isList N8 (in3 q0)) hi (stalk_pm P) ?_
    intro t h9 tk9 e9
    have F7 := fr_ext F8 e9
    have N7 := news_ext N8 e9
    clear F8 N8
    k_steps
    refine Marker.mk ?_
    have p39 : (2 : Int) ^ Int.toNat 39 = 549755813888 := by decide
    rw [p39]
    have b1 := worth_bound (stalk_pm P)
    have b2 := stalk_len P
    refine c_ap (cx_of F7 (by assumption) (by assumption)) ⟨rfl, Nat.le_of_ble_eq_true rfl, Nat.le_of_ble_eq_true rfl⟩ _ _ (by omega) ?_
    intro t2 h10 tk10 e10
    have F6 := fr_ext F7 e10
    have N6 := news_ext N7 e10
    clear F7 N7
    k_steps
    refine Marker.mk ?_
    refine decode_ascii (apL_some (by omega)) (apL_low _) (apL_short _) ?_
    intro t3 k3
    exact compEnd_none F6 N6 (Ext.refl _) off' hS' (hJ.step (new := []) mStrA (map_at (fun P => apS P.stalk) hP) ⟨t3, rfl⟩)
  rintro yC news hJ
  obtain ⟨hsub, aC⟩ := hJ.fin (by simp [len9])
  unfold LCg.FinA
  intro dC hC tkC FC NC oC
  have hsB : ∀ p ∈ all, p ∈ (dC, LCg.lst yC) :: news := fun p hp => .tail _ (hsub p hp)
  have mC : (dC, LCg.lst yC) ∈ (dC, LCg.lst yC) :: news := .head _
  replace aC := aC.sub mStrA (fun p hp => List.Mem.tail (dC, LCg.lst yC) hp)
  replace mT := hsB _ mT
  replace aT := aT.sub mRowW hsB
  replace mS := hsB _ mS
  replace aS := aS.sub mRowW hsB
  replace mB := hsB _ mB
  replace aB := aB.sub mStrA hsB
  clear hsB hsub hJ N9 F9 len9 oC
  clear all
  generalize (dC, LCg.lst yC) :: news = all at mT aT mS aS mB aB mC aC NC
  clear news
  (try clear g9)
  (try dsimp only)
  k_steps
  as_aux_lemma =>
  refine Marker.mk ?_
  with_reducible rename News _ _ _ _ => N9
  with_reducible rename Fr _ _ _ _ => F9
  refine For_invTF F9 ?_ (by intro _; rfl)
  k_steps
  refine Marker.mk ?_
  with_reducible rename IsRange _ _ _ _ _ _ _ _ => R8
  with_reducible rename News _ _ _ _ => N8
  with_reducible rename Fr _ _ _ _ => F8
  refine iter_rng 3 (JK all _) (by omega) (by rfl) F8 N8 R8 ⟨KPMap.init _, fun p hp => hp⟩ ?_ ?_
  · as_aux_lemma =>
    (try clear N8 F8 R8)
    rintro i tk0 own m₁ B₁ s₂ hi ⟨⟨u, v, rfl⟩, hY⟩ hsep F N
    have hs : ∀ p ∈ all, p ∈ own ++ B₁ := fun p hp => List.mem_append_right _ (hY p hp)
    obtain ⟨all2, e2⟩ : ∃ z, z = own ++ B₁ := ⟨_, rfl⟩
    rw [← e2] at N hs
    replace mS := hs _ mS
    replace aS := aS.sub mRowW hs
    replace mT := hs _ mT
    replace aT := aT.sub mRowW hs
    replace mB := hs _ mB
    replace aB := aB.sub mStrA hs
    replace mC := hs _ mC
    replace aC := aC.sub mStrA hs
    clear hs
    obtain ⟨P, hP⟩ : ∃ P, Ps[i]? = some P := ⟨_, List.getElem?_eq_getElem (by omega)⟩
    obtain ⟨P', hP'⟩ : ∃ P, Ps[(i + 2) % 3]? = some P := ⟨_, List.getElem?_eq_getElem (by omega)⟩
    obtain ⟨_, hvS, rS, vs, kS, rfl, qS, iS⟩ := aS.at (map_at Row.stalk hP)
    obtain ⟨_, hvT, rT, ts, kT, rfl, qT, iT⟩ := aT.at (map_at Row.colds hP')
    obtain ⟨_, hv1, w1, rfl⟩ := aB.at (map_at _ hP)
    obtain ⟨_, hv2, w2, rfl⟩ := aB.at (map_at _ hP')
    obtain ⟨_, hv3, w3, rfl⟩ := aC.at (map_at _ hP)
    obtain ⟨_, hv4, w4, rfl⟩ := aC.at (map_at _ hP')
    have lT : yT.length = 3 := by rw [aT.len]; simp [hP3]
    have lB : yB.length = 3 := by rw [aB.len]; simp [hP3]
    have lC : yC.length = 3 := by rw [aC.len]; simp [hP3]
    refine wpAny_assign_Name ?_
    k_steps
    refine Marker.mk ?_
    with_reducible rename News _ _ _ _ => N8
    with_reducible rename Fr _ _ _ _ => F8
    refine c_edges (cx_of F8 (by assumption) (by assumption)) ⟨rfl, Nat.le_of_ble_eq_true rfl, Nat.le_of_ble_eq_true rfl⟩ rT ts _ kT iT (Nat.le_refl _) (obs1 N8 qT) ?_
    intro t n zs h9 tk9 e9 M9 i9
    rw [stalk_neg] at i9
    have N7 := news_made F8 N8 e9 M9
    have F7 := fr_ext F8 e9
    simp only [List.cons_append, List.nil_append] at N7
    clear N8 F8 M9
    k_steps
    refine Marker.mk ?_
    refine c_played (cx_of F7 (by assumption) (by assumption)) ⟨rfl, Nat.le_of_ble_eq_true rfl, Nat.le_of_ble_eq_true rfl⟩ rS t vs zs P.stalk _ kS n iS i9 (stalk_len P) (by rw [List.length_map]; exact stalk_len P') (stalk_pm P) (neg_pm (stalk_pm P')) (obs_cons (ob_of N7 (.tail _ qS)) (obs_cons (ob_of N7 (.head _)) obs_nil)) ?_
    intro t2 n2 h10 tk10 e10 M10
    rw [worth_neg] at M10
    have N6 := news_made F7 N7 e10 M10
    have F6 := fr_ext F7 e10
    simp only [List.cons_append, List.nil_append] at N6
    clear N7 F7 M10
    k_steps
    refine Marker.mk ?_
    with_reducible rename News _ _ _ _ => N8
    with_reducible rename Fr _ _ _ _ => F8
    refine ne_bools N8 (.tail _ (.head _)) (.head _) ?_ ?_ (by units_room) ?_
    · rw [names_lt _ (stalk_len P') (stalk_len P) (stalk_pm P') (stalk_pm P), neg_sub]
    · rw [names_lt _ (stalk_len P) (stalk_len P') (stalk_pm P) (stalk_pm P'), neg_add]
    k_steps
    refine Marker.mk ?_
    with_reducible rename News _ _ _ _ => N5
    with_reducible rename Fr _ _ _ _ => F5
    refine ne_bools N5 (.tail _ (.tail _ (.head _))) (.head _) ?_ ?_ (by units_room) ?_
    · rw [apS_lt (stalk_len P') (stalk_len P) (stalk_pm P') (stalk_pm P), neg_sub]
    · rw [apS_lt (stalk_len P) (stalk_len P') (stalk_pm P) (stalk_pm P'), neg_add]
    k_steps
    exact LoopEnd.intro F5 N5 (fun p hp => .tail _ (.tail _ (.tail _ (.tail _ (e2 ▸ hp))))) hsep ⟨KPMap.turn, hY⟩
  rintro h6 tk6 m6 B6 ⟨⟨u, v, rfl⟩, hY⟩ F N
  (try clear N8 F8 R8)
  replace mS := hY _ mS
  replace aS := aS.sub mRowW hY
  clear mT aT mB aB mC aC hY
  obtain ⟨P0, hP0⟩ : ∃ P, Ps[0]? = some P := ⟨_, List.getElem?_eq_getElem (by omega)⟩
  obtain ⟨P1, hP1⟩ : ∃ P, Ps[1]? = some P := ⟨_, List.getElem?_eq_getElem (by omega)⟩
  obtain ⟨P2, hP2⟩ : ∃ P, Ps[2]? = some P := ⟨_, List.getElem?_eq_getElem (by omega)⟩
  obtain ⟨_, hv0, r0, vs0, k0, rfl, q0, i0⟩ := aS.at (map_at Row.stalk hP0)
  obtain ⟨_, hv1, r1, vs1, k1, rfl, q1, i1⟩ := aS.at (map_at Row.stalk hP1)
  obtain ⟨_, hv2, r2, vs2, k2, rfl, q2, i2⟩ := aS.at (map_at Row.stalk hP2)
  have b0 := stalk_len P0
  have b1 := stalk_len P1
  have b2 := stalk_len P2
  (try dsimp only)
  k_steps
  refine Marker.mk ?_
  with_reducible rename News _ _ _ _ => N8
  with_reducible rename Fr _ _ _ _ => F8
  with_reducible rename IntsAre _ _ => hJ
  have pm := app_pm (app_pm (stalk_pm P0) (stalk_pm P1)) (stalk_pm P2)
  have ln : (P0.stalk ++ P1.stalk ++ P2.stalk).length ≤ 12 := by simp only [List.length_append]; omega
  generalize P0.stalk ++ P1.stalk ++ P2.stalk = J at hJ pm ln
  refine c_word (cx_of F8 (by assumption) (by assumption)) ⟨rfl, Nat.le_of_ble_eq_true rfl, Nat.le_of_ble_eq_true rfl⟩ _ _ J 0 hJ ln pm (obs1 N8 (.head _)) ?_
  intro t9 h9 tk9 e9
  have F7 := fr_ext F8 e9
  have N7 := news_ext N8 e9
  clear F8 N8
  have bJ := worth_bound pm
  k_steps
  refine Marker.mk ?_
  with_reducible rename News _ _ _ _ => N8
  with_reducible rename Fr _ _ _ _ => F8
  refine c_worth (cx_of F8 (by assumption) (by assumption)) ⟨rfl, Nat.le_of_ble_eq_true rfl, Nat.le_of_ble_eq_true rfl⟩ _ _ _ (News.isList N8 (.head _)) hJ pm ?_
  intro ta ha1 tka ea
  have F7 := fr_ext F8 ea
  have N7 := news_ext N8 ea
  clear F8 N8
  k_steps
  refine Marker.mk ?_
  refine c_ap (cx_of F7 (by assumption) (by assumption)) ⟨rfl, Nat.le_of_ble_eq_true rfl, Nat.le_of_ble_eq_true rfl⟩ _ _ (by omega) ?_
  intro tb hb1 tkb eb
  have F8 := fr_ext F7 eb
  have N8 := news_ext N7 eb
  clear F7 N7
  k_steps
  refine Marker.mk ?_
  refine c_worth (cx_of F8 (by assumption) (by assumption)) ⟨rfl, Nat.le_of_ble_eq_true rfl, Nat.le_of_ble_eq_true rfl⟩ _ _ _ (News.isList N8 (.head _)) hJ pm ?_
  intro tc hc1 tkc ec
  have F7 := fr_ext F8 ec
  have N7 := news_ext N8 ec
  clear F8 N8
  k_steps
  refine Marker.mk ?_
  refine c_ap (cx_of F7 (by assumption) (by assumption)) ⟨rfl, Nat.le_of_ble_eq_true rfl, Nat.le_of_ble_eq_true rfl⟩ _ _ (by omega) ?_
  intro td hd1 tkd ed
  have F8 := fr_ext F7 ed
  have N8 := news_ext N7 ed
  clear F7 N7
  k_steps
  skip)
end
end
end Mine
theorem PySem.Challenge.cw_wu0004_01_holds : PySem.Challenge.rw_wu0004_01.Holds :=
  Mine.t1
