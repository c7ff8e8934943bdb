import PyProof.Rows.All
import PyProof.TupleIter
import Wide.All
import OpenK.AllK
import Wide.FinOn
import Lean
import PySem.Challenge.RW_iy0017_01
set_option Elab.async false
set_option linter.all false
set_option compiler.extract_closed false
namespace Dio
set_option tactic.hygienic false
open PySem PySem.W PyProof.Rows
open Sem (wp)
set_option maxRecDepth 100000

/-! S1. The second denotation -/
noncomputable def good (o : Obj) : Bool := (o.cls == .type "generator") && o.genNumber?.isSome

noncomputable def yfStep (d : Addr) : Sem Value := holding [Value.none] <| do
  rule "yield-from.next"
  match ← callSpecial? (.ref d) "__next__" with
  | some v => pure v
  | none => do rule "yield-from.send-none"; call (← getAttr (.ref d) "send") [.none]

noncomputable def yfErr (e : Value) : Sem Fin := do
  if ← Builtin.Generator.endsTheTurnAsAValue false e then
    rule "yield-from.value"; return ← ret (← field e 5)
  throw e

noncomputable def yfCarried (v : Value) : Sem Value :=
  match v with
  | .ref _ => newList [v]
  | _ => pure v

noncomputable def yfBack (d : Addr) (r : Resume) : Sem Fin := do
  Builtin.Generator.sleptOver (.ref d) false
  match r with
  | .send v => again (.builtin "proto.yield_from" ⟨[.ref d, .bool false, ← yfCarried v], []⟩)
  | .throw e => again (.builtin "proto.yield_from" ⟨[.ref d, .bool true, ← yfCarried e], []⟩)

noncomputable def yfTail (d : Addr) (y : Value) (quiet : Bool) : Sem Fin := do
  Builtin.Generator.sleptOver (.ref d) true
  let woken ← suspend y (cleanup := !quiet)
  yfBack d woken

noncomputable def yfOk (tail : Bool → Sem Fin) (d : Addr) : Sem Fin := do
  match ← typeOf (.ref d) with
  | .type n => do tail (← typeLookup (.type n) "close").isNone
  | _ => tail false

noncomputable def yfOne (tail : Addr → Value → Bool → Sem Fin) (d : Addr) : Sem Fin := do
  match ← (yfStep d).attempt with
  | .error e => yfErr e
  | .ok y => yfOk (tail d y) d

theorem yf_one (d : Addr) (kw : List (Str × Value)) : Builtin.«proto.yield_from» ⟨[.ref d, .bool false, .none], kw⟩ = yfOne yfTail d := by
  with_unfolding_all rfl

noncomputable def yfSleep (d : Addr) (o : Obj) : Sem Unit :=
  if o.cls != .type "generator" then pure () else
  let n : Int := match (o.slots[0]? : Option (Option Value)) with
    | some (some (Value.int n _)) => n
    | _ => 0
  setSlotAt d 0 (some (rawInt (if true then n + 1 else n - 1)))

theorem slept_eq (d : Addr) : Builtin.Generator.sleptOver (.ref d) true = .load d none (yfSleep d) := by
  with_unfolding_all rfl

noncomputable def slotF (v : Option Value) (o : Obj) : Obj := { o with slots := (o.slots ++ Array.replicate (0 + 1 - o.slots.size) none).setIfInBounds 0 v }
theorem setSlot_eq (d : Addr) (v : Option Value) : setSlotAt d 0 v = .update d (some (slotPart 0)) (slotF v) .pure := by
  unfold setSlotAt
  rw [if_neg (by decide)]
  rfl
theorem good_slotF {v : Option Value} {o : Obj} (h : good o = true) : good (slotF v o) = true := h

noncomputable def yfTail' (d : Addr) (y : Value) (quiet : Bool) : Sem Fin := .load d none fun o =>
  if good o then (yfSleep d o).bind fun _ => .yield y false [] (yfBack d)
  else (yfSleep d o).bind fun _ => .yield y (!quiet) [] (yfBack d)

theorem yfTail_eq (d : Addr) (y : Value) (quiet : Bool) : yfTail d y quiet = .load d none fun o => (yfSleep d o).bind fun _ => .yield y (!quiet) [] (yfBack d) := by
  unfold yfTail
  rw [slept_eq]
  rfl

theorem yfSleep_good {d : Addr} {o : Obj} (h : good o = true) : ∃ v, yfSleep d o = .update d (some (slotPart 0)) (slotF v) .pure := by
  unfold good at h
  obtain ⟨h1, _⟩ := Bool.and_eq_true_iff.mp h
  unfold yfSleep
  rw [if_neg (by simp [bne, h1])]
  exact ⟨_, setSlot_eq _ _⟩

noncomputable def denF (c : Code) : Sem Fin := match c with
  | .builtin id args => if id = "proto.yield_from" then (match args.pos with
      | [.ref d, .bool false, .none] => yfOne yfTail' d
      | _ => denote table c) else denote table c
  | c => denote table c

noncomputable def modelF (prog : Program) (w : World) : Model := ⟨denF, prog, w⟩

/-! S2. Trees that differ in the one flag -/
inductive TE (c : Code) : Sem Fin → Sem Fin → Prop where
  | pure (f : Fin) : TE c (.pure f) (.pure f)
  | raise (e : Value) : TE c (.raise e) (.raise e)
  | unsupported (x : String) : TE c (.unsupported x) (.unsupported x)
  | finish (e : Ending) : TE c (.finish e) (.finish e)
  | rule (t : String) {k k' : Unit → Sem Fin} : (∀ x, TE c (k x) (k' x)) → TE c (.rule t k) (.rule t k')
  | at (p : Pos) {k k' : Unit → Sem Fin} : (∀ x, TE c (k x) (k' x)) → TE c (.at p k) (.at p k')
  | load (a : Addr) (p : Option Value) {k k' : Obj → Sem Fin} : (∀ x, TE c (k x) (k' x)) → TE c (.load a p k) (.load a p k')
  | update (a : Addr) (p : Option Value) (f : Obj → Obj) {k k' : Unit → Sem Fin} : (∀ x, TE c (k x) (k' x)) → TE c (.update a p f k) (.update a p f k')
  | alloc (o : Obj) {k k' : Addr → Sem Fin} : (∀ x, TE c (k x) (k' x)) → TE c (.alloc o k) (.alloc o k')
  | loadIfAlive (a : Addr) {k k' : Option Obj → Sem Fin} : (∀ x, TE c (k x) (k' x)) → TE c (.loadIfAlive a k) (.loadIfAlive a k')
  | point (l : List Value) {k k' : Unit → Sem Fin} : (∀ x, TE c (k x) (k' x)) → TE c (.point l k) (.point l k')
  | register (a : Addr) {k k' : Unit → Sem Fin} : (∀ x, TE c (k x) (k' x)) → TE c (.register a k) (.register a k')
  | fresh {k k' : Tok → Sem Fin} : (∀ x, TE c (k x) (k' x)) → TE c (.fresh k) (.fresh k')
  | ask {k k' : Setting → Sem Fin} : (∀ x, TE c (k x) (k' x)) → TE c (.ask k) (.ask k')
  | choose (s : Source) (n : Nat) {k k' : Nat → Sem Fin} : (∀ x, TE c (k x) (k' x)) → TE c (.choose s n k) (.choose s n k')
  | os (q : OsRequest) (l : List Value) {k k' : OsReply → Sem Fin} : (∀ x, TE c (k x) (k' x)) → TE c (.os q l k) (.os q l k')
  | call (c' : Code) (h : Option Value) (g : Bool) (l : List Value) {k k' : Result → Sem Fin} : (g = true ∨ k = k') → (∀ x, TE c (k x) (k' x)) → TE c (.call c' h g l k) (.call c' h g l k')
  | handled (o : Bool) {k k' : Option Value → Sem Fin} : (∀ x, TE c (k x) (k' x)) → TE c (.handled o k) (.handled o k')
  | newGen (c' : Code) {k k' : Nat → Sem Fin} : (∀ x, TE c (k x) (k' x)) → TE c (.newGen c' k) (.newGen c' k')
  | genState (g : Nat) {k k' : GenStatus × Option (List (Code × Pos)) → Sem Fin} : (∀ x, TE c (k x) (k' x)) → TE c (.genState g k) (.genState g k')
  | resume (g : Nat) (r : Resume) (l : List Value) {k k' : GenResult → Sem Fin} : (∀ x, TE c (k x) (k' x)) → TE c (.resume g r l k) (.resume g r l k')
  | yield (v : Value) (g : Bool) (l : List Value) {k k' : Resume → Sem Fin} : (g = true ∨ k = k') → (∀ x, TE c (k x) (k' x)) → TE c (.yield v g l k) (.yield v g l k')
  | stack {k k' : List (Code × Pos) → Sem Fin} : (∀ x, TE c (k x) (k' x)) → TE c (.stack k) (.stack k')
  | fork (c' : Code) {k k' : Nat → Sem Fin} : (∀ x, TE c (k x) (k' x)) → TE c (.fork c' k) (.fork c' k')
  | thread {k k' : Nat → Sem Fin} : (∀ x, TE c (k x) (k' x)) → TE c (.thread k) (.thread k')
  | await (a : Addr) (f : Obj → Option Obj) (t : Bool) (l : List Value) {k k' : Bool → Sem Fin} : (∀ x, TE c (k x) (k' x)) → TE c (.await a f t l k) (.await a f t l k')
  | flip (d : Addr) (more : List Value) (kw : List (Str × Value)) {k k' : Obj → Sem Fin} : c = .builtin "proto.yield_from" ⟨.ref d :: more, kw⟩ → (∀ o, good o = false → TE c (k o) (k' o)) →
      (∀ o, good o = true → ∃ v y q, k o = .update d (some (slotPart 0)) (slotF v) (fun _ => .yield y q [] (yfBack d)) ∧ k' o = .update d (some (slotPart 0)) (slotF v) (fun _ => .yield y false [] (yfBack d))) →
      TE c (.load d none k) (.load d none k')

theorem TE.refl (c : Code) (t : Sem Fin) : TE c t t := by
  induction t with
  | pure f => exact .pure f
  | raise e => exact .raise e
  | unsupported x => exact .unsupported x
  | finish e => exact .finish e
  | rule t k ih => exact .rule t ih
  | «at» p k ih => exact .at p ih
  | load a p k ih => exact .load a p ih
  | update a p f k ih => exact .update a p f ih
  | alloc o k ih => exact .alloc o ih
  | loadIfAlive a k ih => exact .loadIfAlive a ih
  | point l k ih => exact .point l ih
  | register a k ih => exact .register a ih
  | fresh k ih => exact .fresh ih
  | ask k ih => exact .ask ih
  | choose s n k ih => exact .choose s n ih
  | os q l k ih => exact .os q l ih
  | call c' h g l k ih => exact .call c' h g l (.inr rfl) ih
  | handled o k ih => exact .handled o ih
  | newGen c' k ih => exact .newGen c' ih
  | genState g k ih => exact .genState g ih
  | resume g r l k ih => exact .resume g r l ih
  | yield v g l k ih => exact .yield v g l (.inr rfl) ih
  | stack k ih => exact .stack ih
  | fork c' k ih => exact .fork c' ih
  | thread k ih => exact .thread ih
  | await a f t l k ih => exact .await a f t l ih

theorem TE.attempt {c : Code} {α : Type} (m : Sem α) {K K' : Except Value α → Sem Fin} (h : ∀ r, TE c (K r) (K' r)) : TE c (m.attempt.bind K) (m.attempt.bind K') := by
  unfold Sem.attempt
  induction m with
  | pure a => exact h _
  | raise e => exact h _
  | unsupported x => exact .unsupported x
  | finish e => exact .finish e
  | rule t k ih => exact .rule t ih
  | «at» p k ih => exact .at p ih
  | load a p k ih => exact .load a p ih
  | update a p f k ih => exact .update a p f ih
  | alloc o k ih => exact .alloc o ih
  | loadIfAlive a k ih => exact .loadIfAlive a ih
  | point l k ih => exact .point l ih
  | register a k ih => exact .register a ih
  | fresh k ih => exact .fresh ih
  | ask k ih => exact .ask ih
  | choose s n k ih => exact .choose s n ih
  | os q l k ih => exact .os q l ih
  | call c' h g l k ih => exact .call c' h true l (.inl rfl) ih
  | handled o k ih => exact .handled o ih
  | newGen c' k ih => exact .newGen c' ih
  | genState g k ih => exact .genState g ih
  | resume g r l k ih => exact .resume g r l ih
  | yield v g l k ih => exact .yield v true l (.inl rfl) ih
  | stack k ih => exact .stack ih
  | fork c' k ih => exact .fork c' ih
  | thread k ih => exact .thread ih
  | await a f t l k ih => exact .await a f t l ih

theorem te_tail {d : Addr} {more : List Value} {kw : List (Str × Value)} (y : Value) (q : Bool) : TE (.builtin "proto.yield_from" ⟨.ref d :: more, kw⟩) (yfTail d y q) (yfTail' d y q) := by
  rw [yfTail_eq]
  unfold yfTail'
  refine .flip d more kw rfl (fun o ho => ?_) fun o ho => ?_
  · rw [ho]; simp only [Bool.false_eq_true, if_false]; exact .refl _ _
  · obtain ⟨v, e⟩ := yfSleep_good (d := d) ho
    refine ⟨v, y, !q, ?_, ?_⟩
    · rw [e]; rfl
    · rw [if_pos ho, e]; rfl

theorem te_one {d : Addr} {more : List Value} {kw : List (Str × Value)} : TE (.builtin "proto.yield_from" ⟨.ref d :: more, kw⟩) (yfOne yfTail d) (yfOne yfTail' d) := by
  refine TE.attempt (yfStep d) fun r => ?_
  cases r with
  | error e => exact .refl _ _
  | ok y =>
    refine .load d (some headPart) fun o => ?_
    show TE _ ((match o.cls with | .type n => _ | _ => _)) ((match o.cls with | .type n => _ | _ => _))
    cases o.cls with
    | type n =>
      show TE _ (typeLookup (.type n) "close" >>= _) (typeLookup (.type n) "close" >>= _)
      rw [typeLookup_type]
      cases builtinLookup n "close" with
      | none => exact .unsupported _
      | some r => exact te_tail y _
    | _ => exact te_tail y _

theorem entry_yf : entryFor table "proto.yield_from" = some Builtin.«proto.yield_from» := entryFor_of_fast (by kernel_rfl)

theorem den_builtin {id : String} {args : Args} {b : Builtin} (h : entryFor table id = some b) : denote table (.builtin id args) = b args := by
  show (match entryFor table id with | some b => b args | none => unsupported ((withoutEnding? id "#data").getD id)) = b args
  rw [h]

set_option tactic.hygienic true in
theorem te_den (c : Code) : TE c (denote table c) (denF c) := by
  unfold denF
  split
  · rename_i id args
    split
    · rename_i hid
      subst hid
      split
      · rename_i d hpos
        obtain ⟨pos, kw⟩ := args
        dsimp only at hpos
        subst hpos
        rw [den_builtin entry_yf, yf_one]
        exact te_one
      · exact .refl _ _
    · exact .refl _ _
  · exact .refl _ _

end Dio

namespace Dio
set_option tactic.hygienic false
open PySem PySem.W PyProof.Rows
open Sem (wp)
set_option maxRecDepth 100000

/-! S3. Runs of the model are runs of modelF -/
theorem quiet_cons {v : Value} {g : Bool} {l : List Value} {k : Resume → Sem Fin} {c : Code} {p : Pos} {fs gs : List Frame}
    (h : (End.susp v g l k c p (fs ++ gs)).quiet = true) : (End.susp v g l k c p fs).quiet = true ∧ gs.any Frame.guarded = false := by
  simp only [End.quiet, List.any_append, Bool.not_eq_true', Bool.or_eq_false_iff] at h ⊢
  exact ⟨⟨h.1, h.2.1⟩, h.2.2⟩

/-- what a run of a tree with nothing beneath it comes from -/
noncomputable def Inv (M : Model) (Γ : Ctx) (p : Pos) (s : Shared) (e : End) (s' : Shared) : Sem Fin → Prop
  | .rule _ k => Runs M Γ p (k ()) [] s e s'
  | .at p' k => Runs M Γ p' (k ()) [] s e s'
  | .load a _ k => ∃ o, s.heap.get? a = some o ∧ Runs M Γ p (k o) [] s e s'
  | .update a _ f k => (s.heap.get? a).isSome = true ∧ Runs M Γ p (k ()) [] { s with heap := s.heap.update a f } e s'
  | .loadIfAlive a k => Runs M Γ p (k (s.heap.get? a)) [] s e s'
  | .point _ k => Runs M Γ p (k ()) [] s e s'
  | .alloc o k => Runs M Γ p (k s.heap.objs.size) [] { s with heap := s.heap.push o } e s'
  | .fresh k => Runs M Γ p (k s.toks) [] { s with toks := s.toks + 1 } e s'
  | .ask k => Runs M Γ p (k ⟨M.prog, M.w.params⟩) [] s e s'
  | .choose src n k => n ≠ 0 ∧ Runs M Γ p (k (M.w.draws src (s.drawn.get src) % n)) [] { s with drawn := s.drawn.bump src } e s'
  | .os q _ k => Runs M Γ p (k (Os.step s.os q).2) [] { s with os := (Os.step s.os q).1 } e s'
  | .handled own k => Runs M Γ p (k (if own then Γ.own else Γ.handled)) [] s e s'
  | .genState g k => ∃ st, s.gens[g]? = some st ∧ Runs M Γ p (k st.seen) [] s e s'
  | .stack k => Runs M Γ p (k ((Γ.code, p) :: Γ.below)) [] s e s'
  | .thread k => Runs M Γ p (k 0) [] s e s'
  | .newGen c k => Runs M Γ p (k s.gens.size) [] { s with gens := s.gens.push (.fresh c) } e s'
  | .call c h g l k => (∃ r s₁, Runs M (Γ.enter c h p) p (M.den c) [] s (.ret r) s₁ ∧ Runs M Γ p (k r) [] s₁ e s') ∨
      ∃ v g₀ l₀ k₀ c₀ p₀ fs, e = .susp v g₀ l₀ k₀ c₀ p₀ (fs ++ [.ret k h g l Γ.code p []])
  | .yield v g l k => e = .susp v g l k Γ.code p [] ∧ s' = s
  | .resume g r l k => ∀ k' : GenResult → Sem Fin, (∀ res s₁, Runs M Γ p (k res) [] s₁ e s' → Runs M Γ p (k' res) [] s₁ e s') → Runs M Γ p (.resume g r l k') [] s e s'
  | .register .. => False
  | .fork .. => False
  | .await .. => False
  | _ => True
theorem runs_inv {M : Model} {Γ : Ctx} {p : Pos} {t : Sem Fin} {fs : List Frame} {s s' : Shared} {e : End} (h : Runs M Γ p t fs s e s') : fs = [] → Inv M Γ p s e s' t := by
  cases h with
  | done => intro _; trivial
  | raise => intro _; trivial
  | again _ _ => intro _; trivial
  | rule h => intro _; exact h
  | «at» h => intro _; exact h
  | load ho h => intro _; exact ⟨_, ho, h⟩
  | update ho h => intro _; exact ⟨ho, h⟩
  | loadIfAlive h => intro _; exact h
  | point h => intro _; exact h
  | alloc h => intro _; exact h
  | fresh h => intro _; exact h
  | ask h => intro _; exact h
  | choose hn h => intro _; exact ⟨hn, h⟩
  | os h => intro _; exact h
  | handled h => intro _; exact h
  | genState hg h => intro _; exact ⟨_, hg, h⟩
  | stack h => intro _; exact h
  | thread h => intro _; exact h
  | newGen h => intro _; exact h
  | call h1 h2 => intro _; exact .inl ⟨_, _, h1, h2⟩
  | callSusp h1 => intro _; exact .inr ⟨_, _, _, _, _, _, _, rfl⟩
  | yield => intro _; exact ⟨rfl, rfl⟩
  | resumeFresh hg h1 hq h2 => intro _ k' hk; exact .resumeFresh hg h1 hq (hk _ _ h2)
  | resumeSuspended hg h1 hq h2 => intro _ k' hk; exact .resumeSuspended hg h1 hq (hk _ _ h2)
  | resumeJustStarted hg hv h => intro _ k' hk; exact .resumeJustStarted hg hv (hk _ _ h)
  | resumeThrowFresh hg h => intro _ k' hk; exact .resumeThrowFresh hg (hk _ _ h)
  | resumeRunning hg h => intro _ k' hk; exact .resumeRunning hg (hk _ _ h)
  | resumeFinished hg h => intro _ k' hk; exact .resumeFinished hg (hk _ _ h)
  | segRet _ _ => exact fun h => nomatch h
  | segGen _ _ => exact fun h => nomatch h
  | segSuspOut _ _ => exact fun h => nomatch h
  | segSuspGen _ _ _ _ => exact fun h => nomatch h

theorem runs_te {M : Model} {c : Code} {t t' : Sem Fin} (h : TE c t t') : ∀ {Γ : Ctx} {p : Pos} {s s' : Shared} {e : End}, Runs M Γ p t [] s e s' → e.quiet = true → Runs M Γ p t' [] s e s' := by
  induction h with
  | pure f => intro Γ p s s' e hr _; exact hr
  | raise e => intro Γ p s s' e hr _; exact hr
  | unsupported x => intro Γ p s s' e hr _; exact hr
  | finish e => intro Γ p s s' e hr _; exact hr
  | rule t _ ih => intro Γ p s s' e hr hq; exact .rule (ih _ (runs_inv hr rfl) hq)
  | «at» p _ ih => intro Γ p s s' e hr hq; exact .at (ih _ (runs_inv hr rfl) hq)
  | load a p _ ih => intro Γ p s s' e hr hq; obtain ⟨o, ho, hr⟩ := runs_inv hr rfl; exact .load ho (ih _ hr hq)
  | update a p f _ ih => intro Γ p s s' e hr hq; obtain ⟨ho, hr⟩ := runs_inv hr rfl; exact .update ho (ih _ hr hq)
  | alloc o _ ih => intro Γ p s s' e hr hq; exact .alloc (ih _ (runs_inv hr rfl) hq)
  | loadIfAlive a _ ih => intro Γ p s s' e hr hq; exact .loadIfAlive (ih _ (runs_inv hr rfl) hq)
  | point l _ ih => intro Γ p s s' e hr hq; exact .point (ih _ (runs_inv hr rfl) hq)
  | register a _ ih => intro Γ p s s' e hr hq; exact (runs_inv hr rfl).elim
  | fresh _ ih => intro Γ p s s' e hr hq; exact .fresh (ih _ (runs_inv hr rfl) hq)
  | ask _ ih => intro Γ p s s' e hr hq; exact .ask (ih _ (runs_inv hr rfl) hq)
  | choose src n _ ih => intro Γ p s s' e hr hq; obtain ⟨hn, hr⟩ := runs_inv hr rfl; exact .choose hn (ih _ hr hq)
  | os q l _ ih => intro Γ p s s' e hr hq; exact .os (ih _ (runs_inv hr rfl) hq)
  | @call c' h g l k k' hg _ ih =>
    intro Γ p s s' e hr hq
    rcases hg with rfl | rfl
    · rcases runs_inv hr rfl with ⟨r, s₁, h1, h2⟩ | ⟨v, g₀, l₀, k₀, c₀, p₀, fs, rfl⟩
      · exact .call h1 (ih _ h2 hq)
      · have := (quiet_cons hq).2
        simp [Frame.guarded] at this
    · exact hr
  | handled o _ ih => intro Γ p s s' e hr hq; exact .handled (ih _ (runs_inv hr rfl) hq)
  | newGen c' _ ih => intro Γ p s s' e hr hq; exact .newGen (ih _ (runs_inv hr rfl) hq)
  | genState g _ ih => intro Γ p s s' e hr hq; obtain ⟨st, hg, hr⟩ := runs_inv hr rfl; exact .genState hg (ih _ hr hq)
  | resume g r l _ ih => intro Γ p s s' e hr hq; exact runs_inv hr rfl _ fun res s₁ h => ih res h hq
  | @yield v g l k k' hg _ ih =>
    intro Γ p s s' e hr hq
    rcases hg with rfl | rfl
    · obtain ⟨rfl, _⟩ := runs_inv hr rfl
      simp [End.quiet] at hq
    · exact hr
  | stack _ ih => intro Γ p s s' e hr hq; exact .stack (ih _ (runs_inv hr rfl) hq)
  | fork c' _ ih => intro Γ p s s' e hr hq; exact (runs_inv hr rfl).elim
  | thread _ ih => intro Γ p s s' e hr hq; exact .thread (ih _ (runs_inv hr rfl) hq)
  | await a f t l _ ih => intro Γ p s s' e hr hq; exact (runs_inv hr rfl).elim
  | @flip d more kw k k' hc _ hgood ih =>
    intro Γ p s s' e hr hq
    obtain ⟨o, ho, hr⟩ := runs_inv hr rfl
    cases hgd : good o with
    | false => exact .load ho (ih _ hgd hr hq)
    | true =>
      obtain ⟨v, y, q, e1, e2⟩ := hgood _ hgd
      refine .load ho ?_
      rw [e1] at hr
      rw [e2]
      obtain ⟨ha, hr⟩ := runs_inv hr rfl
      obtain ⟨rfl, rfl⟩ := runs_inv hr rfl
      have : q = false := by simpa [End.quiet] using hq
      subst this
      exact .update ha .yield

theorem runs_den {prog : Program} {w : World} {Γ : Ctx} {p : Pos} {c : Code} {s s' : Shared} {e : End}
    (h : Runs (modelF prog w) Γ p ((model prog w).den c) [] s e s') (hq : e.quiet = true) : Runs (modelF prog w) Γ p ((modelF prog w).den c) [] s e s' :=
  runs_te (te_den c) h hq

theorem runs_lift {prog : Program} {w : World} {Γ : Ctx} {p : Pos} {t : Sem Fin} {fs : List Frame} {s s' : Shared} {e : End}
    (h : Runs (model prog w) Γ p t fs s e s') : e.quiet = true → Runs (modelF prog w) Γ p t fs s e s' := by
  induction h with
  | done => intro _; exact .done
  | raise => intro _; exact .raise
  | again hq _ ih => intro hz; exact .again hq (runs_den (ih hz) hz)
  | rule _ ih => intro hz; exact .rule (ih hz)
  | «at» _ ih => intro hz; exact .at (ih hz)
  | load ho _ ih => intro hz; exact .load ho (ih hz)
  | update ha _ ih => intro hz; exact .update ha (ih hz)
  | loadIfAlive _ ih => intro hz; exact .loadIfAlive (ih hz)
  | point _ ih => intro hz; exact .point (ih hz)
  | alloc _ ih => intro hz; exact .alloc (ih hz)
  | fresh _ ih => intro hz; exact .fresh (ih hz)
  | ask _ ih => intro hz; exact .ask (ih hz)
  | choose hn _ ih => intro hz; exact .choose hn (ih hz)
  | os _ ih => intro hz; exact .os (ih hz)
  | handled _ ih => intro hz; exact .handled (ih hz)
  | genState hg _ ih => intro hz; exact .genState hg (ih hz)
  | stack _ ih => intro hz; exact .stack (ih hz)
  | thread _ ih => intro hz; exact .thread (ih hz)
  | newGen _ ih => intro hz; exact .newGen (ih hz)
  | call _ _ ih1 ih2 => intro hz; exact .call (runs_den (ih1 rfl) rfl) (ih2 hz)
  | callSusp _ ih => intro hz; exact .callSusp (runs_den (ih (quiet_cons hz).1) (quiet_cons hz).1)
  | yield => intro _; exact .yield
  | resumeFresh hg _ hq _ ih1 ih2 => intro hz; exact .resumeFresh hg (runs_den (ih1 hq) hq) hq (ih2 hz)
  | resumeSuspended hg _ hq _ ih1 ih2 => intro hz; exact .resumeSuspended hg (ih1 hq) hq (ih2 hz)
  | resumeJustStarted hg hv _ ih => intro hz; exact .resumeJustStarted hg hv (ih hz)
  | resumeThrowFresh hg _ ih => intro hz; exact .resumeThrowFresh hg (ih hz)
  | resumeRunning hg _ ih => intro hz; exact .resumeRunning hg (ih hz)
  | resumeFinished hg _ ih => intro hz; exact .resumeFinished hg (ih hz)
  | segRet _ _ ih1 ih2 => intro hz; exact .segRet (ih1 rfl) (ih2 hz)
  | segGen _ _ ih1 ih2 => intro hz; exact .segGen (ih1 rfl) (ih2 hz)
  | segSuspOut hsp _ ih => intro hz; exact .segSuspOut hsp (ih (quiet_cons hz).1)
  | segSuspGen hsp _ hq _ ih1 ih2 => intro hz; exact .segSuspGen hsp (ih1 (quiet_cons hq).1) hq (ih2 hz)

theorem wakes_lift {prog : Program} {w : World} {Γ : Ctx} {p : Pos} {g : Nat} {r : Resume} {s s' : Shared} {res : GenResult}
    (h : Wakes (model prog w) Γ p g r s res s') : Wakes (modelF prog w) Γ p g r s res s' := by
  unfold Wakes at h ⊢
  cases hg : s.gens[g]? with
  | none => rw [hg] at h; exact h
  | some gs =>
    rw [hg] at h
    cases gs with
    | fresh c =>
      cases r with
      | send v =>
        cases v with
        | none =>
          obtain ⟨e₁, s₁, h1, hq, rfl, rfl⟩ := h
          exact ⟨e₁, s₁, runs_den (runs_lift h1 hq) hq, hq, rfl, rfl⟩
        | _ => exact h
      | throw x => exact h
    | suspended k l c p fs cl =>
      obtain ⟨e₁, s₁, h1, hq, rfl, rfl⟩ := h
      exact ⟨e₁, s₁, runs_lift h1 hq, hq, rfl, rfl⟩
    | running => exact h
    | finished => exact h

theorem wp_lift {prog : Program} {w : World} {α : Type} {Γ : Ctx} {t : Sem α} {Q : α → Pos → Shared → Prop} {E : Value → Pos → Shared → Prop} :
    ∀ {p : Pos} {s : Shared}, wp (model prog w) Γ t Q E p s → wp (modelF prog w) Γ t Q E p s := by
  induction t with
  | pure a => intro p s h; exact h
  | raise e => intro p s h; exact h
  | unsupported x => intro p s h; exact h.elim
  | finish e => intro p s h; exact h.elim
  | rule t k ih => intro p s h; exact ih _ h
  | «at» p k ih => intro p s h; exact ih _ h
  | load a p k ih => intro p s h; obtain ⟨o, ho, h⟩ := h; exact ⟨o, ho, ih _ h⟩
  | update a p f k ih => intro p s h; exact ⟨h.1, ih _ h.2⟩
  | alloc o k ih => intro p s h; exact ih _ h
  | loadIfAlive a k ih => intro p s h; exact ih _ h
  | point l k ih => intro p s h; exact ih _ h
  | register a k ih => intro p s h; exact h.elim
  | fresh k ih => intro p s h; exact ih _ h
  | ask k ih => intro p s h; exact ih _ h
  | choose s n k ih => intro p s h; exact ⟨h.1, ih _ h.2⟩
  | os q l k ih => intro p s h; exact ih _ h
  | call c' h g l k ih =>
    intro p s h
    obtain ⟨r, s', hr, h⟩ := h
    exact ⟨r, s', runs_den (runs_lift hr rfl) rfl, ih _ h⟩
  | handled o k ih => intro p s h; exact ih _ h
  | newGen c' k ih => intro p s h; exact ih _ h
  | genState g k ih => intro p s h; obtain ⟨st, hg, h⟩ := h; exact ⟨st, hg, ih _ h⟩
  | resume g r l k ih =>
    intro p s h
    obtain ⟨res, s', hw, h⟩ := h
    exact ⟨res, s', wakes_lift hw, ih _ h⟩
  | yield v g l k ih => intro p s h; exact h.elim
  | stack k ih => intro p s h; exact ih _ h
  | fork c' k ih => intro p s h; exact h.elim
  | thread k ih => intro p s h; exact ih _ h
  | await a f t l k ih => intro p s h; exact h.elim

theorem lift {prog : Program} {w : World} {α : Type} {A : Around} {t : Sem α} {Q : α → Shared → Prop} {E : Value → Shared → Prop} {s : Shared}
    (h : wpAny (model prog w) A t Q E s) : wpAny (modelF prog w) A t Q E s := fun Γ p hΓ => wp_lift (h Γ p hΓ)
theorem liftC {prog : Program} {w : World} {A : Around} {c : Code} {R : Result → Shared → Prop} {s : Shared}
    (h : codeAny (model prog w) A c R s) : codeAny (modelF prog w) A c R s := fun Γ p hc hΓ => by
  obtain ⟨r, s', hr, hR⟩ := h Γ p hc hΓ
  exact ⟨r, s', runs_den (runs_lift hr rfl) rfl, hR⟩
end Dio

namespace Dio
set_option tactic.hygienic false
open PySem PySem.W PyProof.Rows
open Sem (wp)
set_option maxRecDepth 100000

/-! S4. Lockstep -/
inductive FrE : Frame → Frame → Prop where
  | ret {k k' : Result → Sem Fin} {h : Option Value} {g : Bool} {l l' : List Value} {c : Code} {p : Pos} {kp kp' : List Value} : (∀ r, TE c (k r) (k' r)) → FrE (.ret k h g l c p kp) (.ret k' h g l' c p kp')
  | gen {g : Nat} {k k' : GenResult → Sem Fin} {l l' : List Value} {c : Code} {p : Pos} : (∀ r, TE c (k r) (k' r)) → FrE (.gen g k l c p) (.gen g k' l' c p)
inductive StE : List Frame → List Frame → Prop where
  | nil : StE [] []
  | cons {f f' : Frame} {r r' : List Frame} : FrE f f' → StE r r' → StE (f :: r) (f' :: r')
inductive GsE : GenState → GenState → Prop where
  | fresh (c : Code) : GsE (.fresh c) (.fresh c)
  | running : GsE .running .running
  | finished : GsE .finished .finished
  | suspended {k k' : Resume → Sem Fin} {l l' : List Value} {c : Code} {p : Pos} {fs fs' : List Frame} {cl cl' : Bool} : (∀ r, TE c (k r) (k' r)) → StE fs fs' → GsE (.suspended k l c p fs cl) (.suspended k' l' c p fs' cl')
structure GensE (a b : Array GenState) : Prop where
  size : a.size = b.size
  get : ∀ (i : Nat) (x y : GenState), a[i]? = some x → b[i]? = some y → GsE x y

theorem GensE.some {a b : Array GenState} (h : GensE a b) {i : Nat} {y : GenState} (e : b[i]? = some y) : ∃ x, a[i]? = some x ∧ GsE x y := by
  have hi : i < b.size := (Array.getElem?_eq_some_iff.mp e).1
  have hi' : i < a.size := h.size ▸ hi
  exact ⟨a[i], Array.getElem?_eq_getElem hi', h.get i _ _ (Array.getElem?_eq_getElem hi') e⟩
theorem GensE.set {a b : Array GenState} (h : GensE a b) (i : Nat) {x y : GenState} (e : GsE x y) : GensE (a.setIfInBounds i x) (b.setIfInBounds i y) := by
  refine ⟨by simp [h.size], fun j u v hu hv => ?_⟩
  rw [Array.getElem?_setIfInBounds] at hu hv
  by_cases hij : i = j
  · subst hij
    rw [if_pos rfl] at hu hv
    by_cases hb : i < b.size
    · rw [if_pos hb] at hv
      rw [if_pos (h.size ▸ hb)] at hu
      cases hu; cases hv; exact e
    · rw [if_neg hb] at hv; cases hv
  · rw [if_neg hij] at hu hv
    exact h.get j u v hu hv
theorem GensE.push {a b : Array GenState} (h : GensE a b) {x y : GenState} (e : GsE x y) : GensE (a.push x) (b.push y) := by
  refine ⟨by simp [h.size], fun j u v hu hv => ?_⟩
  rw [Array.getElem?_push] at hu hv
  by_cases hj : j = b.size
  · rw [if_pos hj] at hv
    rw [if_pos (h.size ▸ hj)] at hu
    cases hu; cases hv; exact e
  · rw [if_neg hj] at hv
    rw [if_neg (h.size ▸ hj)] at hu
    exact h.get j u v hu hv

theorem FrE.refl (f : Frame) : FrE f f := by
  cases f with
  | ret k h g l c p kp => exact .ret fun r => .refl c _
  | gen g k l c p => exact .gen fun r => .refl c _
theorem StE.refl : ∀ st : List Frame, StE st st
  | [] => .nil
  | f :: r => .cons (.refl f) (StE.refl r)
theorem GsE.refl (g : GenState) : GsE g g := by
  cases g with
  | fresh c => exact .fresh c
  | running => exact .running
  | finished => exact .finished
  | suspended k l c p fs cl => exact .suspended (fun r => .refl c _) (.refl fs)
theorem GensE.refl (a : Array GenState) : GensE a a := ⟨rfl, fun i x y hx hy => by rw [hx] at hy; cases hy; exact .refl x⟩

theorem FrE.where_ {f f' : Frame} (h : FrE f f') : f.where_ = f'.where_ := by cases h <;> rfl
theorem FrE.guarded {f f' : Frame} (h : FrE f f') : f.guarded = f'.guarded := by cases h <;> rfl
theorem StE.where_ {a b : List Frame} (h : StE a b) : a.map Frame.where_ = b.map Frame.where_ := by
  induction h with
  | nil => rfl
  | cons hf _ ih => rw [List.map_cons, List.map_cons, hf.where_, ih]
theorem StE.guarded {a b : List Frame} (h : StE a b) : a.any Frame.guarded = b.any Frame.guarded := by
  induction h with
  | nil => rfl
  | cons hf _ ih => rw [List.any_cons, List.any_cons, hf.guarded, ih]
theorem StE.append {a b c d : List Frame} (h : StE a b) (h' : StE c d) : StE (a ++ c) (b ++ d) := by
  induction h with
  | nil => exact h'
  | cons hf _ ih => exact .cons hf ih
theorem StE.handled {a b : List Frame} (h : StE a b) : ∀ x, topHandled.go x a = topHandled.go x b := by
  induction h with
  | nil => intro x; rfl
  | cons hf _ ih =>
    intro x
    cases hf with
    | @ret k k' h g l l' c p kp kp' _ =>
      cases x with
      | true => exact ih true
      | false =>
        cases h with
        | none => exact ih false
        | some e =>
          show (if e == byPass then _ else _) = (if e == byPass then _ else _)
          rw [ih true]
    | gen _ => cases x <;> exact ih false
/-- where the stack parts at its first generator -/
inductive SpE : Option (List Frame × (Nat × (GenResult → Sem Fin) × Code × Pos) × List Frame) → Option (List Frame × (Nat × (GenResult → Sem Fin) × Code × Pos) × List Frame) → Prop where
  | none : SpE .none .none
  | some {a a' b b' : List Frame} {g : Nat} {k k' : GenResult → Sem Fin} {c : Code} {p : Pos} : StE a a' → (∀ r, TE c (k r) (k' r)) → StE b b' → SpE (.some (a, (g, k, c, p), b)) (.some (a', (g, k', c, p), b'))
theorem StE.split {a b : List Frame} (h : StE a b) : SpE (splitAtGen a) (splitAtGen b) := by
  induction h with
  | nil => exact .none
  | cons hf hr ih =>
    cases hf with
    | ret hk =>
      rw [splitAtGen_ret, splitAtGen_ret]
      revert ih
      generalize splitAtGen _ = x
      generalize splitAtGen _ = y
      intro ih
      cases ih with
      | none => exact .none
      | some ha hg hb => exact .some (.cons (.ret hk) ha) hg hb
    | gen hk => exact .some .nil hk hr

inductive CurE (h : Heap) (c : Code) : Sem Fin → Sem Fin → Prop where
  | te {t t' : Sem Fin} : TE c t t' → CurE h c t t'
  | upd {d : Addr} {more : List Value} {kw : List (Str × Value)} {o : Obj} (v : Option Value) (y : Value) (q : Bool) : c = .builtin "proto.yield_from" ⟨.ref d :: more, kw⟩ → h.get? d = some o → good o = true →
      CurE h c (.update d (some (slotPart 0)) (slotF v) (fun _ => .yield y q [] (yfBack d))) (.update d (some (slotPart 0)) (slotF v) (fun _ => .yield y false [] (yfBack d)))
  | yld {d : Addr} {more : List Value} {kw : List (Str × Value)} {o : Obj} (y : Value) (q : Bool) : c = .builtin "proto.yield_from" ⟨.ref d :: more, kw⟩ → h.get? d = some o → good o = true →
      CurE h c (.yield y q [] (yfBack d)) (.yield y false [] (yfBack d))

inductive CR : Shared → Thread → Shared → Thread → Prop where
  | mk {h : Heap} {g g' : Array GenState} {d : Drawn} {k : Nat} {os : OsState} {t t' : Sem Fin} {c : Code} {p : Pos} {st st' : List Frame} : GensE g g' → StE st st' → CurE h c t t' →
      CR ⟨h, g, d, k, os⟩ ⟨t, c, p, st⟩ ⟨h, g', d, k, os⟩ ⟨t', c, p, st'⟩

inductive Lock (st : Step) : Step → Prop where
  | go {s s' : Shared} {t t' : Thread} : st = .go s t → CR s t s' t' → Lock st (.go s' t')
  | halt {o : Outcome} {s' : Shared} : (o.ends = true → s'.NoSusp → ∃ s, st = .halt o s ∧ s.heap = s'.heap ∧ s.os = s'.os ∧ s.drawn = s'.drawn ∧ s.toks = s'.toks ∧ GensE s.gens s'.gens) → Lock st (.halt o s')

theorem GensE.noSusp {s s' : Shared} (h : GensE s.gens s'.gens) (hn : s'.NoSusp) : s.NoSusp := by
  intro x hx
  obtain ⟨i, hi, e⟩ := Array.mem_iff_getElem.mp hx
  have hi' : i < s'.gens.size := h.size ▸ hi
  have q := h.get i x s'.gens[i] (by rw [← e]; exact Array.getElem?_eq_getElem hi) (Array.getElem?_eq_getElem hi')
  have z := hn _ (Array.getElem_mem hi')
  revert z
  generalize s'.gens[i] = y at q
  intro z
  cases q <;> first | rfl | exact z

theorem lock_finish {h : Heap} {g g' : Array GenState} {d : Drawn} {k : Nat} {os : OsState} (o : Outcome) (hg : GensE g g') : Lock (finish o ⟨h, g, d, k, os⟩) (finish o ⟨h, g', d, k, os⟩) := by
  unfold finish
  cases hl : leftWithCleanup g' with
  | true =>
    simp only [if_true]
    exact .halt fun ho => (Bool.false_ne_true ho).elim
  | false =>
    simp only [Bool.false_eq_true, if_false]
    refine .halt fun ho hn => ?_
    have hn' := GensE.noSusp (s := ⟨h, g, d, k, os⟩) (s' := ⟨h, g', d, k, os⟩) hg hn
    rw [if_neg (by rw [hn'.noCleanup]; exact Bool.false_ne_true)]
    exact ⟨_, rfl, rfl, rfl, rfl, rfl, hg⟩

noncomputable def keptUp (code c : Code) (stack : List Frame) : List Frame := match code, c, stack with
      | .builtin .., .call f a, .ret k h g l cd p kept :: rest => .ret k h g l cd p (kept ++ unmarked (f :: a.refs)) :: rest
      | .call f _, .call .., .ret k h g l cd p kept :: rest => .ret k h g l cd p (kept ++ .ellipsis :: unmarked [f]) :: rest
      | .call f a, .builtin .., .ret k h g l cd p kept :: rest =>
        .ret k h g l cd p (if l.contains borrowed then kept.takeWhile (· != .ellipsis) ++ unmarked a.refs else unmarked (kept ++ f :: a.refs)) :: rest
      | .call .., _, .ret k h g l cd p kept :: rest => .ret k h g l cd p (kept.takeWhile (· != .ellipsis)) :: rest
      | _, _, _ => stack
theorem StE.keptUp {a b : List Frame} (h : StE a b) (code c : Code) : StE (keptUp code c a) b := by
  unfold Dio.keptUp
  split <;> first
    | exact h
    | (cases h with
       | cons hf hr => cases hf with
         | ret hk => exact .cons (.ret hk) hr)

theorem step_againR (den : Code → Sem Fin) (prog : Program) (w : World) (h : Heap) (g : Array GenState) (d : Drawn) (n : Nat) (os : OsState) (c code : Code) (pos : Pos) (st : List Frame) :
    step den prog w ⟨h, g, d, n, os⟩ ⟨.pure (.again c), code, pos, st⟩ = .go ⟨h, g, d, n, os⟩ ⟨den c, c, pos, keptUp code c st⟩ := rfl

section
variable {prog : Program} {w : World}
theorem lock_te {h : Heap} {g g' : Array GenState} {d : Drawn} {n : Nat} {os : OsState} {t t' : Sem Fin} {code : Code} {pos : Pos} {st st' : List Frame}
    (hg : GensE g g') (hs : StE st st') (ht : TE code t t') :
    Lock (step (denote table) prog w ⟨h, g, d, n, os⟩ ⟨t, code, pos, st⟩) (stepK denF prog w ⟨h, g', d, n, os⟩ ⟨t', code, pos, st'⟩) := by
  cases ht with
  | pure f =>
    cases f with
    | again c =>
      rw [step_againR]
      exact .go rfl (.mk hg (hs.keptUp _ _) (.te (te_den c)))
    | done f =>
      cases hs with
      | nil => exact lock_finish _ hg
      | cons hf hr =>
        cases hf with
        | ret hk => exact .go rfl (.mk hg hr (.te (hk _)))
        | gen hk => exact .go rfl (.mk (hg.set _ .finished) hr (.te (hk _)))
  | raise e =>
    cases hs with
    | nil => exact lock_finish _ hg
    | cons hf hr =>
      cases hf with
      | ret hk => exact .go rfl (.mk hg hr (.te (hk _)))
      | gen hk => exact .go rfl (.mk (hg.set _ .finished) hr (.te (hk _)))
  | unsupported x => exact .halt fun ho => (Bool.false_ne_true ho).elim
  | finish e =>
    show Lock (if leftWithCleanup g then _ else _) (if leftWithCleanup g' then _ else _)
    exact lock_finish (.ended e) hg
  | rule x hk => exact .go rfl (.mk hg hs (.te (hk _)))
  | «at» p hk => exact .go rfl (.mk hg hs (.te (hk _)))
  | load a p hk =>
    show Lock (match h.get? a with | some o => _ | none => _) (match h.get? a with | some o => _ | none => _)
    cases h.get? a with
    | some o => exact .go rfl (.mk hg hs (.te (hk _)))
    | none => exact .halt fun ho => (Bool.false_ne_true ho).elim
  | update a p f hk =>
    show Lock (if (h.get? a).isSome then _ else _) (if (h.get? a).isSome then _ else _)
    cases (h.get? a).isSome with
    | true => exact .go rfl (.mk hg hs (.te (hk _)))
    | false => exact .halt fun ho => (Bool.false_ne_true ho).elim
  | alloc o hk => exact .go rfl (.mk hg hs (.te (hk _)))
  | loadIfAlive a hk => exact .go rfl (.mk hg hs (.te (hk _)))
  | point l hk => exact .go rfl (.mk hg hs (.te (hk _)))
  | register a hk => exact .halt fun ho => (Bool.false_ne_true ho).elim
  | fresh hk => exact .go rfl (.mk hg hs (.te (hk _)))
  | ask hk => exact .go rfl (.mk hg hs (.te (hk _)))
  | choose src m hk =>
    show Lock (if m = 0 then _ else _) (if m = 0 then _ else _)
    by_cases hm : m = 0
    · rw [if_pos hm, if_pos hm]; exact .halt fun ho => (Bool.false_ne_true ho).elim
    · rw [if_neg hm, if_neg hm]; exact .go rfl (.mk hg hs (.te (hk _)))
  | os q l hk => exact .go rfl (.mk hg hs (.te (hk _)))
  | call c' hd gd l _ hk => exact .go rfl (.mk hg (.cons (.ret hk) hs) (.te (te_den c')))
  | @handled own k k' hk =>
    have e2 : topHandled (if own then (match splitAtGen st with | some (fs, _, _) => fs | none => st) else st) = topHandled (if own then (match splitAtGen st' with | some (fs, _, _) => fs | none => st') else st') := by
      cases own with
      | false => exact hs.handled false
      | true =>
        simp only [if_true]
        have q := hs.split
        revert q
        generalize splitAtGen st = x
        generalize splitAtGen st' = y
        intro q
        cases q with
        | none => exact hs.handled false
        | some ha _ _ => exact ha.handled false
    exact .go rfl (.mk hg hs (.te (Eq.subst (motive := fun x => TE code (k _) (k' x)) e2 (hk _))))
  | newGen c' hk =>
    refine .go rfl (.mk (hg.push (.fresh c')) hs (.te ?_))
    rw [hg.size]; exact hk _
  | @genState i k k' hk =>
    show Lock (match g[i]? with | none => _ | some st => _) (match g'[i]? with | none => _ | some st => _)
    cases e : g'[i]? with
    | none =>
      exact .halt fun ho => (Bool.false_ne_true ho).elim
    | some y =>
      obtain ⟨x, ex, q⟩ := hg.some e
      rw [ex]
      refine .go rfl (.mk hg hs (.te ?_))
      cases q with
      | fresh c => exact hk _
      | running => exact hk _
      | finished => exact hk _
      | suspended _ hf => dsimp only; rw [hf.where_]; exact hk _
  | @resume i r l k k' hk =>
    show Lock (match g[i]? with | none => _ | some (.fresh c) => _ | some (.suspended kk _ c p frames _) => _ | some .running => _ | some .finished => _) (match g'[i]? with | none => _ | some (.fresh c) => _ | some (.suspended kk _ c p frames _) => _ | some .running => _ | some .finished => _)
    cases e : g'[i]? with
    | none => exact .halt fun ho => (Bool.false_ne_true ho).elim
    | some y =>
      obtain ⟨x, ex, q⟩ := hg.some e
      rw [ex]
      cases q with
      | fresh c =>
        cases r with
        | send v =>
          cases v with
          | none => exact .go rfl (.mk (hg.set _ .running) (.cons (.gen hk) hs) (.te (te_den c)))
          | _ => exact .go rfl (.mk hg hs (.te (hk _)))
        | throw e => exact .go rfl (.mk (hg.set _ .finished) hs (.te (hk _)))
      | running => exact .go rfl (.mk hg hs (.te (hk _)))
      | finished => exact .go rfl (.mk hg hs (.te (hk _)))
      | suspended hkk hf => exact .go rfl (.mk (hg.set _ .running) (hf.append (.cons (.gen hk) hs)) (.te (hkk _)))
  | @yield v gd l k k' _ hk =>
    show Lock (match splitAtGen st with | some (frames, (g, k, c, p), rest) => _ | none => _) (match splitAtGen st' with | some (frames, (g, k, c, p), rest) => _ | none => _)
    have q := hs.split
    revert q
    generalize splitAtGen st = x
    generalize splitAtGen st' = y
    intro q
    cases q with
    | none => exact .halt fun ho => (Bool.false_ne_true ho).elim
    | some ha hkg hb => exact .go rfl (.mk (hg.set _ (.suspended hk ha)) hb (.te (hkg _)))
  | stack hk =>
    refine .go rfl (.mk hg hs (.te ?_))
    rw [hs.where_]; exact hk _
  | fork c' hk => exact .halt fun ho => (Bool.false_ne_true ho).elim
  | thread hk => exact .go rfl (.mk hg hs (.te (hk _)))
  | await a f t l hk => exact .halt fun ho => (Bool.false_ne_true ho).elim
  | flip dd more kw hc hbad hgood =>
    show Lock (match h.get? dd with | some o => _ | none => _) (match h.get? dd with | some o => _ | none => _)
    cases ho : h.get? dd with
    | none => exact .halt fun ho => (Bool.false_ne_true ho).elim
    | some o =>
      cases hgd : good o with
      | false => exact .go rfl (.mk hg hs (.te (hbad o hgd)))
      | true =>
        obtain ⟨v, y, q, e1, e2⟩ := hgood o hgd
        refine .go rfl (.mk hg hs ?_)
        rw [e1, e2]
        exact .upd v y q hc ho hgd

theorem lock_cur {h : Heap} {g g' : Array GenState} {d : Drawn} {n : Nat} {os : OsState} {t t' : Sem Fin} {code : Code} {pos : Pos} {st st' : List Frame}
    (hg : GensE g g') (hs : StE st st') (ht : CurE h code t t') :
    Lock (step (denote table) prog w ⟨h, g, d, n, os⟩ ⟨t, code, pos, st⟩) (stepK denF prog w ⟨h, g', d, n, os⟩ ⟨t', code, pos, st'⟩) := by
  cases ht with
  | te ht => exact lock_te hg hs ht
  | @upd dd more kw o v y q hc ho hgd =>
    show Lock (if (h.get? dd).isSome then _ else _) (if (h.get? dd).isSome then _ else _)
    rw [ho]
    refine .go rfl (.mk hg hs (.yld (o := slotF v o) y q hc ?_ (good_slotF hgd)))
    have hf : (slotF v o).isFreed = false := by
      unfold good at hgd
      obtain ⟨h1, h2⟩ := Bool.and_eq_true_iff.mp hgd
      obtain ⟨cl, dc, da, sl⟩ := o
      cases da <;> first | rfl | (exfalso; revert h2; simp [Obj.genNumber?])
    exact Heap.get?_update_self _ ho hf
  | @yld dd more kw o y q hc ho hgd =>
    show Lock (match splitAtGen st with | some (frames, (g, k, c, p), rest) => _ | none => _) (match splitAtGen st' with | some (frames, (g, k, c, p), rest) => _ | none => _)
    have z := hs.split
    revert z
    generalize splitAtGen st = x
    generalize splitAtGen st' = y'
    intro z
    cases z with
    | none => exact .halt fun ho => (Bool.false_ne_true ho).elim
    | some ha hkg hb => exact .go rfl (.mk (hg.set _ (.suspended (fun r => .refl _ _) ha)) hb (.te (hkg _)))
end
end Dio

namespace Dio
set_option tactic.hygienic false
open PySem PySem.W PyProof.Rows
open Sem (wp)
set_option maxRecDepth 100000

section
variable {prog : Program} {w : World}

theorem moves_yield (pr : Profile) (s : Shared) (y : Value) (q : Bool) (l : List Value) (k : Resume → Sem Fin) (c : Code) (p : Pos) (st : List Frame) :
    (Config.single s ⟨.yield y q l k, c, p, st⟩).moves pr = [.run 0] := by
  simp [Config.moves, Config.single, movesFrom, Thread.moves]

theorem pick_yield (s : Shared) (y : Value) (q : Bool) (l : List Value) (k : Resume → Sem Fin) (c : Code) (p : Pos) (st : List Frame) (hr : s.heap.life.registered = []) :
    (Config.single s ⟨.yield y q l k, c, p, st⟩).pick w = .ok (.run 0, .single s ⟨.yield y q l k, c, p, st⟩) := by
  have h1 : (Config.single s ⟨.yield y q l k, c, p, st⟩).collect? w.params = none := by
    simp [Config.collect?, Config.single, (nothing_to_collect _ _ _ s _ hr).1]
  have h2 : (Config.single s ⟨.yield y q l k, c, p, st⟩).collectable = [] := by
    simp [Config.collectable, Config.single, (nothing_to_collect w.params _ _ s _ hr).2]
  simp only [Config.pick, h1, h2, Config.pickThread, moves_yield]
  cases w.params.lifetimes <;> simp

theorem lifeStep_flip {others : List Value} {s : Shared} {y : Value} {q : Bool} {k : Resume → Sem Fin} {p : Pos} {st : List Frame} {d : Addr} {more : List Value} {kw : List (Str × Value)} {o : Obj}
    (hz : s.asleep) (ho : s.heap.get? d = some o) (hgd : good o = true) (hf : ∀ fs x rest, splitAtGen st = some (fs, x, rest) → fs.any Frame.guarded = false) :
    lifeStep (denote table) prog w others s ⟨.yield y q [] k, .builtin "proto.yield_from" ⟨.ref d :: more, kw⟩, p, st⟩ =
      step (denote table) prog w s ⟨.yield y q [] k, .builtin "proto.yield_from" ⟨.ref d :: more, kw⟩, p, st⟩ := by
  obtain ⟨hr, hc⟩ := hz
  have hshow : delegateShows s (.ref d) = false := by
    unfold good at hgd
    obtain ⟨_, h2⟩ := Bool.and_eq_true_iff.mp hgd
    cases hgn : o.genNumber? with
    | none => rw [hgn] at h2; cases h2
    | some n => simp only [delegateShows, ho, hgn, hr]; rfl
  cases hs : splitAtGen st with
  | none =>
    simp [lifeStep, Thread.special, Thread.atCollectorCode, Thread.atItsEnd, Thread.yieldsInsideHandler, collectorTurn?, stepCounting, hc, hs]
  | some z =>
    obtain ⟨fs, x, rest⟩ := z
    have hfs := hf fs x rest hs
    simp [lifeStep, Thread.special, Thread.atCollectorCode, Thread.atItsEnd, Thread.yieldsInsideHandler, collectorTurn?, stepCounting, hc, hs, closingShows, hfs, hshow]

theorem sstep_flip {s : Shared} {y : Value} {q : Bool} {k : Resume → Sem Fin} {p : Pos} {st : List Frame} {d : Addr} {more : List Value} {kw : List (Str × Value)} {o : Obj}
    (hz : s.asleep) (ho : s.heap.get? d = some o) (hgd : good o = true) (hf : ∀ fs x rest, splitAtGen st = some (fs, x, rest) → fs.any Frame.guarded = false) :
    sstep (denote table) prog w (.single s ⟨.yield y q [] k, .builtin "proto.yield_from" ⟨.ref d :: more, kw⟩, p, st⟩) =
      (step (denote table) prog w s ⟨.yield y q [] k, .builtin "proto.yield_from" ⟨.ref d :: more, kw⟩, p, st⟩).lift := by
  have hl := fun others => lifeStep_flip (prog := prog) (w := w) (others := others) (y := y) (q := q) (k := k) (p := p) (st := st) (more := more) (kw := kw) hz ho hgd hf
  simp only [sstep, pick_yield _ _ _ _ _ _ _ _ hz.1, Config.move]
  simp only [Config.run, Config.single]
  simp [hl, others_single, Thread.finalizes]
  cases step (denote table) prog w s ⟨.yield y q [] k, .builtin "proto.yield_from" ⟨.ref d :: more, kw⟩, p, st⟩ <;> simp [Step.lift, Config.single]

theorem loud_te {code : Code} {pos : Pos} {st st' : List Frame} {t t' : Sem Fin} (ht : TE code t t') (hs : StE st st') : Thread.loud ⟨t, code, pos, st⟩ = Thread.loud ⟨t', code, pos, st'⟩ := by
  cases ht with
  | pure f => rfl
  | @yield v gd l k k' _ hk =>
    simp only [Thread.loud, Thread.atCollectorCode, Thread.yieldsInsideHandler]
    have q := hs.split
    revert q
    generalize splitAtGen st = x
    generalize splitAtGen st' = y
    intro q
    cases q with
    | none => rfl
    | some ha _ _ => dsimp only; rw [ha.guarded]; simp
  | _ => rfl
theorem refused_te {code : Code} {pos : Pos} {st st' : List Frame} {t t' : Sem Fin} (ht : TE code t t') : Thread.refused ⟨t, code, pos, st⟩ = Thread.refused ⟨t', code, pos, st'⟩ := by
  cases ht <;> rfl

/-- the primed step and what the real scheduler does -/
theorem lock_sched {s s' : Shared} {t t' : Thread} (H : CR s t s' t') (hz : s.asleep) (hq : t'.loud = false) (hnr : t'.refused = false) :
    (∃ e, sstep (denote table) prog w (.single s t) = (step (denote table) prog w s t).lift ∧ e = ()) ∨
      step (denote table) prog w s t = .halt (.unsupported "lifetime:generator-with-cleanup-left-suspended") s := by
  cases H with
  | @mk h g g' d k os c c' code p st st' hg hs hc =>
    cases hc with
    | te ht =>
      have hcalm : Thread.calm ⟨c, code, p, st⟩ = true := by
        rw [Thread.calm_eq, loud_te ht hs, refused_te (st := st) (st' := st') ht, hq, hnr]; rfl
      exact (sstep_single _ _ _ _ _ hcalm hz).imp (fun e => ⟨(), e, rfl⟩) id
    | upd v y q _ _ _ =>
      exact (sstep_single _ _ _ _ _ rfl hz).imp (fun e => ⟨(), e, rfl⟩) id
    | yld y q hcode ho hgd =>
      subst hcode
      refine .inl ⟨(), sstep_flip hz ho hgd (fun fs x rest e => ?_), rfl⟩
      have q := hs.split
      rw [e] at q
      simp only [Thread.loud, Thread.atCollectorCode, Thread.yieldsInsideHandler] at hq
      revert q hq
      generalize splitAtGen st' = y
      intro hq q
      cases q with
      | some ha _ _ =>
        rw [ha.guarded]
        simpa using hq

theorem lock_run : ∀ (n : Nat) {s s' : Shared} {t t' : Thread} {o : Outcome} {sF' : Shared}, CR s t s' t' → s.asleep → runNI denF prog w n s' t' = .halted o sF' → o.ends = true → sF'.NoSusp →
    ∃ sF, schedN (denote table) prog w n (.single s t) = .halted o sF ∧ runN (denote table) prog w n s t = .halted o sF ∧ sF.heap = sF'.heap ∧ sF.os = sF'.os ∧ sF.drawn = sF'.drawn ∧ sF.toks = sF'.toks ∧ sF.NoSusp
  | 0, _, _, _, _, _, _, _, _, h, _, _ => by cases h
  | n + 1, s, s', t, t', o, sF', H, hz, h, ho, hn => by
    simp only [runNI] at h
    cases hq : t'.loud with
    | true =>
      rw [stepI_loud _ _ _ hq] at h
      dsimp only at h
      injection h with h1 _
      subst h1
      simp [Outcome.ends] at ho
    | false =>
      rw [stepI_quiet _ _ _ hq] at h
      cases hnr : t'.refused with
      | true =>
        obtain ⟨what, e⟩ := stepK_refused denF prog w (s := s') hnr
        rw [e] at h
        dsimp only at h
        injection h with h1 _
        subst h1
        simp [Outcome.ends] at ho
      | false =>
        have L : Lock (step (denote table) prog w s t) (stepK denF prog w s' t') := by
          cases H with
          | mk hg hs hc => exact lock_cur hg hs hc
        have hsc := lock_sched (prog := prog) (w := w) H hz hq hnr
        revert L h
        generalize stepK denF prog w s' t' = x
        intro h L
        cases L with
        | go e H' =>
          dsimp only at h
          rcases hsc with ⟨_, hsc, _⟩ | hsc
          · have hz' := Shared.asleep_of_life (step_life _ _ _ _ _ _ _ e) hz
            obtain ⟨sF, h1, h2, h3⟩ := lock_run n H' hz' h ho hn
            refine ⟨sF, ?_, ?_, h3⟩
            · simp only [schedN, hsc, e, Step.lift]; exact h1
            · simp only [runN, e]; exact h2
          · rw [e] at hsc; cases hsc
        | halt hh =>
          dsimp only at h
          injection h with h1 h2
          subst h1; subst h2
          obtain ⟨sF, e, e1, e2, e3, e4, e5⟩ := hh ho hn
          rcases hsc with ⟨_, hsc, _⟩ | hsc
          · refine ⟨sF, ?_, ?_, e1, e2, e3, e4, e5.noSusp hn⟩
            · simp only [schedN, hsc, e, Step.lift]
            · simp only [runN, e]
          · rw [e] at hsc
            injection hsc with h1 _
            subst h1
            simp [Outcome.ends] at ho

/-- what the logic over modelF says of the real scheduler -/
theorem ends_real {t : Sem Fin} {s : Shared} {R : Result → Shared → Prop} (hz : s.asleep)
    (h : wpAny (modelF prog w) callerA t (fun fin s' => ∃ f, fin = .done f ∧ (R (.ok f) s' ∧ s'.NoSusp)) (fun e s' => R (.error e) s' ∧ s'.NoSusp) s) :
    ∃ n r s' s'', runN (denote table) prog w n s ⟨t, .builtin "claim.caller" {}, default, []⟩ = .halted (outcomeOf r) s' ∧
      schedN (denote table) prog w n (.single s ⟨t, .builtin "claim.caller" {}, default, []⟩) = .halted (outcomeOf r) s' ∧
      s'.heap = s''.heap ∧ s'.os = s''.os ∧ s'.NoSusp ∧ R r s'' := by
  have h1 := wp_of_wpAny_done (M := modelF prog w) (R := fun r s' => R r s' ∧ s'.NoSusp) caller_in h default
  obtain ⟨n, r, s', hn, hR⟩ := (wp_iff_halts (M := modelF prog w) t (fun r s' => R r s' ∧ s'.NoSusp) default s).mp (by
    refine Sem.wp_mono _ _ _ (fun fin p' s' hh => ?_) (fun e p' s' hh => ⟨hh, hh.2.noCleanup⟩) _ _ h1
    cases fin with
    | done f => exact ⟨hh, hh.2.noCleanup⟩
    | again c => obtain ⟨hq, r, s'', hr, hh⟩ := hh; exact ⟨hq, r, s'', hr, hh, hh.2.noCleanup⟩)
  obtain ⟨sF, h2, h3, e1, e2, e3, e4, e5⟩ := lock_run (prog := prog) (w := w) n (s := s) (t := ⟨t, .builtin "claim.caller" {}, default, []⟩) (.mk (.refl _) .nil (.te (.refl _ _))) hz hn (outcomeOf_ends r) hR.2
  exact ⟨n, r, sF, s', h3, h2, e1, e2, e5, hR.1⟩
end
end Dio

namespace Dio
set_option tactic.hygienic false
open PySem PySem.W PySem.Calls PyProof.Rows
open Sem (wp)
set_option maxRecDepth 100000

/-! S5. The end: a row's claim from the logic over modelF -/
noncomputable def GoodJ (c : ClaimW) (cl : Str → Option Addr) (mean : ExcName → Option Value) (args : List WData) (s₁ : Shared) (res : Result) (s' : Shared) : Prop :=
  GoodWG c cl mean args s₁ res s' ∧ s'.NoSusp

theorem callFrom_J {c : ClaimW} {tree : List Value → Sem Fin} {w : World} {s : Shared} {free : Addr → Prop} {gens : Prop} {kept : Heap → Prop} (hz : s.asleep) (hgens : s.gens = #[])
    (hspec : ∀ args, c.pre args = true → WData.layableAll args = true → ∀ ord : List DictEntry → List DictEntry, (∀ l, (ord l).Perm l) →
      ∃ vs s₁, layAllW c.records (classAt s.heap) w.params ord args s = some (vs, s₁) ∧
        wpAny (modelF c.prog w) callerA (tree vs) (fun fin s' => ∃ f, fin = .done f ∧ ((c.Ends s args vs s₁ (.ok f) s' ∧ s'.os = s.os ∧ kept s'.heap) ∧ s'.NoSusp))
          (fun e s' => (c.Ends s args vs s₁ (.error e) s' ∧ s'.os = s.os ∧ kept s'.heap) ∧ s'.NoSusp) s₁) :
    c.CallFrom (fun vs => ⟨tree vs, .builtin "claim.caller" {}, default, []⟩) w free gens kept s := by
  intro args hpre hlay ord hord
  obtain ⟨vs, s₁, hlaid, hcode⟩ := hspec args hpre hlay ord hord
  have hal := layAllW_rest _ _ _ hlaid
  obtain ⟨k, r, s', s'', hrun, hsched, eh, eo, _, hcase, hos, hkp⟩ := ends_real (prog := c.prog) (w := w) (t := tree vs) (s := s₁)
    (R := fun r s' => c.Ends s args vs s₁ r s' ∧ s'.os = s.os ∧ kept s'.heap) (Shared.asleep_of_life hal.2.2.2 hz) hcode
  have hcase := hcase.congr eh
  rw [← eh] at hkp
  rw [← eo] at hos
  have hlife : s'.heap.life = s.heap.life := (runN_life _ _ _ hrun).trans hal.2.2.2
  refine ⟨vs, s₁, hlaid, k, _, s', hsched, ?_, (fun _ i x hx => by rw [hgens] at hx; simp at hx), hkp, by rw [hlife], Shared.rest_eq hos⟩
  rcases hcase with ⟨v, rfl, d1, d2, d3, d4, d5⟩ | ⟨e, ob, cls, rfl, d1, d2, d3, d4, d5⟩
  · exact .inl ⟨v, rfl, d1, d2, d3, fun b o y _ => d4 b o y, d5⟩
  · exact .inr ⟨e, ob, cls, rfl, d1, d2, d3, d4, fun b o y _ => d5 b o y⟩

/-- the call's own part, to be proved by hand -/
noncomputable abbrev WalkJ (q : Program) (loose : List Str) (XP : (Str → Option Value) → Heap → Prop) (r : RowW) (d : DefRec) (kwd : List (Str × Expr)) : Prop :=
  ∀ (w : World) (s₀ s₁ : Shared) (mg mb : Str → Option Value), Ground q loose r.records XP w s₀ mg mb s₁.heap → ∀ (a : Addr) (o : Obj) (pm cd doc dV kV : Value), s₁.heap.get? a = some o →
    o.data = .func { docDef d.name d.params d.body d.scope pm cd doc with defaults := dV, kwdefaults := kV } → s₁.heap.CodeRec cd d.name → Dflts mg s₁.heap d.params kwd dV kV → mg d.name = some (.ref a) → s₁.gens = #[] →
    ∀ (args : List WData) (vals : List Value) (as : List Addr), Laid r.records w s₀ s₁ args vals as → r.claim.pre args = true → WData.layableAll args = true → ReadsAllW r.records (classAt s₀.heap) s₁.heap vals args as → WellAll w.params s₁.heap vals args → (∀ a ∈ as, (a == sysModules) = false) →
      wpAny (modelF r.prog w) callerA (call (.ref a) vals) (fun v s' => GoodJ r.claim (classAt s₀.heap) (ExcName.means s₀.heap) args s₁ (.ok (.ret v)) s')
        (fun e s' => GoodJ r.claim (classAt s₀.heap) (ExcName.means s₀.heap) args s₁ (.error e) s') s₁

theorem holds_J {r : OpenRow} {q : Program} {loose : List Str} {Xt : Shared → Bool} {XP : (Str → Option Value) → Heap → Prop} {α : Type} {Yf : Shared → α} {Ya : World → α} {d : DefRec} {kwd : List (Str × Expr)} {N : Nat}
    (left : LeftO r.prog q loose Xt Yf Ya N)
    (hX : ∀ s, Xt s = true → XP (s.heap.nsMap mainGlobals) s.heap) (hXk : ∀ mg h h', XP mg h → (∀ b o, h.get? b = some o → h'.get? b = some o) → XP mg h')
    (hdef : defOf q r.name = some (d, kwd)) (hp : r.prog.theDef r.name = some (d.params, d.body, d.scope)) (hk : kwWritten? d.params.kwonlyargs d.params.kw_defaults = some kwd) (hRf : ∀ s, Xt s = true → RecFacts r.records s.heap) (hwr : (!r.writes || r.records.isEmpty) = true)
    (k1 : r.wellSaid = true) (ok : (chainsOk q && opensWell r.prog && (frees r.toRowW && r.within.isEmpty)) = true) (hb : r.prog.bare) (hw : r.toRowW.promised)
    (walk : WalkJ q loose XP r.toRowW d kwd) : r.Holds := by
  refine ⟨k1, hw, ?_⟩
  obtain ⟨ok, k5⟩ := Bool.and_eq_true_iff.mp ok
  obtain ⟨hch, o1⟩ := Bool.and_eq_true_iff.mp ok
  obtain ⟨k5, k6⟩ := Bool.and_eq_true_iff.mp k5
  obtain ⟨hsame, hu, ha, hap, hm⟩ := frees_parts k5
  refine ⟨⟨hb, o1, by show r.makers.map _ = []; rw [hm]; rfl⟩, hw.witness, fun w => ⟨(left.behind hX hch w).1, fun s' hs' => ?_⟩⟩
  obtain ⟨s₀, hf, hg0, s, hT, hz, hgens, hg, G00, _⟩ := (left.behind (XP := fun mg h => XP mg h ∧ RecFacts r.records h) (fun s hs => ⟨hX s hs, hRf s hs⟩) hch w).2 s' hs'
  have G0 : Ground q loose [] XP w s (s.heap.nsMap mainGlobals) (s.heap.nsMap builtinsNs) s.heap := ⟨G00.T, G00.B, G00.D, G00.TE, G00.TD, G00.W, G00.X.1, G00.cls, G00.has, G00.apart, G00.once, G00.K⟩
  have RF := G00.X.2
  have hT' := hT
  refine ⟨s₀, hf, hg0, s, hT, fun n hn => ?_, RF.1, RF.2.1, ?_⟩
  · obtain rfl : n = r.name := by split at hn <;> simp_all
    exact pinned_of_view hg G0 hdef hp hk
  have hgens : s.gens = #[] := Array.eq_empty_of_size_eq_zero (beq_iff_eq.mp hgens)
  have G : Ground q loose r.records XP w s _ _ s.heap := RF.ground G0
  refine callFrom_J (c := r.claim) (tree := fun vs => do match ← nsGet mainNs r.name with
      | some f => do ret (← PySem.call f vs)
      | none => unsupported "claim.caller:no-such-global") hz hgens fun args hpre hlay ord hord => ?_
  obtain ⟨⟨vs, s₁⟩, hlaid⟩ := Option.isSome_iff_exists.mp (layAllW_isSome (P := w.params) (ord := ord) G.has args r.args s (pre_splitW hpre).1)
  have keeps := layAllW_keeps _ _ _ hlaid
  have hal := layAllW_rest _ _ _ hlaid
  obtain ⟨as, hrd, hin, hold⟩ := reads_layAllW hord _ _ _ hlaid hlay s₁.heap (fun _ _ e => e)
  have L : Laid r.records w s s₁ args vs as := ⟨⟨ord, hord, hlaid⟩, hrd, hin, hold, keeps, hal.1.trans hgens, hal.2.2.1⟩
  have G₁ := G.keeps hXk keeps
  have hi := ident_freeW hu ha hap
  have hwi : r.claim.within = [] := List.isEmpty_iff.mp k6
  obtain ⟨a, o, pm, cd, doc, dV, kV, h1, h2, h3, h4, h5⟩ := G₁.fn hdef
  have hW := walk w s s₁ _ _ G₁ a o pm cd doc dV kV h2 h3 h4 h5 (defOf_name hdef ▸ h1) L.gens args vs as L hpre hlay L.reads L.well (L.low G.low)
  refine ⟨vs, s₁, hlaid, ?_⟩
  refine wpAny_bind (wpAny_nsGet G₁.T.g ?_)
  rw [h1]
  refine wpAny_bind (wpAny_mono hW (fun v s' g => wpAny_pure ⟨_, rfl, ?_⟩) fun e s' g => ?_)
  · have z := g.1.laid (c := r.claim) hsame hwi hi L
    exact ⟨⟨z.1, z.2.1, fun q => ⟨namesKept_of hT' hg r.keeps keeps g.1.2.1.old, noTable hwr q⟩⟩, g.2⟩
  · have z := g.1.laid (c := r.claim) hsame hwi hi L
    exact ⟨⟨z.1, z.2.1, fun q => ⟨namesKept_of hT' hg r.keeps keeps g.1.2.1.old, noTable hwr q⟩⟩, g.2⟩
end Dio

namespace Dio
set_option tactic.hygienic false
open PySem PySem.W PySem.Calls PyProof.Rows
open Sem (wp)
set_option maxRecDepth 100000
set_option maxHeartbeats 4000000

abbrev R0 : OpenLaw := PySem.Challenge.rw_iy0017_01
def isDef : Stmt → Bool
  | .FunctionDef .. => true
  | _ => false
def q : Program := { PySem.Challenge.pw_iy0017_01 with main := { PySem.Challenge.pw_iy0017_01.main with body := PySem.Challenge.pw_iy0017_01.main.body.filter isDef } }

theorem left : LeftO R0.row.prog q [] (fun _ => true) (fun _ => ()) (fun _ => ()) 880 := fun w => by kernel_rfl

/-- the law's def -/
theorem law_some : (defOf q "law").isSome = true := by kernel_rfl
def dLaw : DefRec × List (Str × Expr) := (defOf q "law").get law_some
theorem dLaw_eq : defOf q R0.row.name = some (dLaw.1, []) := by kernel_rfl

/-- what the statement asks of the law's own text -/
theorem said0 : R0.wellSaid = true := by
  unfold OpenLaw.wellSaid OpenRow.wellSaid OpenRow.partSaid looksOpen
  exact (look_both (look_both (look_both (look_both (look_both (look_both (look_both (look_both (look_both (look_both (look_both (look_both (look_both (look_both (look_both (look_both (look_both (look_both (look_both (look_both (look_both (look_both (look_both (look_both (look_both (look_both (look_both (look_both (look_both (look_both (look_both (look_both (look_both (look_both (look_both (look_both (look_both (look_both (by decide +kernel) (by decide +kernel)) (by decide +kernel)) (by decide +kernel)) (by decide +kernel)) (by decide +kernel)) (by decide +kernel)) (by decide +kernel)) (by decide +kernel)) (by decide +kernel)) (by decide +kernel)) (by decide +kernel)) (by decide +kernel)) (by decide +kernel)) (by decide +kernel)) (by decide +kernel)) (by decide +kernel)) (by decide +kernel)) (by decide +kernel)) (by decide +kernel)) (by decide +kernel)) (by decide +kernel)) (by decide +kernel)) (by decide +kernel)) (by decide +kernel)) (by decide +kernel)) (by decide +kernel)) (by decide +kernel)) (by decide +kernel)) (by decide +kernel)) (by decide +kernel)) (by decide +kernel)) (by decide +kernel)) (by decide +kernel)) (by decide +kernel)) (by decide +kernel)) (by decide +kernel)) (by decide +kernel)) (by decide +kernel))

theorem law_of_walk (walk : WalkJ q [] (fun _ _ => True) R0.row.toRowW dLaw.1 []) : R0.Holds := by
  refine holds_law said0 fun said => ?_
  refine holds_J (q := q) (loose := []) (Xt := fun _ => true) (XP := fun _ _ => True) (N := 880) left (fun _ _ => trivial) (fun _ _ _ _ _ => trivial) dLaw_eq (by kernel_rfl) (by kernel_rfl) (fun s _ => recFacts_of (by rfl)) (by rfl)
    (by first | assumption | decide +kernel) (by decide +kernel) ⟨rfl, rfl, rfl, rfl, rfl, by decide +kernel⟩ ?hw walk
  case hw => w_witness2
end Dio

namespace Dio
set_option tactic.hygienic false
open PySem PySem.W PySem.Calls PyProof.Rows
open Sem (wp)
set_option maxRecDepth 100000

/-! F. Data, what stands for it in the heap, and what a step may change -/
inductive D where
  | none
  | bool (b : Bool)
  | int (i : Int)
  | tup (l : List D)
  | list (l : List D)
  | obj (a : Addr)

/-- what is fixed for the whole call: the heap at its start, the one table that may grow, the world -/
structure Cx where
  hb : Heap
  cw : Addr
  P : Addr
  os : OsState
  w : World
  mg : Str → Option Value
  mb : Str → Option Value
  pl : Int
  pc : Int
  wsc : Scope
  wg : wsc.isGenerator = true

/-- it was there when the call began -/
noncomputable def Cx.Old (c : Cx) (b : Addr) : Prop := ∃ o, c.hb.get? b = some o
/-- it is there -/
noncomputable def Is (h : Heap) (b : Addr) : Prop := ∃ o, h.get? b = some o
theorem Is.lt {h : Heap} {b : Addr} (x : Is h b) : b < h.objs.size := let ⟨_, e⟩ := x; Heap.lt_size e
theorem not_is_size (h : Heap) : ¬ Is h h.objs.size := fun x => Nat.lt_irrefl _ x.lt

noncomputable abbrev seqObj (cls : String) (vs : List Value) (n : Nat) : Obj := { cls := .type cls, dict := none, data := .seq vs.toArray n, slots := #[] }
noncomputable def Frozen (o : Obj) : Prop := ∃ vs n, o.data = .seq vs n

structure SeqAt (c : Cx) (X : Addr → Prop) (h : Heap) (a : Addr) (cls : String) (vs : List Value) : Prop where
  at_ : ∃ n, h.get? a = some (seqObj cls vs n)
  notX : ¬ X a
  old : c.Old a → ∀ o, h.get? a = some o → c.hb.get? a = some o

mutual
inductive Rep (c : Cx) (X : Addr → Prop) (h : Heap) : Value → D → Prop where
  | none : Rep c X h .none .none
  | bool (b : Bool) : Rep c X h (.bool b) (.bool b)
  | int (i : Int) (t : Tok) : Rep c X h (.int i t) (.int i)
  | tup {a : Addr} {vs : List Value} {ds : List D} : SeqAt c X h a "tuple" vs → RepL c X h vs ds → Rep c X h (.ref a) (.tup ds)
  | list {a : Addr} {vs : List Value} {ds : List D} : SeqAt c X h a "list" vs → RepL c X h vs ds → Rep c X h (.ref a) (.list ds)
  | obj (a : Addr) : Rep c X h (.ref a) (.obj a)
inductive RepL (c : Cx) (X : Addr → Prop) (h : Heap) : List Value → List D → Prop where
  | nil : RepL c X h [] []
  | cons {v : Value} {d : D} {vs : List Value} {ds : List D} : Rep c X h v d → RepL c X h vs ds → RepL c X h (v :: vs) (d :: ds)
end

/-- the one code table that may grow -/
noncomputable def TabOk (c : Cx) (h : Heap) : Prop := ∃ ps, h.IsCode c.cw c.P ps ∧ h.TableAt c.cw c.P ps ∧ (ps = #[] ∨ ∃ c' : Addr, ps = #[rawInt c.pl, rawInt c.pc, .ref c'])
theorem TabOk.at {c : Cx} {h h' : Heap} (x : TabOk c h) (h1 : ∀ o, h.get? c.cw = some o → h'.get? c.cw = some o) (h2 : ∀ o, h.get? c.P = some o → h'.get? c.P = some o) : TabOk c h' := by
  obtain ⟨ps, ⟨o, vs, file, tf, flags, tg, inF, text, tt, op, a, r1, r2, r3, r4, r5, r6, b, r⟩, ⟨⟨o', vs', e1, e2⟩, e3⟩, hp⟩ := x
  exact ⟨ps, ⟨o, vs, file, tf, flags, tg, inF, text, tt, op, h1 _ a, r1, r2, r3, r4, r5, r6, h2 _ b, r⟩, ⟨⟨o', vs', h1 _ e1, e2⟩, h2 _ e3⟩, hp⟩

/-- a transition that writes to old objects of W alone (frozen ones outside of X are never written) and to generators of G alone -/
structure Tr (c : Cx) (X W : Addr → Prop) (G : Nat → Prop) (s s' : Shared) : Prop where
  there : ∀ b, Is s.heap b → Is s'.heap b
  keep : ∀ b o, s.heap.get? b = some o → b ≠ c.P → (W b → c.Old b ∨ (Frozen o ∧ ¬ X b)) → s'.heap.get? b = some o
  tab : TabOk c s.heap → TabOk c s'.heap
  gsize : s.gens.size ≤ s'.gens.size
  gkeep : ∀ (i : Nat) (x : GenState), s.gens[i]? = some x → ¬ G i → s'.gens[i]? = some x
  gnew : ∀ (i : Nat) (x : GenState), s'.gens[i]? = some x → s.gens.size ≤ i → ¬ G i → x.isSuspended = false
  os : s'.os = s.os

noncomputable abbrev no : Nat → Prop := fun _ => False

theorem Tr.refl (c : Cx) (X W : Addr → Prop) (G : Nat → Prop) (s : Shared) : Tr c X W G s s :=
  ⟨fun _ h => h, fun _ _ e _ _ => e, id, Nat.le_refl _, fun _ _ e _ => e, fun _ _ e h _ => absurd (Array.getElem?_eq_some_iff.mp e).1 (Nat.not_lt.mpr h), rfl⟩

theorem Tr.trans {c : Cx} {X W W' : Addr → Prop} {G G' : Nat → Prop} {s s₁ s₂ : Shared} (a : Tr c X W G s s₁) (b : Tr c X W' G' s₁ s₂)
    (hW : ∀ x, Is s.heap x → W' x → W x) (hG : ∀ i, i < s.gens.size → G' i → G i) (hG' : ∀ i, s.gens.size ≤ i → (G i ∨ G' i) → G i := by intro i _ h; exact h.elim id (fun h => h.elim)) : Tr c X W G s s₂ where
  there := fun x h => b.there x (a.there x h)
  keep := fun x o e hP hw => b.keep x o (a.keep x o e hP hw) hP fun h' => hw (hW x ⟨o, e⟩ h')
  tab := fun h => b.tab (a.tab h)
  gsize := Nat.le_trans a.gsize b.gsize
  gkeep := fun i x e hg => b.gkeep i x (a.gkeep i x e hg) fun h' => hg (hG i (Array.getElem?_eq_some_iff.mp e).1 h')
  gnew := fun i x e hi hg => by
    by_cases h1 : s₁.gens.size ≤ i
    · exact b.gnew i x e h1 fun h' => hg (hG' i hi (.inr h'))
    · have hlt : i < s₁.gens.size := Nat.lt_of_not_le h1
      have e1 : s₁.gens[i]? = some s₁.gens[i] := Array.getElem?_eq_getElem hlt
      have e2 := b.gkeep i _ e1 fun h' => hg (hG' i hi (.inr h'))
      rw [e] at e2
      cases e2
      exact a.gnew i _ e1 hi hg
  os := b.os.trans a.os

/-- the plain case: nothing old is written by the second step but what the first may write -/
theorem Tr.then {c : Cx} {X W : Addr → Prop} {G : Nat → Prop} {s s₁ s₂ : Shared} (a : Tr c X W G s s₁) (b : Tr c X W G s₁ s₂) : Tr c X W G s s₂ :=
  a.trans b (fun _ _ h => h) (fun _ _ h => h) (fun _ _ h => h.elim id id)

theorem Tr.mono {c : Cx} {X W W' : Addr → Prop} {G G' : Nat → Prop} {s s₁ : Shared} (a : Tr c X W G s s₁) (hW : ∀ x, Is s.heap x → W x → W' x) (hG : ∀ i, G i → G' i) : Tr c X W' G' s s₁ :=
  ⟨a.there, fun b o e hP hw => a.keep b o e hP fun h => hw (hW b ⟨o, e⟩ h), a.tab, a.gsize, fun i x e hg => a.gkeep i x e fun h => hg (hG i h), fun i x e hi hg => a.gnew i x e hi fun h => hg (hG i h), a.os⟩

theorem Tr.monoX {c : Cx} {X X' W : Addr → Prop} {G : Nat → Prop} {s s₁ : Shared} (a : Tr c X W G s s₁) (hX : ∀ b, Is s.heap b → X b → X' b) : Tr c X' W G s s₁ :=
  ⟨a.there, fun b o e hP hw => a.keep b o e hP fun h => (hw h).imp id fun ⟨f, n⟩ => ⟨f, fun x => n (hX b ⟨o, e⟩ x)⟩, a.tab, a.gsize, a.gkeep, a.gnew, a.os⟩

theorem Frozen.seqObj (cls : String) (vs : List Value) (n : Nat) : Frozen (seqObj cls vs n) := ⟨_, _, rfl⟩

/-- what holds at every moment of the call -/
structure Iv (c : Cx) (s : Shared) : Prop where
  base : ∀ b o, c.hb.get? b = some o → b ≠ c.P → s.heap.get? b = some o
  tab : TabOk c s.heap
  os : s.os = c.os
  lowP : c.Old c.P
  lowC : c.Old c.cw

theorem Iv.tr {c : Cx} {X W : Addr → Prop} {G : Nat → Prop} {s s' : Shared} (h : Iv c s) (t : Tr c X W G s s') : Iv c s' :=
  ⟨fun b o e hP => t.keep b o (h.base b o e hP) hP fun _ => .inl ⟨o, e⟩, t.tab h.tab, t.os.trans h.os, h.lowP, h.lowC⟩

/-- a moment, with its X: all of X is there -/
structure Ok (c : Cx) (X : Addr → Prop) (s : Shared) : Prop extends Iv c s where
  xs : ∀ b, X b → Is s.heap b
theorem Ok.tr {c : Cx} {X W : Addr → Prop} {G : Nat → Prop} {s s' : Shared} (h : Ok c X s) (t : Tr c X W G s s') : Ok c X s' :=
  ⟨h.toIv.tr t, fun b hb => t.there b (h.xs b hb)⟩

theorem Iv.is_old {c : Cx} {s : Shared} (h : Iv c s) {b : Addr} (x : c.Old b) : Is s.heap b := by
  obtain ⟨o, e⟩ := x
  by_cases hP : b = c.P
  · obtain ⟨ps, _, ht, _⟩ := h.tab; exact ⟨_, hP ▸ ht.2⟩
  · exact ⟨o, h.base b o e hP⟩
theorem Ok.fresh {c : Cx} {X : Addr → Prop} {s : Shared} (h : Ok c X s) : ¬ X s.heap.objs.size := fun x => not_is_size _ (h.xs _ x)
theorem Iv.new {c : Cx} {s : Shared} (h : Iv c s) : ¬ c.Old s.heap.objs.size := fun x => not_is_size _ (h.is_old x)

theorem SeqAt.ne_P {c : Cx} {X : Addr → Prop} {s : Shared} {a : Addr} {cls : String} {vs : List Value} (h : Iv c s) (x : SeqAt c X s.heap a cls vs) : a ≠ c.P := by
  rintro rfl
  obtain ⟨n, e⟩ := x.at_
  obtain ⟨ps, _, ht, _⟩ := h.tab
  rw [ht.2] at e
  cases e

theorem SeqAt.tr {c : Cx} {X W : Addr → Prop} {G : Nat → Prop} {s s' : Shared} {a : Addr} {cls : String} {vs : List Value} (h : Iv c s) (t : Tr c X W G s s') (x : SeqAt c X s.heap a cls vs) : SeqAt c X s'.heap a cls vs := by
  obtain ⟨n, e⟩ := x.at_
  have e' := t.keep a _ e (x.ne_P h) fun _ => .inr ⟨.seqObj .., x.notX⟩
  exact ⟨⟨n, e'⟩, x.notX, fun hl o ho => by rw [e'] at ho; cases ho; exact x.old hl _ e⟩

mutual
theorem Rep.tr {c : Cx} {X W : Addr → Prop} {G : Nat → Prop} {s s' : Shared} (h : Iv c s) (t : Tr c X W G s s') : ∀ {v : Value} {d : D}, Rep c X s.heap v d → Rep c X s'.heap v d
  | _, _, .none => .none
  | _, _, .bool b => .bool b
  | _, _, .int i t => .int i t
  | _, _, .tup a r => .tup (a.tr h t) (RepL.tr h t r)
  | _, _, .list a r => .list (a.tr h t) (RepL.tr h t r)
  | _, _, .obj a => .obj a
theorem RepL.tr {c : Cx} {X W : Addr → Prop} {G : Nat → Prop} {s s' : Shared} (h : Iv c s) (t : Tr c X W G s s') : ∀ {vs : List Value} {ds : List D}, RepL c X s.heap vs ds → RepL c X s'.heap vs ds
  | _, _, .nil => .nil
  | _, _, .cons r rs => .cons (Rep.tr h t r) (RepL.tr h t rs)
end

theorem SeqAt.ext {c : Cx} {X X' : Addr → Prop} {h : Heap} {a : Addr} {cls : String} {vs : List Value} (hX : ∀ b, X' b → X b ∨ ¬ Is h b) (x : SeqAt c X h a cls vs) : SeqAt c X' h a cls vs := by
  obtain ⟨n, e⟩ := x.at_
  exact ⟨⟨n, e⟩, fun hx => (hX a hx).elim x.notX fun hl => hl ⟨_, e⟩, x.old⟩
mutual
theorem Rep.ext {c : Cx} {X X' : Addr → Prop} {h : Heap} (hX : ∀ b, X' b → X b ∨ ¬ Is h b) : ∀ {v : Value} {d : D}, Rep c X h v d → Rep c X' h v d
  | _, _, .none => .none
  | _, _, .bool b => .bool b
  | _, _, .int i t => .int i t
  | _, _, .tup a r => .tup (a.ext hX) (RepL.ext hX r)
  | _, _, .list a r => .list (a.ext hX) (RepL.ext hX r)
  | _, _, .obj a => .obj a
theorem RepL.ext {c : Cx} {X X' : Addr → Prop} {h : Heap} (hX : ∀ b, X' b → X b ∨ ¬ Is h b) : ∀ {vs : List Value} {ds : List D}, RepL c X h vs ds → RepL c X' h vs ds
  | _, _, .nil => .nil
  | _, _, .cons r rs => .cons (Rep.ext hX r) (RepL.ext hX rs)
end

/-- a smaller X -/
theorem SeqAt.less {c : Cx} {X X' : Addr → Prop} {h : Heap} {a : Addr} {cls : String} {vs : List Value} (hX : ∀ b, X' b → X b) (x : SeqAt c X h a cls vs) : SeqAt c X' h a cls vs :=
  x.ext fun b hb => .inl (hX b hb)
theorem Rep.less {c : Cx} {X X' : Addr → Prop} {h : Heap} (hX : ∀ b, X' b → X b) {v : Value} {d : D} (r : Rep c X h v d) : Rep c X' h v d := r.ext fun b hb => .inl (hX b hb)
theorem RepL.less {c : Cx} {X X' : Addr → Prop} {h : Heap} (hX : ∀ b, X' b → X b) {vs : List Value} {ds : List D} (r : RepL c X h vs ds) : RepL c X' h vs ds := r.ext fun b hb => .inl (hX b hb)

theorem RepL.length {c : Cx} {X : Addr → Prop} {h : Heap} : ∀ {vs : List Value} {ds : List D}, RepL c X h vs ds → vs.length = ds.length
  | _, _, .nil => rfl
  | _, _, .cons _ rs => by rw [List.length_cons, List.length_cons, rs.length]
theorem RepL.get {c : Cx} {X : Addr → Prop} {h : Heap} : ∀ {vs : List Value} {ds : List D}, RepL c X h vs ds → ∀ {i : Nat} {d : D}, ds[i]? = some d → ∃ v, vs[i]? = some v ∧ Rep c X h v d
  | _, _, .nil, _, _, e => by simp at e
  | _, _, .cons r rs, 0, _, e => by
    simp at e; subst e; exact ⟨_, rfl, r⟩
  | _, _, .cons r rs, i + 1, _, e => by
    simp at e; obtain ⟨v, h1, h2⟩ := rs.get e; exact ⟨v, by simpa using h1, h2⟩
theorem RepL.append {c : Cx} {X : Addr → Prop} {h : Heap} : ∀ {vs us : List Value} {ds es : List D}, RepL c X h vs ds → RepL c X h us es → RepL c X h (vs ++ us) (ds ++ es)
  | _, _, _, _, .nil, q => q
  | _, _, _, _, .cons r rs, q => .cons r (rs.append q)
theorem RepL.drop {c : Cx} {X : Addr → Prop} {h : Heap} : ∀ {vs : List Value} {ds : List D} (n : Nat), RepL c X h vs ds → RepL c X h (vs.drop n) (ds.drop n)
  | _, _, 0, q => q
  | _, _, _ + 1, .nil => .nil
  | _, _, n + 1, .cons _ rs => rs.drop n
theorem RepL.take {c : Cx} {X : Addr → Prop} {h : Heap} : ∀ {vs : List Value} {ds : List D} (n : Nat), RepL c X h vs ds → RepL c X h (vs.take n) (ds.take n)
  | _, _, 0, _ => .nil
  | _, _, _ + 1, .nil => .nil
  | _, _, n + 1, .cons r rs => .cons r (rs.take n)

/-! the kinds of elementary transitions -/
theorem Tr.toks {c : Cx} {X W : Addr → Prop} {G : Nat → Prop} {s : Shared} (t : Nat) : Tr c X W G s { s with toks := t } :=
  ⟨fun _ h => h, fun _ _ e _ _ => e, id, Nat.le_refl _, fun _ _ e _ => e, fun _ _ e h _ => absurd (Array.getElem?_eq_some_iff.mp e).1 (Nat.not_lt.mpr h), rfl⟩

/-- old objects kept: the commonest -/
theorem Tr.grow {c : Cx} {X W : Addr → Prop} {G : Nat → Prop} {s : Shared} {h' : Heap} {t : Nat} (hk : ∀ b o, s.heap.get? b = some o → h'.get? b = some o) : Tr c X W G s { s with heap := h', toks := t } :=
  ⟨fun b ⟨o, e⟩ => ⟨o, hk b o e⟩, fun b o e _ _ => hk b o e, fun h => h.at (hk _) (hk _), Nat.le_refl _, fun _ _ e _ => e, fun _ _ e h _ => absurd (Array.getElem?_eq_some_iff.mp e).1 (Nat.not_lt.mpr h), rfl⟩

theorem Tr.push {c : Cx} {X W : Addr → Prop} {G : Nat → Prop} {s : Shared} {o : Obj} {t : Nat} : Tr c X W G s { s with heap := s.heap.push o, toks := t } :=
  .grow fun _ _ e => Heap.get?_push_of_some _ e

/-- one object of W changed, that is neither frozen nor old nor the table's -/
theorem Tr.same {c : Cx} {X W : Addr → Prop} {G : Nat → Prop} {s : Shared} {h' : Heap} {a : Addr} {t : Nat} (hi : Iv c s) (hs : Heap.SameBut a s.heap h') (hW : W a) (hn : ¬ c.Old a) (hh : Is h' a)
    (hf : ∀ o, s.heap.get? a = some o → Frozen o → X a) : Tr c X W G s { s with heap := h', toks := t } := by
  refine ⟨fun b ⟨o, e⟩ => ?_, fun b o e hb hw => ?_, fun ht => ?_, Nat.le_refl _, fun _ _ e _ => e, fun _ _ e h _ => absurd (Array.getElem?_eq_some_iff.mp e).1 (Nat.not_lt.mpr h), rfl⟩
  · by_cases hba : b = a
    · exact hba ▸ hh
    · exact ⟨o, (hs.2 b hba).trans e⟩
  · by_cases hba : b = a
    · subst hba
      rcases hw hW with h | ⟨f, hx⟩
      · exact absurd h hn
      · exact absurd (hf o e f) hx
    · exact (hs.2 b hba).trans e
  · have h1 : a ≠ c.cw := fun e => hn (e ▸ hi.lowC)
    have h2 : a ≠ c.P := fun e => hn (e ▸ hi.lowP)
    exact ht.at (fun o e => (hs.2 _ h1.symm).trans e) (fun o e => (hs.2 _ h2.symm).trans e)

/-! variables -/
structure EnvS (sc : Scope) (env : Env) : Prop where
  scope : env.scope = sc
  kind : sc.kind = .function
  glob : env.globals = mainGlobals
  blt : env.builtins = builtinsNs
  cells : ∀ x, sc.names.lookup x = some .cell ∨ sc.names.lookup x = some .free → (env.cells.lookup x).isSome = true

theorem EnvS.kindOf {sc : Scope} {env : Env} (h : EnvS sc env) (x : Str) : env.kindOf x = sc.names.lookup x := by
  unfold Env.kindOf; rw [h.scope]

structure Vars (c : Cx) (env : Env) (h : Heap) (m cm : Str → Option Value) : Prop where
  ns : h.Ns env.locals m
  cell : ∀ x a, env.cells.lookup x = some a → h.IsCell a (cm x)
  apart : env.cells.Pairwise fun x y => x.2 ≠ y.2
  low : ¬ c.Old env.locals
  lowc : ∀ x a, (x, a) ∈ env.cells → ¬ c.Old a
  code : env.scope = c.wsc → env.code = .ref c.cw

noncomputable abbrev Rho := Str → Option D
noncomputable def upd (ρ : Rho) (x : Str) (d : D) : Rho := fun y => if y = x then some d else ρ y

noncomputable def Holds1 (env : Env) (m cm : Str → Option Value) (x : Str) (v : Value) : Prop :=
  (env.kindOf x = some .local ∧ m x = some v) ∨ ((env.kindOf x = some .cell ∨ env.kindOf x = some .free) ∧ (env.cells.lookup x).isSome = true ∧ cm x = some v)

noncomputable def EnvAt (c : Cx) (X : Addr → Prop) (ρ : Rho) (env : Env) (h : Heap) : Prop :=
  ∃ m cm, Vars c env h m cm ∧ ∀ x d, ρ x = some d → ∃ v, Rep c X h v d ∧ Holds1 env m cm x v

/-- the addresses that belong to a frame -/
noncomputable def own (env : Env) (a : Addr) : Prop := a = env.locals ∨ ∃ x, env.cells.lookup x = some a

theorem EnvAt.tr {c : Cx} {X W : Addr → Prop} {G : Nat → Prop} {s s' : Shared} {ρ : Rho} {env : Env} (hi : Iv c s) (t : Tr c X W G s s') (e : EnvAt c X ρ env s.heap) (hw : ∀ a, own env a → ¬ W a) : EnvAt c X ρ env s'.heap := by
  obtain ⟨m, cm, V, hv⟩ := e
  have k : ∀ a o, ¬ c.Old a → own env a → s.heap.get? a = some o → s'.heap.get? a = some o := fun a o hn ho e =>
    t.keep a o e (fun e => hn (e ▸ hi.lowP)) fun h => absurd h (hw a ho)
  refine ⟨m, cm, ⟨V.ns.at fun o e => k _ o V.low (.inl rfl) e, fun x a ha => ?_, V.apart, V.low, V.lowc, V.code⟩, fun x d hd => ?_⟩
  · obtain ⟨o, ho, hd⟩ := V.cell x a ha
    exact ⟨o, k a o (V.lowc x a (mem_of_lookup ha)) (.inr ⟨x, ha⟩) ho, hd⟩
  · obtain ⟨v, hr, h1⟩ := hv x d hd
    exact ⟨v, hr.tr hi t, h1⟩

theorem EnvAt.is {c : Cx} {X : Addr → Prop} {h : Heap} {ρ : Rho} {env : Env} (e : EnvAt c X ρ env h) {b : Addr} (hb : own env b) : Is h b := by
  obtain ⟨m, cm, V, _⟩ := e
  rcases hb with rfl | ⟨x, hx⟩
  · obtain ⟨o, _, _, ho, _⟩ := V.ns; exact ⟨o, ho⟩
  · obtain ⟨o, ho, _⟩ := V.cell x b hx; exact ⟨o, ho⟩

theorem EnvAt.ext {c : Cx} {X X' : Addr → Prop} {h : Heap} {ρ : Rho} {env : Env} (hX : ∀ b, X' b → X b ∨ ¬ Is h b) (e : EnvAt c X ρ env h) : EnvAt c X' ρ env h := by
  obtain ⟨m, cm, V, hv⟩ := e
  exact ⟨m, cm, V, fun x d hd => let ⟨v, hr, h1⟩ := hv x d hd; ⟨v, hr.ext hX, h1⟩⟩
theorem EnvAt.weaken {c : Cx} {X : Addr → Prop} {h : Heap} {ρ ρ' : Rho} {env : Env} (e : EnvAt c X ρ env h) (hr : ∀ x d, ρ' x = some d → ρ x = some d) : EnvAt c X ρ' env h := by
  obtain ⟨m, cm, V, hv⟩ := e
  exact ⟨m, cm, V, fun x d hd => hv x d (hr x d hd)⟩

section
variable {M : Model} {A : Around} {E : Value → Shared → Prop} {s : Shared} {c : Cx} {X : Addr → Prop} {ρ : Rho} {env : Env} {sc : Scope}

theorem EnvAt.load {x : Str} {d : D} {Q : Value → Shared → Prop} (S : EnvS sc env) (e : EnvAt c X ρ env s.heap) (hx : ρ x = some d) (h : ∀ v, Rep c X s.heap v d → Q v s) (hn : (x == ("__classdict__" : Str)) = false := by decide) :
    wpAny M A (loadName env x) Q E s := by
  obtain ⟨m, cm, V, hv⟩ := e
  obtain ⟨v, hr, h1⟩ := hv x d hx
  have hk : env.scope.kind = .function := by rw [S.scope]; exact S.kind
  rcases h1 with ⟨hl, hm⟩ | ⟨hl | hl, hc, hm⟩
  · exact wpAny_loadName_local hk hl V.ns hm (h v hr)
  · obtain ⟨a, ha⟩ := Option.isSome_iff_exists.mp hc
    exact wpAny_loadName_cell hk hl ha (hm ▸ V.cell x a ha) (h v hr)
  · obtain ⟨a, ha⟩ := Option.isSome_iff_exists.mp hc
    exact wpAny_loadName_free hk hl ha (hm ▸ V.cell x a ha) (h v hr) hn

theorem EnvAt.storeL {x : Str} {d : D} {v : Value} {Q : Unit → Shared → Prop} (hi : Iv c s) (S : EnvS sc env) (e : EnvAt c X ρ env s.heap) (hk : sc.names.lookup x = some .local) (hr : Rep c X s.heap v d)
    (h : ∀ s', (∀ W : Addr → Prop, W env.locals → Tr c X W no s s') → EnvAt c X (upd ρ x d) env s'.heap → Q () s') : wpAny M A (storeName env x v) Q E s := by
  obtain ⟨m, cm, V, hv⟩ := e
  have hl : env.kindOf x = some .local := by rw [S.kindOf]; exact hk
  refine wpAny_storeName_local hl V.ns (fun h' hn' hs' => ?_) (by rw [S.scope, S.kind]; rfl)
  have T : ∀ W : Addr → Prop, W env.locals → Tr c X W no s { s with heap := h', toks := s.toks + 1 } := fun W hW => Tr.same hi hs' hW V.low (let ⟨o, _, _, ho, _⟩ := hn'; ⟨o, ho⟩) fun o ho ⟨vs, n, hd⟩ => by
    obtain ⟨o', es, ep, ho', hd', _⟩ := V.ns
    rw [ho] at ho'; cases ho'
    rw [hd] at hd'; cases hd'
  refine h _ T ⟨fun y => if y = x then some v else m y, cm, ⟨hn', fun y a ha => ?_, V.apart, V.low, V.lowc, V.code⟩, fun y d' hd => ?_⟩
  · refine (V.cell y a ha).sameBut hs' fun e => ?_
    obtain ⟨o, ho, hd⟩ := V.cell y a ha
    obtain ⟨o', es, ep, ho', hd', _⟩ := V.ns
    rw [e, ho'] at ho; cases ho
    rw [hd] at hd'; cases hd'
  · by_cases hy : y = x
    · subst hy
      have : d' = d := by simpa [upd] using hd.symm
      subst this
      exact ⟨v, hr.tr hi (T _ rfl), .inl ⟨hl, by simp⟩⟩
    · obtain ⟨v', hr', h1⟩ := hv y d' (by simpa [upd, hy] using hd)
      refine ⟨v', hr'.tr hi (T _ rfl), h1.imp (fun ⟨a, b⟩ => ⟨a, by simpa [hy] using b⟩) id⟩

theorem EnvAt.storeC {x : Str} {d : D} {v : Value} {Q : Unit → Shared → Prop} (hi : Iv c s) (S : EnvS sc env) (e : EnvAt c X ρ env s.heap) (hk : sc.names.lookup x = some .cell) (hr : Rep c X s.heap v d)
    (h : ∀ s', (∀ W : Addr → Prop, (∀ a, own env a → W a) → Tr c X W no s s') → EnvAt c X (upd ρ x d) env s'.heap → Q () s') : wpAny M A (storeName env x v) Q E s := by
  obtain ⟨m, cm, V, hv⟩ := e
  have hl : env.kindOf x = some .cell := by rw [S.kindOf]; exact hk
  obtain ⟨a, ha⟩ := Option.isSome_iff_exists.mp (S.cells x (.inl hk))
  have hm := mem_of_lookup ha
  refine wpAny_storeName_cell (by rw [S.scope]; exact S.kind) hl ha (V.cell x a ha) fun h' hc' hs' => ?_
  have T : ∀ W : Addr → Prop, (∀ a, own env a → W a) → Tr c X W no s { s with heap := h' } := fun W hW => Tr.same (t := s.toks) hi hs' (hW a (.inr ⟨x, ha⟩)) (V.lowc x a hm) (let ⟨o, ho, _⟩ := hc'; ⟨o, ho⟩) fun o ho ⟨vs, n, hd⟩ => by
    obtain ⟨o', ho', hd'⟩ := V.cell x a ha
    rw [ho] at ho'; cases ho'
    rw [hd] at hd'; cases hd'
  refine h _ T ⟨m, fun y => if y = x then some v else cm y, ⟨V.ns.sameBut hs' fun e => ?_, fun y b hb => ?_, V.apart, V.low, V.lowc, V.code⟩, fun y d' hd => ?_⟩
  · obtain ⟨o, ho, hd⟩ := V.cell x a ha
    obtain ⟨o', es, ep, ho', hd', _⟩ := V.ns
    rw [e, ho] at ho'; cases ho'
    rw [hd] at hd'; cases hd'
  · by_cases hy : y = x
    · subst hy
      rw [ha] at hb; cases hb
      simpa using hc'
    · rw [if_neg hy]
      exact (V.cell y b hb).sameBut hs' fun e => hy (name_of_addr V.apart (mem_of_lookup hb) (e ▸ hm))
  · by_cases hy : y = x
    · subst hy
      have : d' = d := by simpa [upd] using hd.symm
      subst this
      exact ⟨v, hr.tr hi (T (own env) fun _ h => h), .inr ⟨.inl hl, by rw [ha]; rfl, by simp⟩⟩
    · obtain ⟨v', hr', h1⟩ := hv y d' (by simpa [upd, hy] using hd)
      refine ⟨v', hr'.tr hi (T (own env) fun _ h => h), h1.imp id fun ⟨p, q, r⟩ => ⟨p, q, by simpa [hy] using r⟩⟩
end
end Dio

namespace Dio
set_option tactic.hygienic false
open PySem PySem.W PySem.Calls PyProof.Rows
open Sem (wp)
set_option maxRecDepth 100000

/-! G. The ground, and what expressions give -/
structure Gnd (c : Cx) : Prop where
  g : c.hb.Ns mainGlobals c.mg
  b : c.hb.Ns builtinsNs c.mb
  nolimit : c.hb.NoLimit
  fn : ∀ d ∈ recsOf q, ∃ a o pm code doc, c.mg d.name = some (.ref a) ∧ c.hb.get? a = some o ∧ o.data = .func (docDef d.name d.params d.body d.scope pm code doc) ∧ c.hb.CodeRec code d.name
  builtins : ∀ x : Str, x ≠ "__name__" → c.mb x = bootBuiltins x
  tab : c.hb.TableAt c.cw c.P #[]
  cwc : c.hb.IsCode c.cw c.P #[]
  wfn : ∀ d ∈ recsOf q, d.scope = c.wsc → ∀ (a : Addr) (o : Obj) (fd : FuncData), c.mg d.name = some (.ref a) → c.hb.get? a = some o → o.data = .func fd → fd.code = .ref c.cw
  free : ∀ x : Str, x ∉ startupNames → x ∉ (recsOf q).map (·.name) → c.mg x = none
  bmain : ∃ bm ob, c.mg "__builtins__" = some (.ref bm) ∧ bm ≠ builtinsNs ∧ c.hb.get? bm = some ob ∧ ob.cls = .type "module" ∧ ob.dict = some builtinsNs ∧ ob.data = .plain

theorem Iv.get {c : Cx} {s : Shared} (G : Gnd c) (h : Iv c s) {b : Addr} {o : Obj} (e : c.hb.get? b = some o) (hd : o.data ≠ .fields #[]) : s.heap.get? b = some o := by
  refine h.base b o e fun hP => ?_
  subst hP
  rw [G.tab.2] at e
  cases e
  exact hd rfl
theorem Iv.ns {c : Cx} {s : Shared} (G : Gnd c) (h : Iv c s) {a : Addr} {m : Str → Option Value} (n : c.hb.Ns a m) : s.heap.Ns a m := by
  refine n.at fun o e => h.get G e ?_
  obtain ⟨o', es, ep, e', hd, _⟩ := n
  rw [e] at e'; cases e'
  rw [hd]; intro z; cases z
theorem Iv.nolimit {c : Cx} {s : Shared} (G : Gnd c) (h : Iv c s) : s.heap.NoLimit := let ⟨mc, n, e⟩ := G.nolimit; ⟨mc, h.ns G n, e⟩
theorem Iv.code {c : Cx} {s : Shared} (G : Gnd c) (h : Iv c s) {cd : Value} {nm : Str} (x : c.hb.CodeRec cd nm) : s.heap.CodeRec cd nm := by
  obtain ⟨a, o, vs, t, e1, e2, e3, e4⟩ := x
  refine ⟨a, o, vs, t, e1, h.get G e2 ?_, e3, e4⟩
  rw [e3]; intro z
  injection z with z
  subst z
  simp at e4

noncomputable abbrev MF (c : Cx) : Model := modelF PySem.Challenge.pw_iy0017_01 c.w

noncomputable def okA (k : Nat) (A : Around) : Prop := A.handled = none ∧ A.depth + k ≤ 900 ∧ A.units + 8 * k ≤ 9000
theorem okA.less {k k' : Nat} {A : Around} (h : okA k A) (hk : k' ≤ k) : okA k' A := ⟨h.1, by have := h.2.1; omega, by have := h.2.2; omega⟩
theorem okA.depth {k : Nat} {A : Around} (h : okA k A) : A.depth < recursionLimit := by have := h.2.1; unfold recursionLimit; omega
theorem okA.units {k : Nat} {A : Around} (h : okA k A) : A.units < cLine := by have := h.2.2; unfold cLine; omega
theorem okA.in1 {k : Nat} {A : Around} (h : okA (k + 1) A) : okA k A.in1 := ⟨h.1, by have := h.2.1; simp; omega, by have := h.2.2; simp; omega⟩
theorem okA.deeper {k : Nat} {A : Around} {env : Env} (h : okA (k + 1) A) : okA k (A.deeper env) := ⟨h.1, by have := h.2.1; simp only [Around.deeper]; omega, by have := h.2.2; simp only [Around.deeper]; omega⟩

noncomputable def Ev (c : Cx) (k : Nat) (sc : Scope) (ρ : Rho) (e : Expr) (d : D) : Prop :=
  ∀ (env : Env) (X : Addr → Prop) (A : Around) (s : Shared) (Q : Value → Shared → Prop) (E : Value → Shared → Prop), EnvS sc env → okA k A → Ok c X s → EnvAt c X ρ env s.heap →
    (∀ v s', Tr c X no no s s' → Rep c X s'.heap v d → Q v s') → wpAny (MF c) A (eval e env) Q E s

/-- a test -/
noncomputable def Tst (c : Cx) (k : Nat) (sc : Scope) (ρ : Rho) (e : Expr) (b : Bool) : Prop :=
  ∀ (env : Env) (X : Addr → Prop) (A : Around) (s : Shared) (Q : Bool → Shared → Prop) (E : Value → Shared → Prop), EnvS sc env → okA k A → Ok c X s → EnvAt c X ρ env s.heap →
    (∀ s', Tr c X no no s s' → Q b s') → wpAny (MF c) A (isTrue e env (eval e env)) Q E s

/-- a row of arguments -/
noncomputable def EvL (c : Cx) (k : Nat) (sc : Scope) (ρ : Rho) (es : List Expr) (ds : List D) : Prop :=
  ∀ (env : Env) (X : Addr → Prop) (A : Around) (s : Shared) (pos : Pos) (Q : List Value → Shared → Prop) (E : Value → Shared → Prop), EnvS sc env → okA k A → Ok c X s → EnvAt c X ρ env s.heap →
    (∀ vs s', Tr c X no no s s' → RepL c X s'.heap vs ds → Q vs s') → wpAny (MF c) A (spliced (backTo pos (starEach es env))) Q E s

theorem EnvAt.step {c : Cx} {X : Addr → Prop} {s s' : Shared} {ρ : Rho} {env : Env} (hi : Ok c X s) (t : Tr c X no no s s') (e : EnvAt c X ρ env s.heap) : EnvAt c X ρ env s'.heap := e.tr hi.toIv t fun _ _ h => h
theorem Tr.seq {c : Cx} {X : Addr → Prop} {s s₁ s₂ : Shared} (a : Tr c X no no s s₁) (b : Tr c X no no s₁ s₂) : Tr c X no no s s₂ := a.then b

section
variable {c : Cx} {k : Nat} {sc : Scope} {ρ : Rho}

theorem Ev.name {x : Str} {pos : Pos} {d : D} (hx : ρ x = some d) (hd : (x == ("__debug__" : Str)) = false := by decide) (hn : (x == ("__classdict__" : Str)) = false := by decide) : Ev c k sc ρ (.Name x pos) d :=
  fun env X A s Q E S hA hi he h => wpAny_Name (he.load S hx (fun v hv => h v s (.refl ..) hv) hn) hd

theorem Ev.int (i : Int) (j : Nat) (pos : Pos) : Ev c k sc ρ (.Constant (.int i) j pos) (.int i) :=
  fun env X A s Q E S hA hi he h => wpAny_Constant_int (h _ _ (.toks _) (.int i _))
theorem Ev.none (j : Nat) (pos : Pos) : Ev c k sc ρ (.Constant .none j pos) .none :=
  fun env X A s Q E S hA hi he h => by show wpAny _ _ (pure Value.none) _ _ _; exact wpAny_pure (h _ _ (.refl ..) .none)
theorem Ev.bool (b : Bool) (j : Nat) (pos : Pos) : Ev c k sc ρ (.Constant (.bool b) j pos) (.bool b) :=
  fun env X A s Q E S hA hi he h => by show wpAny _ _ (pure (Value.bool b)) _ _ _; exact wpAny_pure (h _ _ (.refl ..) (.bool b))

/-- an operation on two data -/
noncomputable def Op2 (c : Cx) (k : Nat) (f : Value → Value → Sem Value) (d₁ d₂ d : D) : Prop :=
  ∀ (X : Addr → Prop) (A : Around) (s : Shared) (v₁ v₂ : Value) (Q : Value → Shared → Prop) (E : Value → Shared → Prop), okA k A → Ok c X s → Rep c X s.heap v₁ d₁ → Rep c X s.heap v₂ d₂ →
    (∀ v s', Tr c X no no s s' → Rep c X s'.heap v d → Q v s') → wpAny (MF c) A (f v₁ v₂) Q E s

theorem Ev.bin {op : Operator} {l r : Expr} {pos : Pos} {d₁ d₂ d : D} (h₁ : Ev c k sc ρ l d₁) (h₂ : Ev c k sc ρ r d₂) (h : Op2 c k (binaryOp op) d₁ d₂ d) : Ev c k sc ρ (.BinOp l op r pos) d :=
  fun env X A s Q E S hA hi he hQ => wpAny_BinOp (h₁ env X A s _ E S hA hi he fun v₁ s₁ t₁ r₁ => h₂ env X A s₁ _ E S hA (hi.tr t₁) (he.step hi t₁) fun v₂ s₂ t₂ r₂ =>
    h X A s₂ v₁ v₂ Q E hA ((hi.tr t₁).tr t₂) (r₁.tr (hi.tr t₁).toIv t₂) r₂ fun v s' t r => hQ v s' ((t₁.seq t₂).seq t) r)

theorem Op2.ints {f : Value → Value → Sem Value} {a b i : Int} (h : ∀ (A : Around) (s : Shared) (t u : Tok) (Q : Value → Shared → Prop) (E : Value → Shared → Prop), okA k A → Q (.int i s.toks) { s with toks := s.toks + 1 } → wpAny (model PySem.Challenge.pw_iy0017_01 c.w) A (f (.int a t) (.int b u)) Q E s) :
    Op2 c k f (.int a) (.int b) (.int i) := by
  intro X A s v₁ v₂ Q E hA hi r₁ r₂ hQ
  cases r₁ with
  | int _ t => cases r₂ with
    | int _ u => exact lift (h A s t u Q E hA (hQ _ _ (.toks _) (.int i _)))

theorem Op2.add (a b : Int) : Op2 c k (binaryOp .Add) (.int a) (.int b) (.int (a + b)) := .ints fun A s t u Q E _ h => PyProof.Rows.add_int h
theorem Op2.sub (a b : Int) : Op2 c k (binaryOp .Sub) (.int a) (.int b) (.int (a - b)) := .ints fun A s t u Q E _ h => PyProof.Rows.sub_int h
theorem Op2.mul (a b : Int) (hm : IntMulOk a b) : Op2 c k (binaryOp .Mult) (.int a) (.int b) (.int (a * b)) := .ints fun A s t u Q E _ h => PyProof.Rows.mul_int h hm
set_option tactic.hygienic true in
theorem pylong_small {a b : Int} (h1 : -(2 ^ 60) < b) (h2 : b < 2 ^ 60) : Builtin.divisionGoesByPylong a b = false := by
  unfold Builtin.divisionGoesByPylong
  rw [Bool.and_eq_false_iff]
  left
  refine decide_eq_false ?_
  show ¬ (if (b == 0) = true then 0 else b.natAbs.log2 / 30 + 1) > 300
  split
  · omega
  · rename_i hb
    have hb' : b ≠ 0 := by simpa using hb
    have : b.natAbs.log2 < 60 := (Nat.log2_lt (by omega)).mpr (by omega)
    omega
theorem Op2.div (a b : Int) (hb : b ≠ 0) (h1 : -(2 ^ 60) < b) (h2 : b < 2 ^ 60) : Op2 c k (binaryOp .FloorDiv) (.int a) (.int b) (.int (a.fdiv b)) := .ints fun A s t u Q E _ h => PyProof.Rows.floordiv_int hb h (.inl (pylong_small h1 h2))
theorem Op2.mod (a b : Int) (hb : b ≠ 0) : Op2 c k (binaryOp .Mod) (.int a) (.int b) (.int (a.fmod b)) := .ints fun A s t u Q E _ h => PyProof.Rows.mod_int' hb h

theorem Op2.cmp {f : Value → Value → Sem Value} {a b : Int} {i : Bool} (h : ∀ (A : Around) (s : Shared) (t u : Tok) (Q : Value → Shared → Prop) (E : Value → Shared → Prop), Q (.bool i) s → wpAny (model PySem.Challenge.pw_iy0017_01 c.w) A (f (.int a t) (.int b u)) Q E s) :
    Op2 c k f (.int a) (.int b) (.bool i) := by
  intro X A s v₁ v₂ Q E hA hi r₁ r₂ hQ
  cases r₁ with
  | int _ t => cases r₂ with
    | int _ u => exact lift (h A s t u Q E (hQ _ _ (.refl ..) (.bool i)))
theorem Op2.lt (a b : Int) : Op2 c k (compareOp .Lt) (.int a) (.int b) (.bool (decide (a < b))) := .cmp fun A s t u Q E h => PyProof.Rows.lt_int h
theorem Op2.le (a b : Int) : Op2 c k (compareOp .LtE) (.int a) (.int b) (.bool (decide (a ≤ b))) := .cmp fun A s t u Q E h => PyProof.Rows.le_int h
theorem Op2.gt (a b : Int) : Op2 c k (compareOp .Gt) (.int a) (.int b) (.bool (decide (b < a))) := .cmp fun A s t u Q E h => PyProof.Rows.gt_int h
theorem Op2.ge (a b : Int) : Op2 c k (compareOp .GtE) (.int a) (.int b) (.bool (decide (b ≤ a))) := .cmp fun A s t u Q E h => PyProof.Rows.ge_int h
theorem Op2.eq (a b : Int) : Op2 c k (compareOp .Eq) (.int a) (.int b) (.bool (decide (a = b))) := .cmp fun A s t u Q E h => PyProof.Rows.eq_int (by rw [show (a == b) = decide (a = b) from rfl]; exact h)
theorem Op2.ne (a b : Int) : Op2 c k (compareOp .NotEq) (.int a) (.int b) (.bool (decide (a ≠ b))) := .cmp fun A s t u Q E h => PyProof.Rows.ne_int (by rw [show (a != b) = decide (a ≠ b) from by simp [bne, BEq.beq]]; exact h)

/-- a comparison as a value -/
theorem Ev.cmp {op : CmpOp} {l r : Expr} {pos : Pos} {d₁ d₂ d : D} (h₁ : Ev c k sc ρ l d₁) (h₂ : Ev c k sc ρ r d₂) (h : Op2 c k (compareOp op) d₁ d₂ d) (hm : behindInMarks op r = false := by with_unfolding_all rfl) : Ev c k sc ρ (.Compare l [op] [r] pos) d :=
  fun env X A s Q E S hA hi he hQ => wpAny_Compare1 (h₁ env X A s _ E S hA hi he fun v₁ s₁ t₁ r₁ => h₂ env X A s₁ _ E S hA (hi.tr t₁) (he.step hi t₁) fun v₂ s₂ t₂ r₂ =>
    h X A s₂ v₁ v₂ Q E hA ((hi.tr t₁).tr t₂) (r₁.tr (hi.tr t₁).toIv t₂) r₂ fun v s' t r => hQ v s' ((t₁.seq t₂).seq t) r) hm
theorem Tst.cmp {op : CmpOp} {l r : Expr} {pos : Pos} {d₁ d₂ : D} {b : Bool} (h₁ : Ev c k sc ρ l d₁) (h₂ : Ev c k sc ρ r d₂) (h : Op2 c k (compareOp op) d₁ d₂ (.bool b)) (hm : behindInMarks op r = false := by with_unfolding_all rfl) : Tst c k sc ρ (.Compare l [op] [r] pos) b :=
  fun env X A s Q E S hA hi he hQ => wpAny_isTrue_Compare1 (h₁ env X A s _ E S hA hi he fun v₁ s₁ t₁ r₁ => h₂ env X A s₁ _ E S hA (hi.tr t₁) (he.step hi t₁) fun v₂ s₂ t₂ r₂ =>
    h X A s₂ v₁ v₂ _ E hA ((hi.tr t₁).tr t₂) (r₁.tr (hi.tr t₁).toIv t₂) r₂ fun v s' t r => by
      cases r
      exact wpAny_truthy_bool (hQ s' ((t₁.seq t₂).seq t))) hm
theorem Tst.cast {e : Expr} {b b' : Bool} (h : Tst c k sc ρ e b) (hb : b = b') : Tst c k sc ρ e b' := hb ▸ h
theorem Ev.cast {e : Expr} {d d' : D} (h : Ev c k sc ρ e d) (hd : d = d') : Ev c k sc ρ e d' := hd ▸ h

/-- the truth of an int under a name -/
theorem Tst.name {x : Str} {pos : Pos} {i : Int} (hx : ρ x = some (.int i)) (hd : (x == ("__debug__" : Str)) = false := by decide) (hn : (x == ("__classdict__" : Str)) = false := by decide) : Tst c k sc ρ (.Name x pos) (i != 0) :=
  fun env X A s Q E S hA hi he hQ => wpAny_isTrue_value (Ev.name hx hd hn env X A s _ E S hA hi he fun v s' t r => by
    cases r with
    | int _ u => exact lift (PyProof.Rows.truthy_int (hQ s' t))) (by rfl)

theorem Tst.or {x y : Expr} {pos : Pos} {b₁ b₂ : Bool} (h₁ : Tst c k sc ρ x b₁) (h₂ : b₁ = false → Tst c k sc ρ y b₂) : Tst c k sc ρ (.BoolOp .Or [x, y] pos) (b₁ || b₂) :=
  fun env X A s Q E S hA hi he hQ => by
    refine wpAny_isTrue_BoolOp ?_
    show wpAny (MF c) A (do match BoolOp.Or, ← isTrue x env (eval x env) with | .And, false => pure false | .Or, true => pure true | _, _ => allTrue .Or [y] env) Q E s
    refine wpAny_bind (h₁ env X A s _ E S hA hi he fun s₁ t₁ => ?_)
    cases b₁ with
    | true => exact wpAny_pure (hQ s₁ t₁)
    | false =>
      show wpAny (MF c) A (do match BoolOp.Or, ← isTrue y env (eval y env) with | .And, false => pure false | .Or, true => pure true | _, _ => allTrue .Or [] env) Q E s₁
      refine wpAny_bind (h₂ rfl env X A s₁ _ E S hA (hi.tr t₁) (he.step hi t₁) fun s₂ t₂ => ?_)
      cases b₂ with
      | true => exact wpAny_pure (hQ s₂ (t₁.seq t₂))
      | false => exact wpAny_pure (hQ s₂ (t₁.seq t₂))
theorem Tst.and {x y : Expr} {pos : Pos} {b₁ b₂ : Bool} (h₁ : Tst c k sc ρ x b₁) (h₂ : b₁ = true → Tst c k sc ρ y b₂) : Tst c k sc ρ (.BoolOp .And [x, y] pos) (b₁ && b₂) :=
  fun env X A s Q E S hA hi he hQ => by
    refine wpAny_isTrue_BoolOp ?_
    show wpAny (MF c) A (do match BoolOp.And, ← isTrue x env (eval x env) with | .And, false => pure false | .Or, true => pure true | _, _ => allTrue .And [y] env) Q E s
    refine wpAny_bind (h₁ env X A s _ E S hA hi he fun s₁ t₁ => ?_)
    cases b₁ with
    | false => exact wpAny_pure (hQ s₁ t₁)
    | true =>
      show wpAny (MF c) A (do match BoolOp.And, ← isTrue y env (eval y env) with | .And, false => pure false | .Or, true => pure true | _, _ => allTrue .And [] env) Q E s₁
      refine wpAny_bind (h₂ rfl env X A s₁ _ E S hA (hi.tr t₁) (he.step hi t₁) fun s₂ t₂ => ?_)
      cases b₂ with
      | true => exact wpAny_pure (hQ s₂ (t₁.seq t₂))
      | false => exact wpAny_pure (hQ s₂ (t₁.seq t₂))
theorem Tst.or3 {x y z : Expr} {pos : Pos} {b₁ b₂ b₃ : Bool} (h₁ : Tst c k sc ρ x b₁) (h₂ : b₁ = false → Tst c k sc ρ y b₂) (h₃ : b₁ = false → b₂ = false → Tst c k sc ρ z b₃) : Tst c k sc ρ (.BoolOp .Or [x, y, z] pos) (b₁ || b₂ || b₃) :=
  fun env X A s Q E S hA hi he hQ => by
    refine wpAny_isTrue_BoolOp ?_
    show wpAny (MF c) A (do match BoolOp.Or, ← isTrue x env (eval x env) with | .And, false => pure false | .Or, true => pure true | _, _ => allTrue .Or [y, z] env) Q E s
    refine wpAny_bind (h₁ env X A s _ E S hA hi he fun s₁ t₁ => ?_)
    cases b₁ with
    | true => exact wpAny_pure (hQ s₁ t₁)
    | false =>
      show wpAny (MF c) A (do match BoolOp.Or, ← isTrue y env (eval y env) with | .And, false => pure false | .Or, true => pure true | _, _ => allTrue .Or [z] env) Q E s₁
      refine wpAny_bind (h₂ rfl env X A s₁ _ E S hA (hi.tr t₁) (he.step hi t₁) fun s₂ t₂ => ?_)
      cases b₂ with
      | true => exact wpAny_pure (hQ s₂ (t₁.seq t₂))
      | false =>
        show wpAny (MF c) A (do match BoolOp.Or, ← isTrue z env (eval z env) with | .And, false => pure false | .Or, true => pure true | _, _ => allTrue .Or [] env) Q E s₂
        refine wpAny_bind (h₃ rfl rfl env X A s₂ _ E S hA ((hi.tr t₁).tr t₂) ((he.step hi t₁).step (hi.tr t₁) t₂) fun s₃ t₃ => ?_)
        cases b₃ with
        | true => exact wpAny_pure (hQ s₃ ((t₁.seq t₂).seq t₃))
        | false => exact wpAny_pure (hQ s₃ ((t₁.seq t₂).seq t₃))

theorem Ev.ite {t b o : Expr} {pos : Pos} {x : Bool} {d : D} (ht : Tst c k sc ρ t x) (hb : x = true → Ev c k sc ρ b d) (ho : x = false → Ev c k sc ρ o d) : Ev c k sc ρ (.IfExp t b o pos) d :=
  fun env X A s Q E S hA hi he hQ => wpAny_IfExp (ht env X A s _ E S hA hi he fun s₁ t₁ => by
    cases x with
    | true => exact hb rfl env X A s₁ Q E S hA (hi.tr t₁) (he.step hi t₁) fun v s' t r => hQ v s' (t₁.seq t) r
    | false => exact ho rfl env X A s₁ Q E S hA (hi.tr t₁) (he.step hi t₁) fun v s' t r => hQ v s' (t₁.seq t) r)

theorem Ev.neg {e : Expr} {pos : Pos} {i : Int} (h : Ev c k sc ρ e (.int i)) : Ev c k sc ρ (.UnaryOp .USub e pos) (.int (-i)) :=
  fun env X A s Q E S hA hi he hQ => wpAny_UnaryOp (h env X A s _ E S hA hi he fun v s₁ t₁ r => by
    cases r with
    | int _ u => exact lift (PyProof.Rows.neg_int (hQ _ _ (t₁.seq (.toks _)) (.int _ _))))

theorem EvL.nil : EvL c k sc ρ [] [] := fun env X A s pos Q E S hA hi he hQ => spliced_nil (hQ [] s (.refl ..) .nil)
theorem EvL.cons {e : Expr} {es : List Expr} {d : D} {ds : List D} (h : Ev c k sc ρ e d) (hs : EvL c k sc ρ es ds) (hst : ∀ env, starEach (e :: es) env = (false, eval e env) :: starEach es env := by intro _; rfl) : EvL c k sc ρ (e :: es) (d :: ds) := by
  intro env X A s pos Q E S hA hi he hQ
  rw [hst]
  show wpAny (MF c) A (spliced ((false, eval e env) :: backTo pos (starEach es env))) Q E s
  refine spliced_cons (h env X A s _ E S hA hi he fun v s₁ t₁ r₁ => hs env X A s₁ pos _ E S hA (hi.tr t₁) (he.step hi t₁) fun vs s₂ t₂ r₂ => hQ _ s₂ (t₁.seq t₂) (.cons (r₁.tr (hi.tr t₁).toIv t₂) r₂))

/-- a new tuple or list -/
theorem rep_push {X : Addr → Prop} {s : Shared} (hi : Ok c X s) {vs : List Value} {ds : List D} (r : RepL c X s.heap vs ds) :
    Rep c X (s.heap.push { cls := .type "tuple", data := .seq vs.toArray }) (.ref s.heap.objs.size) (.tup ds) :=
  .tup ⟨⟨0, Heap.get?_push_size _ rfl⟩, hi.fresh, fun ho => absurd ho hi.new⟩ (r.tr (s' := { s with heap := s.heap.push { cls := .type "tuple", data := .seq vs.toArray } }) hi.toIv (Tr.push (t := s.toks) (W := no) (G := no)))
theorem rep_pushL {X : Addr → Prop} {s : Shared} (hi : Ok c X s) {vs : List Value} {ds : List D} (r : RepL c X s.heap vs ds) :
    Rep c X (s.heap.push { cls := .type "list", data := .seq vs.toArray }) (.ref s.heap.objs.size) (.list ds) :=
  .list ⟨⟨0, Heap.get?_push_size _ rfl⟩, hi.fresh, fun ho => absurd ho hi.new⟩ (r.tr (s' := { s with heap := s.heap.push { cls := .type "list", data := .seq vs.toArray } }) hi.toIv (Tr.push (t := s.toks) (W := no) (G := no)))
end
end Dio

namespace Dio
set_option tactic.hygienic false
open PySem PySem.W PySem.Calls PyProof.Rows
open Sem (wp)
set_option maxRecDepth 100000

/-! I. Names of the top, calls, assignments, plain statements -/
structure Glo (c : Cx) (sc : Scope) (x : Str) (v : Value) : Prop where
  kind : sc.names.lookup x = some .globalImplicit
  val : c.mg x = some v ∨ (c.mg x = none ∧ c.mb x = some v)
  nd : (x == ("__debug__" : Str)) = false

theorem Glo.eval {c : Cx} {sc : Scope} {x : Str} {v : Value} {env : Env} {A : Around} {E : Value → Shared → Prop} {s : Shared} {pos : Pos} {Q : Value → Shared → Prop} (G : Gnd c) (g : Glo c sc x v) (S : EnvS sc env) (hi : Iv c s) (h : Q v s) :
    wpAny (MF c) A (eval (.Name x pos) env) Q E s := by
  refine Name_function_global (by rw [S.scope]; exact S.kind) (by rw [S.kindOf]; exact g.kind) ?_ g.nd
  rcases g.val with e | ⟨e1, e2⟩
  · exact loadGlobal_global (by rw [S.glob]; exact hi.ns G G.g) e h
  · exact loadGlobal_builtin (by rw [S.glob]; exact hi.ns G G.g) e1 (by rw [S.blt]; exact hi.ns G G.b) e2 h

/-- a call of f with data ds gives d -/
noncomputable def CallOk (c : Cx) (k : Nat) (f : Value) (ds : List D) (d : D) : Prop :=
  ∀ (X : Addr → Prop) (A : Around) (s : Shared) (vs : List Value) (Q : Value → Shared → Prop) (E : Value → Shared → Prop), okA k A → Ok c X s → RepL c X s.heap vs ds →
    (∀ v s', Tr c X no no s s' → Rep c X s'.heap v d → Q v s') → wpAny (MF c) A (call f vs []) Q E s

inductive Callee (c : Cx) : Value → Prop where
  | builtin (id : String) : Callee c (.builtin id)
  | type (n : String) : Callee c (.type n)
  | fn {a : Addr} {o : Obj} {fd : FuncData} : c.hb.get? a = some o → o.data = .func fd → Callee c (.ref a)

section
variable {M : Model} {A : Around} {E : Value → Shared → Prop} {s : Shared}
theorem evalArgs_noStar {f : Value} {args : List (Bool × Sem Value)} {Q : Args → Shared → Prop} (hp : args.any (·.1) = false) (h : wpAny M A (spliced args) (fun vs s' => Q ⟨vs, []⟩ s') E s) : wpAny M A (evalArgs f true args []) Q E s := by
  cases args with
  | nil =>
    unfold evalArgs
    show wpAny M A (spliced [] >>= _) Q E s
    refine wpAny_bind (wpAny_mono h (fun vs s' h' => ?_) fun _ _ e => e)
    refine wpAny_bind (wpAny_pure ?_)
    refine wpAny_holding ?_
    exact wpAny_bind (wpAny_pure (wpAny_bind (wpAny_pure (wpAny_pure h'))))
  | cons x rest =>
    obtain ⟨b, x⟩ := x
    cases b with
    | true => simp at hp
    | false => exact Calls.evalArgs_plain h
end

theorem callWith_of {c : Cx} {A : Around} {E : Value → Shared → Prop} {s : Shared} {pos : Pos} {f : Value} {args : List (Bool × Sem Value)} {Q : Value → Shared → Prop} (G : Gnd c) (hc : Callee c f)
    (h : wpAny (MF c) A (evalArgs f true args []) (fun a s₁ => Iv c s₁ ∧ a.kw = [] ∧ wpAny (MF c) A (call f a.pos []) Q E s₁) E s) : wpAny (MF c) A (callWith pos f [] args []) Q E s := by
  have tail : ∀ {t : Sem Value} {s₁ : Shared}, wpAny (MF c) A t Q E s₁ → wpAny (MF c) A (t >>= fun r => holding [r] point >>= fun _ => pure r) Q E s₁ :=
    fun ht => wpAny_bind (wpAny_mono ht (fun r s₂ hr => wpAny_bind (wpAny_holding (wpAny_point (wpAny_pure hr)))) fun _ _ x => x)
  have oper : ∀ {vs : List Value} {t : Sem Value} {s₁ : Shared}, wpAny (MF c) A t Q E s₁ → wpAny (MF c) A (operate vs t) Q E s₁ :=
    fun ht Γ p hΓ => by rw [Sem.wp_operate]; exact ht Γ p hΓ
  cases hc with
  | @fn a o fd ho hd =>
    refine callWith_function (o := o) (fd := fd) (wpAny_mono h (fun x s₁ h₁ => ⟨⟨h₁.1.get G ho (by rw [hd]; intro z; cases z), hd⟩, ?_⟩) fun _ _ e => e)
    rw [h₁.2.1]; exact h₁.2.2
  | builtin id =>
    unfold callWith
    refine wpAny_bind (wpAny_holding (wpAny_mono h (fun a s₁ h₁ => wpAny_bind (wpAny_standAt ?_)) fun _ _ x => x))
    refine wpAny_bind (m := keeperOf (.builtin id)) (wpAny_pure ?_)
    rw [h₁.2.1]
    cases (args.any (·.1) || ([] : List (Option Str × Sem Value)).any (·.1.isNone)) with
    | false => exact tail h₁.2.2
    | true => exact tail (oper h₁.2.2)
  | type n =>
    unfold callWith
    refine wpAny_bind (wpAny_holding (wpAny_mono h (fun a s₁ h₁ => wpAny_bind (wpAny_standAt ?_)) fun _ _ x => x))
    refine wpAny_bind (m := keeperOf (.type n)) (wpAny_pure ?_)
    rw [h₁.2.1]
    cases (args.any (·.1) || ([] : List (Option Str × Sem Value)).any (·.1.isNone)) with
    | false => exact tail h₁.2.2
    | true => exact tail (oper h₁.2.2)

noncomputable def NoStar (es : List Expr) : Prop := ∀ env pos, (backTo pos (starEach es env)).any (·.1) = false

section
variable {c : Cx} {k : Nat} {sc : Scope} {ρ : Rho}

theorem Ev.call {nm : Str} {p pos : Pos} {es : List Expr} {ds : List D} {d : D} {f : Value} (G : Gnd c) (g : Glo c sc nm f) (hc : Callee c f) (ha : EvL c k sc ρ es ds) (h : CallOk c k f ds d) (hst : NoStar es := by intro _ _; rfl) :
    Ev c k sc ρ (.Call (.Name nm p) es [] pos) d := fun env X A s Q E S hA hi he hQ => by
  refine wpAny_Call_NameR (g.eval G S hi.toIv ?_)
  refine callWith_of G hc (evalArgs_noStar (hst env pos) (ha env X A s pos _ E S hA hi he fun vs s₁ t₁ r₁ => ⟨(hi.tr t₁).toIv, rfl, ?_⟩))
  exact h X A s₁ vs Q E hA (hi.tr t₁) r₁ fun v s' t r => hQ v s' (t₁.seq t) r

/-! targets -/
noncomputable def As (c : Cx) (k : Nat) (sc : Scope) (ρ : Rho) (t : Expr) (d : D) (ρ' : Rho) : Prop :=
  ∀ (env : Env) (X : Addr → Prop) (A : Around) (s : Shared) (v : Value) (Q : Unit → Shared → Prop) (E : Value → Shared → Prop), EnvS sc env → okA k A → Ok c X s → EnvAt c X ρ env s.heap → Rep c X s.heap v d →
    (∀ s', Tr c X (own env) no s s' → EnvAt c X ρ' env s'.heap → Q () s') → wpAny (MF c) A (assign t env v) Q E s
noncomputable def AsL (c : Cx) (k : Nat) (sc : Scope) (ρ : Rho) (ts : List Expr) (ds : List D) (ρ' : Rho) : Prop :=
  ∀ (env : Env) (X : Addr → Prop) (A : Around) (s : Shared) (vs : List Value) (Q : Unit → Shared → Prop) (E : Value → Shared → Prop), EnvS sc env → okA k A → Ok c X s → EnvAt c X ρ env s.heap → RepL c X s.heap vs ds →
    (∀ s', Tr c X (own env) no s s' → EnvAt c X ρ' env s'.heap → Q () s') → wpAny (MF c) A (assignInOrder ((assignEach ts env).map (·.2)) vs) Q E s

theorem As.name {x : Str} {pos : Pos} {d : D} (hk : sc.names.lookup x = some .local) : As c k sc ρ (.Name x pos) d (upd ρ x d) :=
  fun env X A s v Q E S hA hi he hr h => wpAny_assign_Name (he.storeL hi.toIv S hk hr fun s' t e => h s' (t _ (.inl rfl)) e)
theorem As.nameC {x : Str} {pos : Pos} {d : D} (hk : sc.names.lookup x = some .cell) : As c k sc ρ (.Name x pos) d (upd ρ x d) :=
  fun env X A s v Q E S hA hi he hr h => wpAny_assign_Name (he.storeC hi.toIv S hk hr fun s' t e => h s' (t _ fun _ h => h) e)
theorem AsL.nil : AsL c k sc ρ [] [] ρ := fun env X A s vs Q E S hA hi he hr h => by
  cases hr; exact wpAny_pure (h s (.refl ..) he)
theorem AsL.cons {t : Expr} {ts : List Expr} {d : D} {ds : List D} {ρ₁ ρ' : Rho} (h₁ : As c k sc ρ t d ρ₁) (h₂ : AsL c k sc ρ₁ ts ds ρ') (hst : ∀ env, assignEach (t :: ts) env = (false, assign t env) :: assignEach ts env := by intro _; rfl) :
    AsL c k sc ρ (t :: ts) (d :: ds) ρ' := fun env X A s vs Q E S hA hi he hr h => by
  cases hr with
  | cons r rs =>
    rw [hst]
    refine wpAny_assignInOrder_more (h₁ env X A s _ _ E S hA hi he r fun s₁ t₁ e₁ => h₂ env X A s₁ _ Q E S hA (hi.tr t₁) e₁ (rs.tr hi.toIv t₁) fun s' t e => h s' (t₁.then t) e)

theorem As.tup {ts : List Expr} {j : Nat} {pos : Pos} {ds : List D} {ρ' : Rho} (h : AsL c k sc ρ ts ds ρ') (hn : ∀ env, (assignEach ts env).length = ds.length := by intro _; rfl) (hst : ∀ env, (assignEach ts env).findIdx? (·.1) = none := by intro _; rfl) :
    As c k sc ρ (.Tuple ts j pos) (.tup ds) ρ' := fun env X A s v Q E S hA hi he hr hQ => by
  cases hr with
  | @tup a vs ds ha hl =>
    obtain ⟨n, e⟩ := ha.at_
    show wpAny (MF c) A (do standAt pos; unpack (.ref a) (assignEach ts env)) Q E s
    refine wpAny_bind (wpAny_standAt ?_)
    unfold unpack
    refine wpAny_bind (wpAny_holding ?_)
    rw [hn env, hst env, ← hl.length]
    have ht : s.heap.IsTuple a vs.toArray := ⟨_, e, rfl, n, rfl⟩
    refine lift (wpAny_unpackItems_tuple hA.1 ht fun h' hk => ?_)
    have t : Tr c X no no s { s with heap := h' } := Tr.grow (t := s.toks) fun b o e => hk b o (Nat.ne_of_lt (Heap.lt_size e)) e
    exact h env X A _ vs Q E S hA (hi.tr t) (he.step hi t) (hl.tr hi.toIv t) fun s' t' e' => hQ s' ((t.mono (fun _ _ h => h.elim) (fun _ h => h)).then t') e'

/-! statements -/
inductive Out where
  | next (ρ : Rho)
  | ret (d : D)
inductive OutAt (c : Cx) (X : Addr → Prop) (env : Env) (s : Shared) : Out → Flow → Prop where
  | next {ρ : Rho} : EnvAt c X ρ env s.heap → OutAt c X env s (.next ρ) .next
  | ret {d : D} {v : Value} : Rep c X s.heap v d → OutAt c X env s (.ret d) (.ret v)

noncomputable def Ex (c : Cx) (k : Nat) (sc : Scope) (ρ : Rho) (ss : List Stmt) (R : Out → Prop) : Prop :=
  ∀ (env : Env) (X : Addr → Prop) (A : Around) (s : Shared) (Q : Flow → Shared → Prop) (E : Value → Shared → Prop), EnvS sc env → okA k A → Ok c X s → EnvAt c X ρ env s.heap →
    (∀ o fl s', Tr c X (own env) no s s' → R o → OutAt c X env s' o fl → Q fl s') → wpAny (MF c) A (execs ss env) Q E s

theorem Tr.ownL {X : Addr → Prop} {env : Env} {s s' : Shared} (t : Tr c X no no s s') : Tr c X (own env) no s s' := t.mono (fun _ _ h => h.elim) fun _ h => h

theorem Ex.nil {R : Out → Prop} (h : R (.next ρ)) : Ex c k sc ρ [] R := fun env X A s Q E S hA hi he hQ => wpAny_execs_nil (hQ _ _ s (.refl ..) h (.next he))

theorem Ex.ret {e : Expr} {pos : Pos} {rest : List Stmt} {d : D} {R : Out → Prop} (h : Ev c k sc ρ e d) (hR : R (.ret d)) : Ex c k sc ρ (.Return (some e) pos :: rest) R :=
  fun env X A s Q E S hA hi he hQ => wpAny_execs_cons (wpAny_Return_some (h env X A s _ E S hA hi he fun v s' t r => hQ _ _ s' t.ownL hR (.ret r)))

theorem Ex.assign {e t : Expr} {pos : Pos} {rest : List Stmt} {d : D} {ρ' : Rho} {R : Out → Prop} (h : Ev c k sc ρ e d) (ht : As c k sc ρ t d ρ') (hr : Ex c k sc ρ' rest R)
    (hs : ∀ env, swapsWithSole [t] e pos.line env = pure false := by intro _; rfl) (hw : ∀ env, swappedStores [t] e env = pure none := by intro _; rfl) (ha : ∀ env, assignEach [t] env = [(false, assign t env)] := by intro _; rfl) : Ex c k sc ρ (.Assign [t] e pos :: rest) R :=
  fun env X A s Q E S hA hi he hQ => wpAny_execs_cons (wpAny_Assign_stores (h env X A s _ E S hA hi he fun v s₁ t₁ r₁ => by
    rw [ha env]
    exact ht env X A s₁ v _ E S hA (hi.tr t₁) (he.step hi t₁) r₁ fun s₂ t₂ e₂ =>
      hr env X A s₂ Q E S hA ((hi.tr t₁).tr t₂) e₂ fun o fl s' t' hR ho => hQ o fl s' ((t₁.ownL.then t₂).then t') hR ho) (hs env) (hw env))

/-- a, b = (x, y): the stores are exchanged -/
theorem Ex.swap {e₁ e₂ : Expr} {a b : Str} {p₁ p₂ pt pv pos : Pos} {j l : Nat} {rest : List Stmt} {d₁ d₂ : D} {R : Out → Prop} (ha : sc.names.lookup a = some .local) (hb : sc.names.lookup b = some .local)
    (h : EvL c k sc ρ [e₁, e₂] [d₁, d₂]) (hr : Ex c k sc (upd (upd ρ b d₂) a d₁) rest R)
    (hs : ∀ env, swapsWithSole [.Tuple [.Name a p₁, .Name b p₂] j pt] (.Tuple [e₁, e₂] l pv) pos.line env = pure false := by intro _; rfl)
    (hw : ∀ env, env.scope = sc → swappedStores [.Tuple [.Name a p₁, .Name b p₂] j pt] (.Tuple [e₁, e₂] l pv) env = pure (some [a, b])) : Ex c k sc ρ (.Assign [.Tuple [.Name a p₁, .Name b p₂] j pt] (.Tuple [e₁, e₂] l pv) pos :: rest) R :=
  fun env X A s Q E S hA hi he hQ => wpAny_execs_cons (by
    rw [exec_Assign_arm]
    refine wpAny_bind (wpAny_standAt (wpAny_bind (wpAny_of_eq (hs env) ?_)))
    simp only [Bool.false_eq_true, if_false]
    refine wpAny_bind (PySem.wpAny_Tuple (h env X A s pv _ E S hA hi he fun vs s₁ t₁ r₁ => ⟨by rw [r₁.length]; show 2 ≤ sizeLine; decide, ?_⟩))
    refine wpAny_bind (wpAny_of_eq (hw env S.scope) ?_)
    have t₂ : Tr c X no no s₁ { s₁ with heap := s₁.heap.push { cls := .type "tuple", data := .seq vs.toArray } } := Tr.push (t := s₁.toks)
    have hi₂ := (hi.tr t₁).tr t₂
    have r₂ := r₁.tr (hi.tr t₁).toIv t₂
    have he₂ := (he.step hi t₁).step (hi.tr t₁) t₂
    show wpAny (MF c) A (do rule "assign.swapped-stores"; let items ← unpackItems (.ref s₁.heap.objs.size) [a, b].length none; assignInOrder ([a, b].reverse.map fun n => bindName env n) items.reverse; pure Flow.next) _ E _
    refine wpAny_bind (wpAny_rule (wpAny_bind ?_))
    have ht : (s₁.heap.push { cls := .type "tuple", data := .seq vs.toArray }).IsTuple s₁.heap.objs.size vs.toArray := ⟨_, Heap.get?_push_size _ rfl, rfl, 0, rfl⟩
    have hlen : vs.toArray.size = 2 := by simpa using r₁.length
    rw [show [a, b].length = vs.toArray.size from hlen.symm]
    refine lift (wpAny_unpackItems_tuple hA.1 ht fun h' hk => ?_)
    have t₃ : Tr c X no no { s₁ with heap := s₁.heap.push { cls := .type "tuple", data := .seq vs.toArray } } { s₁ with heap := h' } := Tr.grow (t := s₁.toks) fun b o e => hk b o (Nat.ne_of_lt (Heap.lt_size e)) e
    have hi₃ := hi₂.tr t₃
    have r₃ := r₂.tr hi₂.toIv t₃
    have he₃ := he₂.step hi₂ t₃
    have tt := ((t₁.seq t₂).seq t₃).ownL (env := env)
    generalize ({ s₁ with heap := h' } : Shared) = s₄ at r₃ hi₃ he₃ tt ⊢
    cases r₃ with
    | cons ra r =>
      cases r with
      | cons rb r =>
        cases r
        show wpAny (MF c) A (assignInOrder [fun v => bindName env b v, fun v => bindName env a v] [_, _] >>= fun _ => pure Flow.next) _ E s₄
        refine wpAny_bind (wpAny_assignInOrder_more (wpAny_bindName (he₃.storeL hi₃.toIv S hb rb fun s₅ t₅ e₅ => ?_)))
        have t₅' := t₅ (own env) (.inl rfl)
        refine wpAny_assignInOrder_more (wpAny_bindName (e₅.storeL (hi₃.tr t₅').toIv S ha (ra.tr hi₃.toIv t₅') fun s₆ t₆ e₆ => ?_))
        have t₆' := t₆ (own env) (.inl rfl)
        refine wpAny_assignInOrder_none (wpAny_pure ?_)
        exact hr env X A s₆ Q E S hA ((hi₃.tr t₅').tr t₆') e₆ fun o fl s' t' hR ho => hQ o fl s' (((tt.then t₅').then t₆').then t') hR ho)

theorem execs_append (a b : List Stmt) (env : Env) : execs (a ++ b) env = (do match ← execs a env with | .next => execs b env | f => pure f) := by
  induction a with
  | nil => rfl
  | cons st a ih =>
    rw [List.cons_append, PySem.execs_cons, PySem.execs_cons, ih, bind_assoc]
    congr 1
    funext f
    cases f <;> rfl

theorem execs_If (t : Expr) (body orelse rest : List Stmt) (pos : Pos) (env : Env) : execs (.If t body orelse pos :: rest) env =
    (do standAt pos; if ← isTrue t env (eval t env) then execs (body ++ rest) env else execs (orelse ++ rest) env) := by
  rw [PySem.execs_cons, PySem.exec_If, bind_assoc, execs_append, execs_append]
  congr 1
  funext _
  rw [bind_assoc]
  congr 1
  funext b
  cases b <;> rfl

theorem Ex.ite {t : Expr} {body orelse rest : List Stmt} {pos : Pos} {x : Bool} {R : Out → Prop} (ht : Tst c k sc ρ t x) (hb : x = true → Ex c k sc ρ (body ++ rest) R) (ho : x = false → Ex c k sc ρ (orelse ++ rest) R) :
    Ex c k sc ρ (.If t body orelse pos :: rest) R := fun env X A s Q E S hA hi he hQ => by
  rw [execs_If]
  refine wpAny_bind (wpAny_standAt (wpAny_bind (ht env X A s _ E S hA hi he fun s₁ t₁ => ?_)))
  cases x with
  | true => exact hb rfl env X A s₁ Q E S hA (hi.tr t₁) (he.step hi t₁) fun o fl s' t' hR ho => hQ o fl s' (t₁.ownL.then t') hR ho
  | false => exact ho rfl env X A s₁ Q E S hA (hi.tr t₁) (he.step hi t₁) fun o fl s' t' hR ho => hQ o fl s' (t₁.ownL.then t') hR ho
end
end Dio

namespace Dio
set_option tactic.hygienic false
open PySem PySem.W PySem.Calls PyProof.Rows
open Sem (wp)
set_option maxRecDepth 100000

/-! J. Calls of the text's own defs -/
noncomputable def bindR : List Str → List D → Rho → Rho
  | n :: ns, d :: ds, ρ => bindR ns ds (upd ρ n d)
  | _, _, ρ => ρ

theorem bind_inv {c : Cx} {X : Addr → Prop} {h : Heap} {env : Env} : ∀ (ns : List Str) (vs : List Value) (ds : List D) (m cm : Str → Option Value) (ρ : Rho),
    (∀ x ∈ ns, env.kindOf x = some .local ∨ (env.kindOf x = some .cell ∧ (env.cells.lookup x).isSome = true)) → RepL c X h vs ds →
    (∀ x d, ρ x = some d → ∃ v, Rep c X h v d ∧ Holds1 env m cm x v) →
    ∀ x d, bindR ns ds ρ x = some d → ∃ v, Rep c X h v d ∧ Holds1 env (bindL env.kindOf (ns.zip vs) m) (bindC env.kindOf (ns.zip vs) cm) x v
  | [], _, _, m, cm, ρ, _, _, hv => hv
  | n :: ns, [], ds, m, cm, ρ, _, hr, hv => by cases hr; exact hv
  | n :: ns, v :: vs, ds, m, cm, ρ, hk, hr, hv => by
    cases hr with
    | @cons _ d _ ds r rs =>
      show ∀ x d', bindR ns ds (upd ρ n d) x = some d' → ∃ u, _ ∧ Holds1 env (bindL env.kindOf (ns.zip vs) _) (bindC env.kindOf (ns.zip vs) _) x u
      refine bind_inv ns vs ds _ _ _ (fun x hx => hk x (List.mem_cons_of_mem _ hx)) rs fun x d' hd => ?_
      rcases hk n List.mem_cons_self with hl | ⟨hl, hc⟩
      · rw [if_pos hl, if_pos hl]
        by_cases hx : x = n
        · subst hx
          have : d = d' := by simpa [upd] using hd
          subst this
          exact ⟨v, r, .inl ⟨hl, by simp⟩⟩
        · obtain ⟨u, hu, h1⟩ := hv x d' (by simpa [upd, hx] using hd)
          exact ⟨u, hu, h1.imp (fun ⟨a, b⟩ => ⟨a, by simpa [hx] using b⟩) id⟩
      · have hnl : ¬ env.kindOf n = some .local := by rw [hl]; decide
        rw [if_neg hnl, if_neg hnl]
        by_cases hx : x = n
        · subst hx
          have : d = d' := by simpa [upd] using hd
          subst this
          exact ⟨v, r, .inr ⟨.inl hl, hc, by simp⟩⟩
        · obtain ⟨u, hu, h1⟩ := hv x d' (by simpa [upd, hx] using hd)
          exact ⟨u, hu, h1.imp id fun ⟨a, b, e⟩ => ⟨a, b, by simpa [hx] using e⟩⟩

/-- the looks at a def's scope -/
structure ScOk (sc : Scope) (ns : List Str) : Prop where
  kind : sc.kind = .function
  co : sc.isCoroutine = false
  free : ∀ x, sc.names.lookup x ≠ some .free
  par : ∀ x ∈ ns, sc.names.lookup x = some .local ∨ sc.names.lookup x = some .cell

theorem noFree_of {names : List (Str × NameKind)} (h : (names.all fun p => p.2 != .free) = true) (x : Str) : names.lookup x ≠ some .free := fun e => by
  have := List.all_eq_true.mp h _ (mem_of_lookup e)
  simp at this

section
variable {c : Cx} {k : Nat}

/-- a new frame -/
theorem frame_ok {X : Addr → Prop} {A : Around} {s : Shared} {E : Value → Shared → Prop} {Q : Env → Shared → Prop} {sc : Scope} {ns : List Str} {vs : List Value} {ds : List D} {qual : Str} {a : Addr} {cd : Value}
    (H : ScOk sc ns) (hi : Ok c X s) (hr : RepL c X s.heap vs ds) (hcd : sc = c.wsc → cd = .ref c.cw)
    (h : ∀ env s', EnvS sc env → EnvAt c X (bindR ns ds fun _ => none) env s'.heap → Tr c X no no s s' → (∀ b, own env b → ¬ Is s.heap b) → env.frame = some env.locals → env.code = cd → env.scope = sc → Q env s') :
    wpAny (MF c) A (newFunctionEnv sc mainGlobals [] (ns.zip vs) qual (some a) cd none builtinsNs) Q E s := by
  have hcell : ∀ x, sc.names.lookup x = some .cell → ((cellsFrom (s.heap.objs.size + 1) sc.names []).lookup x).isSome = true := fun x hx => cellsFrom_some sc.names _ _ (.inl hx)
  refine wpAny_newFunctionEnv_cells H.kind (fun x hx => ?_) fun env henv s' I => ?_
  · have hm : x.1 ∈ ns := by obtain ⟨n, v⟩ := x; exact (List.of_mem_zip hx).1
    exact (H.par x.1 hm).imp id fun e => ⟨e, hcell _ e⟩
  · obtain ⟨h', tk, e, hk⟩ := I.done
    subst e
    have t : Tr c X no no s { s with heap := h', toks := tk } := Tr.grow hk
    have hL : env.locals = s.heap.objs.size := by rw [henv]; rfl
    have hs : env.scope = sc := by rw [henv]; rfl
    have hko : ∀ x, env.kindOf x = sc.names.lookup x := fun x => by unfold Env.kindOf; rw [hs]
    have hcs : env.cells = cellsFrom (s.heap.objs.size + 1) sc.names [] := by rw [henv]; rfl
    have hown : ∀ b, own env b → ¬ Is s.heap b := fun b hb hI => by
      rcases hb with rfl | ⟨x, hx⟩
      · exact Nat.lt_irrefl s.heap.objs.size (hL ▸ hI.lt)
      · exact Nat.lt_irrefl s.heap.objs.size (Nat.lt_trans (hL ▸ I.above x b (mem_of_lookup hx)) hI.lt)
    refine h env _ ⟨hs, H.kind, by rw [henv]; rfl, by rw [henv]; rfl, fun x hx => ?_⟩ ⟨_, _, ⟨I.toInCall.ns, I.cell, I.apart, fun ho => hown _ (.inl rfl) (hi.is_old ho), fun x b hb ho => Nat.lt_irrefl s.heap.objs.size (Nat.lt_trans (hL ▸ I.above x b hb) (hi.is_old ho).lt), fun hw => by rw [show env.code = cd from by rw [henv]; rfl]; exact hcd (hs ▸ hw)⟩, ?_⟩ t hown (by rw [henv]; rfl) (by rw [henv]; rfl) hs
    · rw [hcs]
      exact hx.elim (hcell x) fun hf => absurd hf (H.free x)
    · refine bind_inv ns vs ds _ _ _ (fun x hx => ?_) (hr.tr hi.toIv t) fun x d hd => (nomatch hd)
      rw [hko, hcs]
      exact (H.par x hx).imp id fun e => ⟨e, hcell _ e⟩

theorem codeF_func {A : Around} {R : Result → Shared → Prop} {s : Shared} {body : List Stmt} {env : Env}
    (h : wpAny (MF c) (A.deeper env) (execs body env) (fun f s' => R (.ok (.ret (match f with | .ret v => v | _ => .none))) s')
      (fun e s' => wpAny (MF c) (A.deeper env) (leaving env e) (fun _ s'' => R (.error e) s'') (fun e' s'' => R (.error e') s'') s') s) :
    codeAny (MF c) A (.func body env) R s := by
  refine codeAny_of_tree ?_
  show wpAny _ (A.deeper env) (do point; match ← (execs body env).onRaise (leaving env) with | .ret v => ret v | _ => ret .none) _ _ s
  refine wpAny_bind (wpAny_point (wpAny_bind (wpAny_onRaise (wpAny_mono h (fun f s' h' => ?_) fun _ _ h' => h'))))
  cases f <;> exact wpAny_pure h'

/-- a def that gives back a datum -/
theorem call_own {d : DefRec} {ns : List Str} {ds : List D} {dr : D} (G : Gnd c) (hd : d ∈ recsOf q) (H : ScOk d.scope ns) (hgen : d.scope.isGenerator = false)
    (hbind : ∀ (pm code doc : Value) (vs : List Value), vs.length = ds.length → bindArgs (docDef d.name d.params d.body d.scope pm code doc) ⟨vs, []⟩ = pure (ns.zip vs))
    (hex : Ex c k d.scope (bindR ns ds fun _ => none) d.body (fun o => o = .ret dr)) : ∃ a, c.mg d.name = some (.ref a) ∧ Callee c (.ref a) ∧ CallOk c (k + 1) (.ref a) ds dr := by
  obtain ⟨a, o, pm, code, doc, h1, h2, h3, h4⟩ := G.fn d hd
  refine ⟨a, h1, .fn h2 h3, fun X A s vs Q E hA hi hr hQ => wpAny_call (codeAny_of_tree ?_)⟩
  have ho := hi.toIv.get G h2 (by rw [h3]; intro z; cases z)
  show wpAny _ A.in1 (callAny (.ref a) ⟨vs, []⟩) _ _ s
  simp only [callAny]
  refine wpAny_bind (wpAny_load ho ?_)
  obtain ⟨cc, oc, fs, tq, hc, hoc, hdc, hq⟩ := hi.toIv.code G h4
  have hco : (docDef d.name d.params d.body d.scope pm code doc).scope.isCoroutine = false := H.co
  have hgn : (docDef d.name d.params d.body d.scope pm code doc).scope.isGenerator = false := hgen
  have hcode : (docDef d.name d.params d.body d.scope pm code doc).code = .ref cc := hc
  simp only [h3, callFunction, hco, hgn, hcode]
  refine wpAny_bind (m := field (.ref cc) 1) (wpAny_field hoc hdc hq (wpAny_bind (wpAny_pure ?_)))
  refine wpAny_bind (wpAny_of_eq (hbind pm code doc vs hr.length) ?_)
  refine wpAny_bind (frame_ok H hi hr (fun hw => hcode ▸ G.wfn d hd hw a o _ h1 h2 h3) fun env s₁ S he t₁ hown _ _ _ => ?_)
  have hi₁ := hi.tr t₁
  refine wpAny_bind (wpAny_enterFrame (hi₁.toIv.nolimit G) hA.depth (wpAny_pure (And.intro rfl (codeF_func ?_))))
  refine hex env X (A.deeper env) s₁ _ _ S hA.deeper hi₁ he fun o fl s₂ t₂ hR ho => ?_
  subst hR
  cases ho with
  | ret r => exact hQ _ s₂ (t₁.trans t₂ (fun x hx hw => hown x hw hx) (fun _ _ h => h) (fun _ _ h => h.elim id id)) r
end
end Dio

namespace Dio
set_option tactic.hygienic false
open PySem PySem.W PySem.Calls PyProof.Rows
open Sem (wp)
set_option maxRecDepth 100000

/-! K. while -/
noncomputable def Sub (ρ' ρ : Rho) : Prop := ∀ x d, ρ' x = some d → ρ x = some d
theorem Sub.refl (ρ : Rho) : Sub ρ ρ := fun _ _ h => h
theorem Sub.empty (ρ : Rho) : Sub (fun _ => none) ρ := fun _ _ h => nomatch h
set_option tactic.hygienic true in
theorem Sub.upd {ρ' ρ : Rho} {x : Str} {d : D} (h : ρ x = some d) (hs : Sub ρ' ρ) : Sub (upd ρ' x d) ρ := fun y e he => by
  unfold Dio.upd at he
  split at he
  · rename_i hy; subst hy; cases he; exact h
  · exact hs y e he
theorem Sub.trans {a b c : Rho} (h : Sub a b) (h' : Sub b c) : Sub a c := fun x d e => h' x d (h x d e)

section
variable {c : Cx} {k : Nat} {sc : Scope} {ρ : Rho}
theorem Ex.weaken {ρ' : Rho} {ss : List Stmt} {R : Out → Prop} (h : Ex c k sc ρ' ss R) (hs : Sub ρ' ρ) : Ex c k sc ρ ss R :=
  fun env X A s Q E S hA hi he hQ => h env X A s Q E S hA hi (he.weaken hs) hQ
theorem Ex.mono {ss : List Stmt} {R R' : Out → Prop} (h : Ex c k sc ρ ss R) (hR : ∀ o, R o → R' o) : Ex c k sc ρ ss R' :=
  fun env X A s Q E S hA hi he hQ => h env X A s Q E S hA hi he fun o fl s' t r ho => hQ o fl s' t (hR o r) ho

theorem codeF_while {A : Around} {test : Expr} {body orelse : List Stmt} {env : Env} {R : Result → Shared → Prop} (I : Nat → Shared → Prop)
    (turn : ∀ n s, I n s → wpAny (MF c) A (isTrue test env (eval test env)) (fun b s₂ =>
        if b then wpAny (MF c) A (execs body env) (fun f s₃ => match f with
            | .next | .cont => ∃ m, m < n ∧ I m s₃
            | .brk => R (.ok .next) s₃
            | .ret v => R (.ok (.ret v)) s₃) (notedBy (MF c) A env fun e s' => R (.error e) s') s₂
        else wpAny (MF c) A (execs orelse env) (fun f s₃ => R (.ok f) s₃) (notedBy (MF c) A env fun e s' => R (.error e) s') s₂)
        (notedBy (MF c) A env fun e s' => R (.error e) s') s)
    {s : Shared} (n : Nat) (h : I n s) : codeAny (MF c) A (.whileLoop test body orelse env) R s := by
  refine PySem.codeAny_loop rfl I (fun n s hI => ?_) n h
  show wpAny _ A ((whileTurn test body orelse env).onRaise (fun x => do noteFrame x env; theTreesLotGoes x)) _ _ s
  refine wpAny_noted ?_
  simp only [whileTurn]
  refine wpAny_bind (wpAny_mono (turn n s hI) (fun b s₂ h₂ => ?_) fun _ _ h' => h')
  cases b with
  | false =>
    simp only [Bool.false_eq_true, if_false] at h₂ ⊢
    exact wpAny_bind (wpAny_mono h₂ (fun f s₃ h₃ => wpAny_pure h₃) fun _ _ h' => h')
  | true =>
    simp only [if_true] at h₂ ⊢
    refine wpAny_bind (wpAny_mono h₂ (fun f s₃ h₃ => ?_) fun _ _ h' => h')
    cases f with
    | next => exact wpAny_pure ⟨rfl, h₃⟩
    | cont => exact wpAny_pure ⟨rfl, h₃⟩
    | brk => exact wpAny_pure h₃
    | ret v => exact wpAny_pure h₃

theorem Ex.while {σ : Type} {test : Expr} {body rest : List Stmt} {pos : Pos} {R : Out → Prop} (f : σ → Rho) (I : σ → Prop) (m : σ → Nat) (b : σ → Bool)
    (ht : ∀ x, I x → Tst c k sc (f x) test (b x))
    (hb : ∀ x, I x → b x = true → Ex c k sc (f x) body fun o => ∃ y ρ', o = .next ρ' ∧ Sub (f y) ρ' ∧ I y ∧ m y < m x)
    (he : ∀ x, I x → b x = false → Ex c k sc (f x) rest R) (x₀ : σ) (h₀ : I x₀) (hs : Sub (f x₀) ρ) : Ex c k sc ρ (.While test body [] pos :: rest) R :=
  fun env X A s Q E S hA hi hen hQ => wpAny_execs_cons (wpAny_While (codeF_while (fun n s' => ∃ x, I x ∧ m x = n ∧ EnvAt c X (f x) env s'.heap ∧ Tr c X (own env) no s s') (fun n s' ⟨x, hx, hm, e, t⟩ => by
    have hi' := hi.tr t
    refine ht x hx env X A s' _ _ S hA hi' e fun s₂ t₂ => ?_
    have t' := t.then t₂.ownL
    cases hbx : b x with
    | true =>
      simp only [if_true]
      refine hb x hx hbx env X A s₂ _ _ S hA (hi'.tr t₂) (e.step hi' t₂) fun o fl s₃ t₃ hR ho => ?_
      obtain ⟨y, ρ', rfl, h1, h2, h3⟩ := hR
      cases ho with
      | next e₃ => exact ⟨m y, hm ▸ h3, y, h2, rfl, e₃.weaken h1, t'.then t₃⟩
    | false =>
      simp only [Bool.false_eq_true, if_false]
      refine wpAny_execs_nil ?_
      exact he x hx hbx env X A s₂ Q E S hA (hi'.tr t₂) (e.step hi' t₂) fun o fl s₃ t₃ hR ho => hQ o fl s₃ (t'.then t₃) hR ho) (m x₀) ⟨x₀, h₀, rfl, hen.weaken hs, .refl ..⟩))
end

/-! the text's defs -/
theorem len_cut {α : Type} {l : List α} {n : Nat} (h : l.length = n + 1) : ∃ a r, l = a :: r ∧ r.length = n := by
  cases l with
  | nil => cases h
  | cons a r => exact ⟨a, r, rfl, Nat.succ.inj h⟩
theorem len1 {α : Type} {l : List α} (h : l.length = 1) : ∃ a, l = [a] := by
  obtain ⟨a, r, rfl, hr⟩ := len_cut h
  exact ⟨a, by rw [List.length_eq_zero_iff.mp hr]⟩
theorem len2 {α : Type} {l : List α} (h : l.length = 2) : ∃ a b, l = [a, b] := by
  obtain ⟨a, r, rfl, hr⟩ := len_cut h
  obtain ⟨b, rfl⟩ := len1 hr
  exact ⟨a, b, rfl⟩
theorem len3 {α : Type} {l : List α} (h : l.length = 3) : ∃ a b c, l = [a, b, c] := by
  obtain ⟨a, r, rfl, hr⟩ := len_cut h
  obtain ⟨b, c, rfl⟩ := len2 hr
  exact ⟨a, b, c, rfl⟩
theorem len4 {α : Type} {l : List α} (h : l.length = 4) : ∃ a b c d, l = [a, b, c, d] := by
  obtain ⟨a, r, rfl, hr⟩ := len_cut h
  obtain ⟨b, c, d, rfl⟩ := len3 hr
  exact ⟨a, b, c, d, rfl⟩
theorem len5 {α : Type} {l : List α} (h : l.length = 5) : ∃ a b c d e, l = [a, b, c, d, e] := by
  obtain ⟨a, r, rfl, hr⟩ := len_cut h
  obtain ⟨b, c, d, e, rfl⟩ := len4 hr
  exact ⟨a, b, c, d, e, rfl⟩

theorem recs_some (n : Nat) (h : n < (recsOf q).length) : (recsOf q)[n] ∈ recsOf q := List.getElem_mem h
theorem recs_len : (recsOf q).length = 11 := by kernel_rfl
noncomputable def dd (n : Nat) (h : n < 11) : DefRec := (recsOf q)[n]'(by rw [recs_len]; exact h)
theorem dd_mem (n : Nat) (h : n < 11) : dd n h ∈ recsOf q := List.getElem_mem _
noncomputable def dGcd : DefRec := dd 0 (by decide)
theorem dGcd_name : dGcd.name = "_gcd" := by kernel_rfl
theorem dGcd_sc : ScOk dGcd.scope ["a", "b"] := ⟨by kernel_rfl, by kernel_rfl, noFree_of (by kernel_rfl), fun x hx => by
  rcases List.mem_cons.mp hx with rfl | hx
  · exact .inl (by kernel_rfl)
  · rcases List.mem_cons.mp hx with rfl | hx
    · exact .inl (by kernel_rfl)
    · cases hx⟩
theorem dGcd_gen : dGcd.scope.isGenerator = false := by kernel_rfl
theorem dGcd_bind (pm code doc : Value) (vs : List Value) (h : vs.length = 2) : bindArgs (docDef dGcd.name dGcd.params dGcd.body dGcd.scope pm code doc) ⟨vs, []⟩ = pure ((["a", "b"] : List Str).zip vs) := by
  obtain ⟨u, v, rfl⟩ := len2 h
  kernel_rfl
end Dio

namespace Dio
set_option tactic.hygienic false
open PySem PySem.W PySem.Calls PyProof.Rows
open Sem (wp)
set_option maxRecDepth 100000

/-! M. Generator bodies: a walk in segments -/
noncomputable abbrev Ak (k : Nat) : Around := ⟨none, 900 - k, none, none, 9000 - 8 * k⟩

theorem okA.inAk {k : Nat} {A : Around} (h : okA k A) {Γ : Ctx} (hΓ : Γ.In A) : Γ.In (Ak k) := by
  refine ⟨by rw [hΓ.1, h.1], ?_, ?_, ?_, ?_⟩
  · have h1 := hΓ.2.1; have h2 := h.2.1
    show _ ≤ 900 - k
    omega
  · intro l hl; cases hl
  · intro g hg; cases hg
  · have h1 := hΓ.2.2.2.2; have h2 := h.2.2
    show _ ≤ 9000 - 8 * k
    omega
theorem okA.to {M : Model} {α : Type} {k : Nat} {A : Around} (h : okA k A) {t : Sem α} {Q : α → Shared → Prop} {E : Value → Shared → Prop} {s : Shared} (hw : wpAny M (Ak k) t Q E s) : wpAny M A t Q E s :=
  fun Γ p hΓ => hw Γ p (h.inAk hΓ)
theorem okA.Ak {k : Nat} (h : k ≤ 900) : okA k (Ak k) := ⟨rfl, by show 900 - k + k ≤ 900; omega, by show 9000 - 8 * k + 8 * k ≤ 9000; omega⟩
theorem okA.Ak' {k j : Nat} (h : k ≤ 900) (hj : j ≤ k) : okA j (Dio.Ak k) := (okA.Ak h).less hj

noncomputable abbrev Own (O : Addr → Prop) (s₀ : Shared) : Addr → Prop := fun b => O b ∨ ¬ Is s₀.heap b
noncomputable abbrev OwnG (OG : Nat → Prop) (s₀ : Shared) : Nat → Prop := fun i => OG i ∨ s₀.gens.size ≤ i
noncomputable def Ext (X : Addr → Prop) (s : Shared) (X' : Addr → Prop) : Prop := (∀ b, X b → X' b) ∧ (∀ b, X' b → X b ∨ ¬ Is s.heap b)
theorem Ext.refl (X : Addr → Prop) (s : Shared) : Ext X s X := ⟨fun _ h => h, fun _ h => .inl h⟩
theorem Ext.trans {X X' X'' : Addr → Prop} {s s' : Shared} (a : Ext X s X') (b : Ext X' s' X'') (h : ∀ x, Is s.heap x → Is s'.heap x) : Ext X s X'' :=
  ⟨fun x hx => b.1 x (a.1 x hx), fun x hx => (b.2 x hx).elim (fun h => a.2 x h) fun hn => .inr fun hi => hn (h x hi)⟩
theorem Ext.later {X X' : Addr → Prop} {s s' : Shared} (a : Ext X s' X') (h : ∀ x, Is s.heap x → Is s'.heap x) : Ext X s X' := (Ext.refl X s).trans a h
theorem Tr.ext {c : Cx} {X X' W : Addr → Prop} {G : Nat → Prop} {s s₁ : Shared} (a : Tr c X W G s s₁) {s₂ : Shared} (h : Ext X s₂ X') : Tr c X' W G s s₁ := a.monoX fun b _ hb => h.1 b hb

/-- the error that the text raises -/
noncomputable def IsVE (s : Shared) (e : Value) : Prop := ∃ a o, e = .ref a ∧ s.heap.get? a = some o ∧ o.cls = .type "ValueError" ∧ ¬ Frozen o

/-- no owned generator but those of BG sleeps -/
noncomputable def Still (s : Shared) (OG BG : Nat → Prop) : Prop := ∀ (i : Nat) (x : GenState), s.gens[i]? = some x → OG i → ¬ BG i → x.isSuspended = false

noncomputable def LastZ (c : Cx) (boom : Bool) (X O : Addr → Prop) (OG : Nat → Prop) (s₀ : Shared) (e : End) (s' : Shared) : Prop :=
  Tr c X O (OwnG OG s₀) s₀ s' ∧ Still s' (OwnG OG s₀) no ∧ (if boom then ∃ x, e = .ret (.error x) ∧ IsVE s' x ∧ (∀ a, x = .ref a → ¬ Is s₀.heap a) else e = .ret (.ok (.ret .none)))

noncomputable def SegZ (c : Cx) (k : Nat) (boom : Bool) : List D → (Addr → Prop) → (Addr → Prop) → (Nat → Prop) → Shared → Code → Sem Fin → List Frame → Shared → Prop
  | [], X, O, OG, s₀, cd, t, fs, s => ∀ Γ p, Γ.code = cd → Γ.Woken (Ak k) → ∃ e s', Runs (MF c) Γ p t fs s e s' ∧ LastZ c boom X O OG s₀ e s'
  | d :: ds, X, O, OG, s₀, cd, t, fs, s => ∀ Γ p, Γ.code = cd → Γ.Woken (Ak k) → ∃ e s', Runs (MF c) Γ p t fs s e s' ∧
      ∃ v l kk cd' p' fs', e = .susp v false l kk cd' p' fs' ∧ fs'.any Frame.guarded = false ∧ Tr c X O (OwnG OG s₀) s₀ s' ∧ Rep c X s'.heap v d ∧
        ∀ X' s'', Ext X s' X' → Ok c X' s'' → Tr c X' (fun b => ¬ (Own O s₀ b ∧ Is s'.heap b)) (fun i => ¬ (OwnG OG s₀ i ∧ i < s'.gens.size)) s' s'' →
          SegZ c k boom ds X' (fun b => Own O s₀ b ∧ Is s'.heap b) (fun i => OwnG OG s₀ i ∧ i < s'.gens.size) s'' cd' (kk (.send .none)) fs' s''

noncomputable def EndZ (c : Cx) (k : Nat) (boom : Bool) (ds : List D) (X O : Addr → Prop) (OG : Nat → Prop) (s₀ : Shared) (e : End) (s' : Shared) : Prop :=
  match ds with
  | [] => LastZ c boom X O OG s₀ e s'
  | d :: ds => ∃ v l kk cd' p' fs', e = .susp v false l kk cd' p' fs' ∧ fs'.any Frame.guarded = false ∧ Tr c X O (OwnG OG s₀) s₀ s' ∧ Rep c X s'.heap v d ∧
        ∀ X' s'', Ext X s' X' → Ok c X' s'' → Tr c X' (fun b => ¬ (Own O s₀ b ∧ Is s'.heap b)) (fun i => ¬ (OwnG OG s₀ i ∧ i < s'.gens.size)) s' s'' →
          SegZ c k boom ds X' (fun b => Own O s₀ b ∧ Is s'.heap b) (fun i => OwnG OG s₀ i ∧ i < s'.gens.size) s'' cd' (kk (.send .none)) fs' s''

section
variable {c : Cx} {k : Nat} {boom : Bool} {ds : List D} {X O : Addr → Prop} {OG : Nat → Prop} {s₀ s : Shared} {cd : Code} {fs : List Frame}
theorem segz_iff {t : Sem Fin} : SegZ c k boom ds X O OG s₀ cd t fs s ↔ ∀ Γ p, Γ.code = cd → Γ.Woken (Ak k) → ∃ e s', Runs (MF c) Γ p t fs s e s' ∧ EndZ c k boom ds X O OG s₀ e s' := by
  cases ds <;> exact Iff.rfl

theorem segz_wrap {α : Type} {m : Sem α} {K : α → Sem Fin} {H : Value → Sem Fin} {gd lv}
    (h : wpAny (MF c) ((Ak k).over cd fs) m (fun a s' => SegZ c k boom ds X O OG s₀ cd (K a) fs s') (fun x s' => SegZ c k boom ds X O OG s₀ cd (H x) fs s') s) :
    SegZ c k boom ds X O OG s₀ cd (m.wrap K H gd lv) fs s := by
  rw [segz_iff]
  rintro Γ p rfl hΓ
  exact runs_wrap_of_wp K H gd lv m (h (Γ.over fs) p (hΓ.over fs)) (fun a p' s' h' => segz_iff.mp h' Γ p' rfl hΓ)
    (fun x p' s' h' => segz_iff.mp h' Γ p' rfl hΓ)
theorem segz_bind {α : Type} {m : Sem α} {K : α → Sem Fin}
    (h : wpAny (MF c) ((Ak k).over cd fs) m (fun a s' => SegZ c k boom ds X O OG s₀ cd (K a) fs s') (fun x s' => SegZ c k boom ds X O OG s₀ cd (.raise x) fs s') s) :
    SegZ c k boom ds X O OG s₀ cd (m >>= K) fs s := by
  rw [Sem.bind_eq_wrap']; exact segz_wrap h
theorem segz_at {p' : Pos} {k' : Unit → Sem Fin} (h : SegZ c k boom ds X O OG s₀ cd (k' ()) fs s) : SegZ c k boom ds X O OG s₀ cd (.at p' k') fs s :=
  segz_wrap (m := standAt p') (K := k') (H := .raise) (gd := id) (lv := id) (wpAny_standAt h)
theorem segz_point {l : List Value} {k' : Unit → Sem Fin} (h : SegZ c k boom ds X O OG s₀ cd (k' ()) fs s) : SegZ c k boom ds X O OG s₀ cd (.point l k') fs s :=
  segz_wrap (m := point) (K := k') (H := .raise) (gd := id) (lv := fun _ => l) (wpAny_point h)
theorem segz_call {c' : Code} {h g l} {k' : Result → Sem Fin} (hc : ∀ p, SegZ c k boom ds X O OG s₀ c' (denF c') (.ret k' h g l cd p [] :: fs) s) :
    SegZ c k boom ds X O OG s₀ cd (.call c' h g l k') fs s := by
  rw [segz_iff]
  rintro Γ p rfl hΓ
  obtain ⟨e, s', hr, he⟩ := segz_iff.mp (hc p) (Γ.goto c') p rfl (hΓ.goto c')
  exact ⟨e, s', runs_call_seg hr, he⟩
theorem segz_leaf {k' h g l c₁ p₁ kp} (r : Result) (hk : SegZ c k boom ds X O OG s₀ c₁ (k' r) fs s) : SegZ c k boom ds X O OG s₀ cd (leafOf r) (.ret k' h g l c₁ p₁ kp :: fs) s := by
  rw [segz_iff]
  rintro Γ p rfl hΓ
  obtain ⟨e, s', hr, he⟩ := segz_iff.mp hk (Γ.goto c₁) p₁ rfl (hΓ.goto c₁)
  exact ⟨e, s', Runs.pop r hr, he⟩
theorem segz_again {c' : Code} (hq : c'.quiet = true) (hc : SegZ c k boom ds X O OG s₀ c' (denF c') fs s) : SegZ c k boom ds X O OG s₀ cd (.pure (.again c')) fs s := by
  rw [segz_iff]
  rintro Γ p rfl hΓ
  obtain ⟨e, s', hr, he⟩ := segz_iff.mp hc (Γ.goto c') p rfl (hΓ.goto c')
  exact ⟨e, s', Runs.head (c₁ := c') (fun _ _ x => .again hq x) hr, he⟩
theorem segz_end (ht : Tr c X O (OwnG OG s₀) s₀ s) (hs : Still s (OwnG OG s₀) no) : SegZ c k false [] X O OG s₀ cd (leafOf (.ok (.ret .none))) [] s := by
  rw [segz_iff]
  rintro Γ p rfl _
  exact ⟨_, s, Runs.leaf _, ht, hs, rfl⟩
theorem segz_boom {x : Value} (ht : Tr c X O (OwnG OG s₀) s₀ s) (hs : Still s (OwnG OG s₀) no) (hx : IsVE s x) (hn : ∀ a, x = .ref a → ¬ Is s₀.heap a) : SegZ c k true [] X O OG s₀ cd (leafOf (.error x)) [] s := by
  rw [segz_iff]
  rintro Γ p rfl _
  exact ⟨_, s, Runs.leaf _, ht, hs, x, rfl, hx, hn⟩
theorem segz_yield {v g l} {d : D} {k' : Resume → Sem Fin} (hfs : splitAtGen fs = none) (hg : g = false) (hfg : fs.any Frame.guarded = false)
    (ht : Tr c X O (OwnG OG s₀) s₀ s) (hr : Rep c X s.heap v d)
    (h : ∀ X' s'', Ext X s X' → Ok c X' s'' → Tr c X' (fun b => ¬ (Own O s₀ b ∧ Is s.heap b)) (fun i => ¬ (OwnG OG s₀ i ∧ i < s.gens.size)) s s'' →
          SegZ c k boom ds X' (fun b => Own O s₀ b ∧ Is s.heap b) (fun i => OwnG OG s₀ i ∧ i < s.gens.size) s'' cd (k' (.send .none)) fs s'') : SegZ c k boom (d :: ds) X O OG s₀ cd (.yield v g l k') fs s := by
  rintro Γ p rfl _
  subst hg
  exact ⟨_, s, Runs.yield' fs hfs, v, l, k', Γ.code, p, fs, rfl, hfg, ht, hr, h⟩
end

/-! frames that a generator sleeps under -/
structure FsOk (k kk : Nat) (cd : Code) (fs : List Frame) : Prop where
  split : splitAtGen fs = none
  guards : fs.any Frame.guarded = false
  ok : okA k ((Ak kk).over cd fs)
theorem FsOk.push {k kk : Nat} {cd c' : Code} {fs : List Frame} (h : FsOk k kk cd fs) {K : Result → Sem Fin} {l : List Value} {p : Pos} {kp : List Value} (hw : c'.weight = 0) (hu : c'.cUnits = 0) : FsOk k kk c' (.ret K none false l cd p kp :: fs) := by
  refine ⟨?_, ?_, h.ok.1, ?_, ?_⟩
  · show (splitAtGen fs).map _ = none
    rw [h.split]; rfl
  · show (false || fs.any Frame.guarded) = false
    rw [h.guards]; rfl
  · have := h.ok.2.1
    simp only [Around.over, List.map_cons, Frame.where_, frameCount_cons] at this ⊢
    omega
  · have := h.ok.2.2
    simp only [Around.over, List.map_cons, Frame.where_, unitsOf_cons] at this ⊢
    omega
theorem FsOk.less {k k' kk : Nat} {cd : Code} {fs : List Frame} (h : FsOk k kk cd fs) (hk : k' ≤ k) : FsOk k' kk cd fs := ⟨h.split, h.guards, h.ok.less hk⟩
theorem FsOk.base {kk : Nat} {body : List Stmt} {env : Env} (h : kk + 1 ≤ 900) : FsOk kk (kk + 1) (.func body env) [] := by
  refine ⟨rfl, rfl, rfl, ?_, ?_⟩
  · show 900 - (kk + 1) + 0 + 1 + kk ≤ 900; omega
  · show 9000 - 8 * (kk + 1) + 0 + 3 + 8 * kk ≤ 9000; omega

/-- a moment in a segment -/
structure Now (c : Cx) (X O : Addr → Prop) (OG : Nat → Prop) (B : Addr → Prop) (BG : Nat → Prop) (s₀ s : Shared) : Prop where
  ok : Ok c X s
  tr : Tr c X O (OwnG OG s₀) s₀ s
  still : Still s (OwnG OG s₀) BG
  b : ∀ b, B b → Own O s₀ b ∧ Is s.heap b
  bg : ∀ i, BG i → OwnG OG s₀ i ∧ i < s.gens.size

/-- where a statement of a generator's body leaves off -/
structure Aft (c : Cx) (X : Addr → Prop) (B : Addr → Prop) (BG : Nat → Prop) (s : Shared) (env : Env) (X' O' : Addr → Prop) (OG' : Nat → Prop) (s₀' s' : Shared) : Prop where
  now : Now c X' O' OG' B BG s₀' s'
  ext : Ext X s X'
  tr : Tr c X' (fun b => ¬ B b) (fun i => ¬ BG i) s s'
  mine : ∀ b, Dio.own env b → Own O' s₀' b

end Dio

namespace Dio
set_option tactic.hygienic false
open PySem PySem.W PySem.Calls PyProof.Rows
open Sem (wp)
set_option maxRecDepth 100000

/-! N. Iterators, and the statements of generator bodies -/
noncomputable def LetOk (it u : Value) (s : Shared) : Prop := ∀ (M : Model) (A : Around) (t : Expr) (Q : Unit → Shared → Prop) (E : Value → Shared → Prop), Q () s → wpAny M A (letOwnedTupleGo t it u) Q E s

noncomputable def It (c : Cx) (k : Nat) (it : Value) : List D → (Addr → Prop) → (Addr → Prop) → (Nat → Prop) → Shared → Prop
  | [], X, O, OG, s₁ => ∀ X' A s (Q : Option Value → Shared → Prop) (E : Value → Shared → Prop), Ext X s₁ X' → okA k A → Ok c X' s → Tr c X' (fun b => ¬ O b) (fun i => ¬ OG i) s₁ s →
      (∀ s', Tr c X' O (OwnG OG s) s s' → Still s' (OwnG OG s) no → Q none s') → wpAny (MF c) A (pyNext it) Q E s
  | d :: ds, X, O, OG, s₁ => ∀ X' A s (Q : Option Value → Shared → Prop) (E : Value → Shared → Prop), Ext X s₁ X' → okA k A → Ok c X' s → Tr c X' (fun b => ¬ O b) (fun i => ¬ OG i) s₁ s →
      (∀ u s' O' OG', Tr c X' O (OwnG OG s) s s' → Rep c X' s'.heap u d → LetOk it u s' → (∀ b, O' b → (O b ∨ ¬ Is s.heap b) ∧ Is s'.heap b) → (∀ i, OG' i → OwnG OG s i ∧ i < s'.gens.size) → Still s' (OwnG OG s) OG' →
        It c k it ds X' O' OG' s' → Q (some u) s') → wpAny (MF c) A (pyNext it) Q E s

/-- an iterator is its own iterator -/
noncomputable def Sf (c : Cx) (it : Value) (X O : Addr → Prop) (OG : Nat → Prop) (s₁ : Shared) : Prop := ∀ X' A s (Q : Value → Shared → Prop) (E : Value → Shared → Prop), Ext X s₁ X' → Ok c X' s → Tr c X' (fun b => ¬ O b) (fun i => ¬ OG i) s₁ s → Q it s → wpAny (MF c) A (pyIter it) Q E s

/-- what gives an iterator, all of it new -/
noncomputable def EvI (c : Cx) (k : Nat) (sc : Scope) (ρ : Rho) (e : Expr) (ds : List D) : Prop :=
  ∀ (env : Env) (X : Addr → Prop) (A : Around) (s : Shared) (Q : Value → Shared → Prop) (E : Value → Shared → Prop), EnvS sc env → okA k A → Ok c X s → EnvAt c X ρ env s.heap →
    (∀ it s' O OG, Tr c X no no s s' → (∀ b, O b → ¬ Is s.heap b ∧ Is s'.heap b) → (∀ i, OG i → s.gens.size ≤ i ∧ i < s'.gens.size) → It c k it ds X O OG s' → Sf c it X O OG s' → Q it s') →
    wpAny (MF c) A (eval e env) (fun x s₁ => wpAny (MF c) A (pyIter x) Q E s₁) E s

section
variable {c : Cx} {k : Nat} {sc : Scope} {ρ : Rho} {X O : Addr → Prop} {OG : Nat → Prop} {B : Addr → Prop} {BG : Nat → Prop} {s₀ s : Shared} {env : Env}

theorem Still.step {s s' : Shared} {OG BG : Nat → Prop} {X W : Addr → Prop} (h : Still s OG BG) (t : Tr c X W no s s') : Still s' OG BG := fun i x e ho hb => by
  by_cases hi : i < s.gens.size
  · have e1 : s.gens[i]? = some s.gens[i] := Array.getElem?_eq_getElem hi
    have e2 := t.gkeep i _ e1 fun h => h
    rw [e] at e2; cases e2
    exact h i _ e1 ho hb
  · exact t.gnew i x e (Nat.le_of_not_lt hi) fun h => h

theorem Now.step {s₁ : Shared} (n : Now c X O OG B BG s₀ s) (hown : ∀ b, own env b → Own O s₀ b ∧ Is s.heap b ∧ ¬ B b) (t : Tr c X (own env) no s s₁) : Now c X O OG B BG s₀ s₁ where
  ok := n.ok.tr t
  tr := n.tr.trans t (fun b hb ho => (hown b ho).1.elim id fun h => absurd hb h) (fun _ _ h => h.elim) fun i hi _ => .inr hi
  still := n.still.step t
  b := fun b hb => ⟨(n.b b hb).1, t.there b (n.b b hb).2⟩
  bg := fun i hi => ⟨(n.bg i hi).1, Nat.lt_of_lt_of_le (n.bg i hi).2 t.gsize⟩

theorem Aft.plain {s₁ : Shared} (n : Now c X O OG B BG s₀ s) (hown : ∀ b, own env b → Own O s₀ b ∧ Is s.heap b ∧ ¬ B b) (t : Tr c X (own env) no s s₁) : Aft c X B BG s env X O OG s₀ s₁ where
  now := n.step hown t
  ext := .refl ..
  tr := t.mono (fun b _ h hb => (hown b h).2.2 hb) fun _ h => h.elim
  mine := fun b hb => (hown b hb).1

theorem Aft.hown {X' O' : Addr → Prop} {OG' : Nat → Prop} {s₀' s' : Shared} (a : Aft c X B BG s env X' O' OG' s₀' s') (hown : ∀ b, own env b → Own O s₀ b ∧ Is s.heap b ∧ ¬ B b) : ∀ b, own env b → Own O' s₀' b ∧ Is s'.heap b ∧ ¬ B b :=
  fun b hb => ⟨a.mine b hb, a.tr.there b (hown b hb).2.1, (hown b hb).2.2⟩

theorem Aft.trans {X' O' X'' O'' : Addr → Prop} {OG' OG'' : Nat → Prop} {s₀' s' s₀'' s'' : Shared} (a : Aft c X B BG s env X' O' OG' s₀' s') (b : Aft c X' B BG s' env X'' O'' OG'' s₀'' s'') : Aft c X B BG s env X'' O'' OG'' s₀'' s'' where
  now := b.now
  ext := a.ext.trans b.ext a.tr.there
  tr := (a.tr.ext b.ext).trans b.tr (fun _ _ h => h) (fun _ _ h => h) fun i hi h => h.elim id id
  mine := b.mine

noncomputable abbrev HOwn (O : Addr → Prop) (B : Addr → Prop) (s₀ s : Shared) (env : Env) : Prop := ∀ b, own env b → Own O s₀ b ∧ Is s.heap b ∧ ¬ B b
end

/-- a statement list of a generator's body: it yields ys, then leaves off as R says -/
noncomputable def Gz (c : Cx) (k : Nat) (sc : Scope) (ρ : Rho) (ss : List Stmt) (ys : List D) (R : Out → Prop) : Prop :=
  ∀ (kk : Nat) (boom : Bool) (ds : List D) (X O : Addr → Prop) (OG : Nat → Prop) (B : Addr → Prop) (BG : Nat → Prop) (s₀ s : Shared) (cd : Code) (fs : List Frame) (K : Flow → Sem Fin) (H : Value → Sem Fin) (gd : Bool → Bool) (lv : List Value → List Value) (env : Env),
    EnvS sc env → FsOk k kk cd fs → gd false = false → Now c X O OG B BG s₀ s → EnvAt c X ρ env s.heap → HOwn O B s₀ s env →
    (∀ o fl X' O' OG' s₀' s', Aft c X B BG s env X' O' OG' s₀' s' → R o → OutAt c X' env s' o fl → SegZ c kk boom ds X' O' OG' s₀' cd (K fl) fs s') →
    SegZ c kk boom (ys ++ ds) X O OG s₀ cd ((execs ss env).wrap K H gd lv) fs s

section
variable {c : Cx} {k : Nat} {sc : Scope} {ρ : Rho}

theorem Gz.nil {R : Out → Prop} (h : R (.next ρ)) : Gz c k sc ρ [] [] R := fun kk boom ds X O OG B BG s₀ s cd fs K H gd lv env S F hg n he hown hK =>
  hK _ _ X O OG s₀ s (.plain n hown (.refl ..)) h (.next he)

theorem Gz.weaken {ρ' : Rho} {ss : List Stmt} {ys : List D} {R : Out → Prop} (h : Gz c k sc ρ' ss ys R) (hs : Sub ρ' ρ) : Gz c k sc ρ ss ys R :=
  fun kk boom ds X O OG B BG s₀ s cd fs K H gd lv env S F hg n he hown hK => h kk boom ds X O OG B BG s₀ s cd fs K H gd lv env S F hg n (he.weaken hs) hown hK
theorem Gz.mono {ss : List Stmt} {ys : List D} {R R' : Out → Prop} (h : Gz c k sc ρ ss ys R) (hR : ∀ o, R o → R' o) : Gz c k sc ρ ss ys R' :=
  fun kk boom ds X O OG B BG s₀ s cd fs K H gd lv env S F hg n he hown hK => h kk boom ds X O OG B BG s₀ s cd fs K H gd lv env S F hg n he hown fun o fl X' O' OG' s₀' s' a r => hK o fl X' O' OG' s₀' s' a (hR o r)
theorem Gz.cast {ss : List Stmt} {ys ys' : List D} {R : Out → Prop} (h : Gz c k sc ρ ss ys R) (hy : ys = ys') : Gz c k sc ρ ss ys' R := hy ▸ h

/-- statements without a yield go ahead -/
theorem Gz.plain {ss rest : List Stmt} {ys : List D} {R R' : Out → Prop} (h : Ex c k sc ρ ss R') (hn : ∀ ρ', R' (.next ρ') → Gz c k sc ρ' rest ys R) (hr : ∀ d, R' (.ret d) → ys = [] ∧ R (.ret d)) : Gz c k sc ρ (ss ++ rest) ys R :=
  fun kk boom ds X O OG B BG s₀ s cd fs K H gd lv env S F hg n he hown hK => by
    rw [execs_append, Sem.bind_eq_wrap', Sem.wrap_wrap]
    refine segz_wrap (h env X _ s _ _ S F.ok n.ok he fun o fl s₁ t₁ hR ho => ?_)
    have a := Aft.plain n hown t₁
    cases ho with
    | next e₁ => exact hn _ hR kk boom ds X O OG B BG s₀ s₁ cd fs K H gd lv env S F hg a.now e₁ (a.hown hown) fun o fl X' O' OG' s₀' s' a' => hK o fl X' O' OG' s₀' s' (a.trans a')
    | ret r =>
      obtain ⟨rfl, hR'⟩ := hr _ hR
      exact hK _ _ X O OG s₀ s₁ a hR' (.ret r)

theorem Gz.step {ss rest : List Stmt} {ys : List D} {R : Out → Prop} {ρ' : Rho} (h : Ex c k sc ρ ss (fun o => o = .next ρ')) (hn : Gz c k sc ρ' rest ys R) : Gz c k sc ρ (ss ++ rest) ys R :=
  .plain h (fun _ e => by cases e; exact hn) fun _ e => by cases e

theorem Ex.ret0 {pos : Pos} {rest : List Stmt} {R : Out → Prop} (hR : R (.ret .none)) : Ex c k sc ρ (.Return none pos :: rest) R :=
  fun env X A s Q E S hA hi he hQ => wpAny_execs_cons (by
    show wpAny (MF c) A (do standAt pos; pure (Flow.ret Value.none)) _ E s
    exact wpAny_bind (wpAny_standAt (wpAny_pure (hQ _ _ s (.refl ..) hR (.ret .none)))))

theorem Gz.ret {pos : Pos} {rest : List Stmt} {R : Out → Prop} (hR : R (.ret .none)) : Gz c k sc ρ (.Return none pos :: rest) [] R := by
  refine Gz.plain (ss := [.Return none pos]) (rest := rest) (R' := fun o => o = .ret .none) (Ex.ret0 rfl) (fun _ e => by cases e) fun _ e => by cases e; exact ⟨rfl, hR⟩

theorem Gz.ite {t : Expr} {body orelse rest : List Stmt} {pos : Pos} {x : Bool} {ys : List D} {R : Out → Prop} (ht : Tst c k sc ρ t x) (hb : x = true → Gz c k sc ρ (body ++ rest) ys R) (ho : x = false → Gz c k sc ρ (orelse ++ rest) ys R) :
    Gz c k sc ρ (.If t body orelse pos :: rest) ys R :=
  fun kk boom ds X O OG B BG s₀ s cd fs K H gd lv env S F hg n he hown hK => by
    rw [execs_If]
    show SegZ c kk boom (ys ++ ds) X O OG s₀ cd (.at pos fun _ => ((isTrue t env (eval t env)) >>= fun b => if b = true then execs (body ++ rest) env else execs (orelse ++ rest) env).wrap K H gd lv) fs s
    refine segz_at ?_
    rw [Sem.bind_eq_wrap', Sem.wrap_wrap]
    refine segz_wrap (ht env X _ s _ _ S F.ok n.ok he fun s₁ t₁ => ?_)
    have a := Aft.plain n hown t₁.ownL
    have he₁ := he.step n.ok t₁
    cases x with
    | true => exact hb rfl kk boom ds X O OG B BG s₀ s₁ cd fs K H gd lv env S F hg a.now he₁ (a.hown hown) fun o fl X' O' OG' s₀' s' a' => hK o fl X' O' OG' s₀' s' (a.trans a')
    | false => exact ho rfl kk boom ds X O OG B BG s₀ s₁ cd fs K H gd lv env S F hg a.now he₁ (a.hown hown) fun o fl X' O' OG' s₀' s' a' => hK o fl X' O' OG' s₀' s' (a.trans a')

theorem EnvS.sleep {sc : Scope} {env : Env} (S : EnvS sc env) : interactive env = false := by
  have := S.kind
  rw [← S.scope] at this
  unfold interactive
  rw [this]; rfl

/-- after a sleep -/
theorem Aft.woken {X O : Addr → Prop} {OG : Nat → Prop} {B : Addr → Prop} {BG : Nat → Prop} {s₀ s s₂ : Shared} {env : Env} {X' : Addr → Prop} (n : Now c X O OG B BG s₀ s) (hown : HOwn O B s₀ s env) (hx : Ext X s X') (hi : Ok c X' s₂)
    (t : Tr c X' (fun b => ¬ (Own O s₀ b ∧ Is s.heap b)) (fun i => ¬ (OwnG OG s₀ i ∧ i < s.gens.size)) s s₂) :
    Aft c X B BG s env X' (fun b => Own O s₀ b ∧ Is s.heap b) (fun i => OwnG OG s₀ i ∧ i < s.gens.size) s₂ s₂ where
  now := ⟨hi, .refl .., fun i x e ho hb => by
      have hi : i < s₂.gens.size := (Array.getElem?_eq_some_iff.mp e).1
      rcases ho with ⟨ho, hl⟩ | ho
      · have e1 : s.gens[i]? = some s.gens[i] := Array.getElem?_eq_getElem hl
        have e2 := t.gkeep i _ e1 fun h => h ⟨ho, hl⟩
        rw [e] at e2; cases e2
        exact n.still i _ e1 ho hb
      · omega, fun b hb => ⟨.inl (n.b b hb), t.there b (n.b b hb).2⟩, fun i hi => ⟨.inl (n.bg i hi), Nat.lt_of_lt_of_le (n.bg i hi).2 t.gsize⟩⟩
  ext := hx
  tr := t.mono (fun b _ h hb => h (n.b b hb)) fun i h hb => h (n.bg i hb)
  mine := fun b hb => .inl ⟨(hown b hb).1, (hown b hb).2.1⟩

theorem Gz.yield {e : Expr} {ypos pos : Pos} {rest : List Stmt} {d : D} {ys : List D} {R : Out → Prop} (h : Ev c k sc ρ e d) (hr : Gz c k sc ρ rest ys R) (hco : sc.isCoroutine = false) : Gz c k sc ρ (.Expr (.Yield (some e) ypos) pos :: rest) (d :: ys) R :=
  fun kk boom ds X O OG B BG s₀ s cd fs K H gd lv env S F hg n he hown hK => by
    rw [execs_cons_wrap, exec_Expr env _ pos S.sleep rfl]
    show SegZ c kk boom (d :: (ys ++ ds)) X O OG s₀ cd (.at pos fun _ => ((eval e env >>= fun v => (standAt ypos >>= fun _ => yieldOut env v)) >>= fun x =>
      dropValue (.Yield (some e) ypos) pos x).wrap _ H gd lv) fs s
    have hy : ∀ v, yieldOut env v = yieldValue v := fun v => by simp only [yieldOut, S.scope, hco, Bool.false_eq_true, if_false]
    simp only [hy]
    refine segz_at ?_
    rw [Sem.bind_eq_wrap', Sem.bind_eq_wrap', Sem.wrap_wrap, Sem.wrap_wrap]
    refine segz_wrap (h env X _ s _ _ S F.ok n.ok he fun v s₁ t₁ r₁ => ?_)
    have a := Aft.plain n hown t₁.ownL
    have he₁ := he.step n.ok t₁
    refine segz_at (segz_yield F.split hg F.guards a.now.tr r₁ fun X' s₂ hx hi t => ?_)
    have a₂ := a.trans (Aft.woken a.now (a.hown hown) hx hi t)
    show SegZ c kk boom (ys ++ ds) X' _ _ s₂ cd ((execs rest env).wrap K H gd lv) fs s₂
    refine hr kk boom ds X' _ _ B BG s₂ s₂ cd fs K H gd lv env S F hg a₂.now ?_ (a₂.hown hown) fun o fl X' O' OG' s₀' s' a' => hK o fl X' O' OG' s₀' s' (a₂.trans a')
    exact (he₁.ext hx.2).tr a.now.ok.toIv t fun b hb h => h ⟨(a.hown hown b hb).1, (a.hown hown b hb).2.1⟩

theorem Now.next {X O : Addr → Prop} {OG : Nat → Prop} {B : Addr → Prop} {BG : Nat → Prop} {s₀ s s₂ : Shared} {O₁ O₂ : Addr → Prop} {OG₁ OG₂ : Nat → Prop} (n : Now c X O OG (fun b => B b ∨ O₁ b) (fun j => BG j ∨ OG₁ j) s₀ s)
    (t : Tr c X O₁ (OwnG OG₁ s) s s₂) (st : Still s₂ (OwnG OG₁ s) OG₂) (h1 : ∀ b, O₂ b → (O₁ b ∨ ¬ Is s.heap b) ∧ Is s₂.heap b) (h2 : ∀ j, OG₂ j → OwnG OG₁ s j ∧ j < s₂.gens.size) :
    Now c X O OG (fun b => B b ∨ O₂ b) (fun j => BG j ∨ OG₂ j) s₀ s₂ where
  ok := n.ok.tr t
  tr := n.tr.trans t (fun x hi ho => ((n.b x (.inr ho)).1).elim id fun h => absurd hi h) (fun j hj h => h.elim (fun h => (n.bg j (.inr h)).1) fun h => .inr (Nat.le_trans n.tr.gsize h)) fun j hj _ => .inr hj
  still := fun j x e ho hb => by
    by_cases h : OwnG OG₁ s j
    · exact st j x e h fun h => hb (.inr h)
    · have hj : j < s.gens.size := Nat.lt_of_not_le fun hn => h (.inr hn)
      have e1 : s.gens[j]? = some s.gens[j] := Array.getElem?_eq_getElem hj
      have e2 := t.gkeep j _ e1 h
      rw [e] at e2; cases e2
      exact n.still j _ e1 ho fun hh => hh.elim (fun h => hb (.inl h)) fun hh => h (.inl hh)
  b := fun b hb => by
    rcases hb with hb | hb
    · exact ⟨(n.b b (.inl hb)).1, t.there b (n.b b (.inl hb)).2⟩
    · exact ⟨(h1 b hb).1.elim (fun h => (n.b b (.inr h)).1) fun h => .inr fun hi => h (n.tr.there b hi), (h1 b hb).2⟩
  bg := fun j hj => by
    rcases hj with hj | hj
    · exact ⟨(n.bg j (.inl hj)).1, Nat.lt_of_lt_of_le (n.bg j (.inl hj)).2 t.gsize⟩
    · exact ⟨(h2 j hj).1.elim (fun h => (n.bg j (.inr h)).1) fun h => .inr (Nat.le_trans n.tr.gsize h), (h2 j hj).2⟩

theorem for_loop {kk : Nat} {boom : Bool} {ds : List D} {B : Addr → Prop} {BG : Nat → Prop} {s : Shared} {X : Addr → Prop} {FS : List Frame} {env : Env} {i : Value} {tgt : Expr} {body : List Stmt} {items : List D} {f : D → List D} {ys : List D} {F₀ : List D → Rho}
    (S : EnvS sc env) (F : FsOk k kk (.forLoop tgt i body [] env) FS)
    (hb : ∀ pre d ds, items = pre ++ d :: ds → ∃ ρ₁, As c k sc (F₀ (d :: ds)) tgt d ρ₁ ∧ Gz c k sc ρ₁ body (f d) fun o => ∃ ρ', o = .next ρ' ∧ Sub (F₀ ds) ρ')
    (hend : ∀ X' O' OG' s₀' s', Aft c X B BG s env X' O' OG' s₀' s' → EnvAt c X' (F₀ []) env s'.heap → SegZ c kk boom (ys ++ ds) X' O' OG' s₀' (.block [] env) (leafOf (.ok .next)) FS s') :
    ∀ (rem pre : List D), items = pre ++ rem → ∀ (Xe X' O' : Addr → Prop) (OG' : Nat → Prop) (O₁ : Addr → Prop) (OG₁ : Nat → Prop) (s₀' se s' : Shared), Now c X' O' OG' (fun b => B b ∨ O₁ b) (fun j => BG j ∨ OG₁ j) s₀' s' → Ext X s X' → Tr c X' (fun b => ¬ B b) (fun j => ¬ BG j) s s' →
      HOwn O' B s₀' s' env → (∀ b, O₁ b → ¬ own env b ∧ ¬ B b) → (∀ j, OG₁ j → ¬ BG j) → It c k i rem Xe O₁ OG₁ se → Ext Xe se X' → Tr c X' (fun b => ¬ O₁ b) (fun j => ¬ OG₁ j) se s' → EnvAt c X' (F₀ rem) env s'.heap →
      SegZ c kk boom (rem.flatMap f ++ ys ++ ds) X' O' OG' s₀' (.forLoop tgt i body [] env) (denF (.forLoop tgt i body [] env)) FS s' := by
  intro rem
  induction rem with
  | nil =>
    intro pre hp Xe X' O' OG' O₁ OG₁ s₀' se s' n hx t hown hno hng hI hxe te he
    show SegZ c kk boom _ X' O' OG' s₀' _ ((forTurn tgt i body [] env).onRaise (fun x => do noteFrame x env; theTreesLotGoes x)) FS s'
    unfold forTurn
    show SegZ c kk boom _ X' O' OG' s₀' _ (.at tgt.pos fun _ => (((pyNext i).onRaise (fun _ => standAt { tgt.pos with line := 0 })) >>= _).onRaise (fun x => do noteFrame x env; theTreesLotGoes x)) FS s'
    refine segz_at ?_
    rw [Sem.onRaise_eq_wrap, Sem.bind_eq_wrap', Sem.wrap_wrap]
    refine segz_wrap (wpAny_onRaise (hI X' _ s' _ _ hxe F.ok n.ok te fun s₂ t₂ st₂ => ?_))
    refine segz_again (c' := .block [] env) rfl ?_
    have n₂ := n.next (O₂ := fun _ => False) (OG₂ := no) t₂ st₂ (fun _ h => h.elim) (fun _ h => h.elim)
    have hdg : ∀ j, OwnG OG₁ s' j → ¬ BG j := fun j h hB => h.elim (fun h => hng j h hB) fun h => absurd (n.bg j (.inl hB)).2 (Nat.not_lt.mpr h)
    refine hend X' O' OG' s₀' s₂ ⟨⟨n₂.ok, n₂.tr, fun j x e ho hb => n₂.still j x e ho fun h => h.elim hb id, fun b hb => n₂.b b (.inl hb), fun j hj => n₂.bg j (.inl hj)⟩, hx, ?_, fun b hb => (hown b hb).1⟩ ?_
    · exact t.trans t₂ (fun x hi ho => (hno x ho).2) (fun j hj ho => hdg j ho) fun j hj ho => ho.elim id (hdg j)
    · exact he.tr n.ok.toIv t₂ fun b hb ho => (hno b ho).1 hb
  | cons d rem ih =>
    intro pre hp Xe X' O' OG' O₁ OG₁ s₀' se s' n hx t hown hno hng hI hxe te he
    obtain ⟨ρ₁, hAs, hGz⟩ := hb pre d rem hp
    show SegZ c kk boom _ X' O' OG' s₀' _ ((forTurn tgt i body [] env).onRaise (fun x => do noteFrame x env; theTreesLotGoes x)) FS s'
    unfold forTurn
    show SegZ c kk boom _ X' O' OG' s₀' _ (.at tgt.pos fun _ => (((pyNext i).onRaise (fun _ => standAt { tgt.pos with line := 0 })) >>= _).onRaise (fun x => do noteFrame x env; theTreesLotGoes x)) FS s'
    refine segz_at ?_
    rw [Sem.onRaise_eq_wrap, Sem.bind_eq_wrap', Sem.wrap_wrap]
    refine segz_wrap (wpAny_onRaise (hI X' _ s' _ _ hxe F.ok n.ok te fun u s₂ O₂ OG₂ t₂ ru lo h1 h2 st₂ hI₂ => ?_))
    have n₂ := n.next t₂ st₂ h1 h2
    have hdg : ∀ j, OwnG OG₁ s' j → ¬ BG j := fun j h hB => h.elim (fun h => hng j h hB) fun h => absurd (n.bg j (.inl hB)).2 (Nat.not_lt.mpr h)
    have t₂' : Tr c X' (fun b => ¬ B b) (fun j => ¬ BG j) s s₂ := t.trans t₂ (fun x hi ho => (hno x ho).2) (fun j hj ho => hdg j ho) fun j hj ho => ho.elim id (hdg j)
    have he₂ := he.tr n.ok.toIv t₂ fun b hb ho => (hno b ho).1 hb
    have hno₂ : ∀ b, O₂ b → ¬ own env b ∧ ¬ B b := fun b hb => (h1 b hb).1.elim (hno b) fun h => ⟨fun ho => h (hown b ho).2.1, fun hB => h (n.b b (.inl hB)).2⟩
    have hng₂ : ∀ j, OG₂ j → ¬ BG j := fun j hj => hdg j (h2 j hj).1
    have hown₂ : HOwn O' (fun b => B b ∨ O₂ b) s₀' s₂ env := fun b hb => ⟨(hown b hb).1, t₂.there b (hown b hb).2.1, fun h => h.elim (hown b hb).2.2 fun h => (hno₂ b h).1 hb⟩
    show SegZ c kk boom _ X' O' OG' s₀' _ ((letOwnedTupleGo tgt i u >>= fun _ => assign tgt env u >>= fun _ => execs body env >>= fun f => match f with
      | .next | .cont => again (.forLoop tgt i body [] env) | .brk => pure (.done .next) | .ret v => pure (.done (.ret v))).wrap .pure _ id id) FS s₂
    rw [Sem.bind_eq_wrap', Sem.wrap_wrap]
    refine segz_wrap (lo _ _ _ _ _ ?_)
    rw [Sem.bind_eq_wrap', Sem.wrap_wrap]
    refine segz_wrap (hAs env X' _ s₂ u _ _ S F.ok n₂.ok he₂ ru fun s₃ t₃ e₃ => ?_)
    rw [Sem.bind_eq_wrap', Sem.wrap_wrap]
    have a₃ := Aft.plain n₂ hown₂ t₃
    rw [show (d :: rem).flatMap f ++ ys ++ ds = f d ++ (rem.flatMap f ++ ys ++ ds) from by simp]
    refine hGz kk boom (rem.flatMap f ++ ys ++ ds) X' O' OG' _ _ s₀' s₃ _ FS _ _ _ _ env S F rfl a₃.now e₃ (a₃.hown hown₂) fun o fl X'' O'' OG'' s₀'' s₄ a₄ hR ho => ?_
    obtain ⟨ρ', rfl, hs⟩ := hR
    cases ho with
    | next e₄ =>
      have a := a₃.trans a₄
      refine segz_again (c' := .forLoop tgt i body [] env) rfl ?_
      refine ih (pre ++ [d]) (by rw [hp]; simp) X' X'' O'' OG'' O₂ OG₂ s₀'' s₂ s₄ a.now (hx.trans a.ext t₂'.there) ?_ ?_ hno₂ hng₂ hI₂ a.ext ?_ (e₄.weaken hs)
      · exact (t₂'.ext a.ext).trans a.tr (fun x _ h hB => h (.inl hB)) (fun j _ h hB => h (.inl hB)) fun j _ h => h.elim id fun h hB => h (.inl hB)
      · exact fun b hb => ⟨a.mine b hb, a.tr.there b (hown₂ b hb).2.1, (hown b hb).2.2⟩
      · exact a.tr.mono (fun x _ h hO => h (.inr hO)) fun j h hO => h (.inr hO)

/-- for over an iterator -/
theorem Gz.for {it : Expr} {tgt : Expr} {body rest : List Stmt} {pos : Pos} {items : List D} {f : D → List D} {ys : List D} {R : Out → Prop} (F₀ : List D → Rho)
    (hit : EvI c k sc ρ it items) (h₀ : Sub (F₀ items) ρ) (hb : ∀ pre d ds, items = pre ++ d :: ds → ∃ ρ₁, As c k sc (F₀ (d :: ds)) tgt d ρ₁ ∧ Gz c k sc ρ₁ body (f d) fun o => ∃ ρ', o = .next ρ' ∧ Sub (F₀ ds) ρ')
    (hr : Gz c k sc (F₀ []) rest ys R) (hfs : ∀ env x, foldedSetIterable it env x = pure x := by intro _ _; rfl) : Gz c k sc ρ (.For tgt it body [] pos :: rest) (items.flatMap f ++ ys) R :=
  fun kk boom ds X O OG B BG s₀ s cd fs K H gd lv env S F hg n he hown hK => by
    rw [execs_cons_wrap, exec_For]
    show SegZ c kk boom (items.flatMap f ++ ys ++ ds) X O OG s₀ cd (.at pos fun _ => (eval it env >>= fun x => foldedSetIterable it env x >>= fun x => standAt it.pos >>= fun _ => holding [x] (pyIter x) >>= fun i => runOwn (.forLoop tgt i body [] env) env).wrap _ H gd lv) fs s
    refine segz_at ?_
    rw [Sem.bind_eq_wrap', Sem.wrap_wrap]
    refine segz_wrap (wpAny_mono (hit env X _ s (fun i s₁ => ∃ O₁ OG₁, Tr c X no no s s₁ ∧ (∀ b, O₁ b → ¬ Is s.heap b ∧ Is s₁.heap b) ∧ (∀ j, OG₁ j → s.gens.size ≤ j ∧ j < s₁.gens.size) ∧ It c k i items X O₁ OG₁ s₁)
      (fun x s' => SegZ c kk boom (items.flatMap f ++ ys ++ ds) X O OG s₀ cd (H x) fs s') S F.ok n.ok he fun i s₁ O₁ OG₁ t h1 h2 h3 _ => ⟨O₁, OG₁, t, h1, h2, h3⟩) (fun x s' hx => ?_) fun _ _ h => h)
    rw [hfs]
    show SegZ c kk boom (items.flatMap f ++ ys ++ ds) X O OG s₀ cd (.at it.pos fun _ => (holding [x] (pyIter x) >>= fun i => runOwn (.forLoop tgt i body [] env) env).wrap _ H gd lv) fs s'
    refine segz_at ?_
    rw [Sem.bind_eq_wrap', Sem.wrap_wrap]
    refine segz_wrap (wpAny_holding (wpAny_mono hx (fun i s₁ hi => ?_) fun _ _ h => h))
    obtain ⟨O₁, OG₁, t₁, h1, h2, hI⟩ := hi
    have a₁ := Aft.plain n hown t₁.ownL
    have he₁ := (he.step n.ok t₁).weaken h₀
    have hown₁ := a₁.hown hown
    refine segz_call fun p => ?_
    rw [hg]
    refine for_loop (s := s) (env := env) S (F.push rfl rfl) hb ?_ items [] rfl X X O OG O₁ OG₁ s₀ s₁ s₁ ⟨a₁.now.ok, a₁.now.tr, fun j x e ho hb => a₁.now.still j x e ho fun h => hb (.inl h), fun b hb => ?_, fun j hj => ?_⟩ a₁.ext a₁.tr hown₁ ?_ ?_ hI (.refl ..) (.refl ..) he₁
    · intro X' O' OG' s₀' s' a e'
      refine segz_leaf (.ok .next) ?_
      show SegZ c kk boom (ys ++ ds) X' O' OG' s₀' cd ((execs rest env).wrap K H gd lv) fs s'
      exact hr kk boom ds X' O' OG' B BG s₀' s' cd fs K H gd lv env S F hg a.now e' (a.hown hown) fun o fl X'' O'' OG'' s₀'' s'' a' => hK o fl X'' O'' OG'' s₀'' s'' (a.trans a')
    · rcases hb with hb | hb
      · exact a₁.now.b b hb
      · refine ⟨.inr fun hi => (h1 b hb).1 (n.tr.there b hi), (h1 b hb).2⟩
    · rcases hj with hj | hj
      · exact a₁.now.bg j hj
      · exact ⟨.inr (Nat.le_trans n.tr.gsize (h2 j hj).1), (h2 j hj).2⟩
    · exact fun b hb => ⟨fun ho => (h1 b hb).1 (hown b ho).2.1, fun hB => (h1 b hb).1 (n.b b hB).2⟩
    · exact fun j hj hB => absurd (n.bg j hB).2 (Nat.not_lt.mpr (h2 j hj).1)
end
end Dio

namespace Dio
set_option tactic.hygienic false
open PySem PySem.W PySem.Calls PyProof.Rows
open Sem (wp)
set_option maxRecDepth 100000

/-! O. Generator objects -/
theorem denF_builtin {id : String} (h : id ≠ "proto.yield_from") (args : Args) {b : Builtin} (hb : entryFor table id = some b) : denF (.builtin id args) = b args := by
  show (if id = "proto.yield_from" then _ else denote table (.builtin id args)) = _
  rw [if_neg h]
  show (match entryFor table id with | some b => b args | none => unsupported ((withoutEnding? id "#data").getD id)) = _
  rw [hb]

theorem callF_builtin {c : Cx} {A : Around} {R : Result → Shared → Prop} {s : Shared} {id : String} {args : Args} {b : Builtin} (hn : id ≠ "proto.yield_from") (hq : plainId id = true) (hb : entryFor table id = some b)
    (h : wpAny (MF c) A.in1 (checkBuiltinCall id args) (fun _ s₁ => wpAny (MF c) A.in1 (b args)
      (fun fin s' => match fin with | .done f => R (.ok f) s' | .again c' => c'.quiet = true ∧ codeAny (MF c) A c' R s') (fun e s' => R (.error e) s') s₁)
      (fun e s' => R (.error e) s') s) : codeAny (MF c) A (.call (.builtin id) args) R s := by
  refine codeAny_of_tree ?_
  show wpAny _ A.in1 (do checkBuiltinCall id args; again (.builtin id args)) _ _ s
  refine wpAny_bind (wpAny_mono h (fun _ s₁ h₁ => wpAny_pure (And.intro (plainId_quiet hq args) (codeAny_of_tree ?_))) fun _ _ h' => h')
  rw [Around.under_plainId hq args]
  show wpAny _ _ (denF (.builtin id args)) _ _ s₁
  rw [denF_builtin hn args hb]; exact h₁

theorem callF_entry {c : Cx} {A : Around} {E : Value → Shared → Prop} {s : Shared} {T : String} {name : Str} {id : String} {b : Builtin} {self : Value} {rest : List Value} {Q : Value → Shared → Prop} (hn : id ≠ "proto.yield_from") (h : Slot T name id) (hT : s.TypeIs self T)
    (hb : entryFor table id = some b) (hc : wpAny (MF c) A.in1 (b ⟨self :: rest, []⟩) (fun fin s' => ∃ v, fin = .done (.ret v) ∧ Q v s') E s) (ha : argsOk id ⟨self :: rest, []⟩) :
    wpAny (MF c) A (call (.builtin id) (self :: rest)) Q E s := by
  refine wpAny_call (callF_builtin hn h.plain hb (h.check _ _ _ _ _ _ _ _ hT ha (wpAny_mono hc (fun fin s' h' => ?_) fun _ _ h' => h')))
  obtain ⟨v, rfl, hv⟩ := h'; exact hv

theorem sub_VE_stop : isSubtype (.type "ValueError") (.type "StopIteration") = pure false := by rw [isSubtype_type]; kernel_rfl

/-- a generator object; a delegator may have slept over it, but does not now -/
noncomputable def GenAt (h : Heap) (a : Addr) (g : Nat) : Prop :=
  ∃ o nm qn, h.get? a = some o ∧ o.cls = .type "generator" ∧ o.data = .fields #[.int g 0, nm, qn] ∧ ∀ (n : Int) (t : Tok), o.slots[0]? = some (some (.int n t)) → n ≤ 0
theorem GenAt.typeIs {s : Shared} {a : Addr} {g : Nat} (x : GenAt s.heap a g) : s.TypeIs (.ref a) "generator" := let ⟨o, _, _, ho, hc, _⟩ := x; ⟨o, ho, hc⟩
theorem GenAt.at {h h' : Heap} {a : Addr} {g : Nat} (x : GenAt h a g) (hk : ∀ o, h.get? a = some o → h'.get? a = some o) : GenAt h' a g :=
  let ⟨o, nm, qn, ho, r⟩ := x; ⟨o, nm, qn, hk o ho, r⟩
theorem GenAt.is {h : Heap} {a : Addr} {g : Nat} (x : GenAt h a g) : Is h a := let ⟨o, _, _, ho, _⟩ := x; ⟨o, ho⟩

theorem wpAny_genNumberZ {M : Model} {A : Around} {E : Value → Shared → Prop} {s : Shared} {a : Addr} {g : Nat} {Q : Nat → Shared → Prop} (hg : GenAt s.heap a g) (h : Q g s) :
    wpAny M A (Builtin.Generator.genNumber (.ref a)) Q E s := by
  obtain ⟨o, nm, qn, ho, _, hd, hsl⟩ := hg
  unfold Builtin.Generator.genNumber
  refine wpAny_bind (wpAny_load ho ?_)
  simp only [hd]
  have tail : wpAny M A (pure ((g : Int).toNat)) Q E s := by rw [Int.toNat_natCast]; exact wpAny_pure h
  revert hsl
  generalize o.slots[0]? = z
  intro hsl
  cases z with
  | none => exact tail
  | some z =>
    cases z with
    | none => exact tail
    | some v =>
      cases v with
      | int n t =>
        have := hsl n t rfl
        show wpAny M A (if n > 0 then _ else pure ((g : Int).toNat)) Q E s
        rw [if_neg (by omega)]
        exact tail
      | _ => exact tail

section
variable {c : Cx} {k : Nat} {boom : Bool} {ds : List D} {X O : Addr → Prop} {OG : Nat → Prop} {s : Shared}

noncomputable def GoZ (c : Cx) (k : Nat) (boom : Bool) (ds : List D) (X O : Addr → Prop) (OG : Nat → Prop) (s : Shared) (gs : GenState) : Prop :=
  match gs with
  | .fresh cd => SegZ c k boom ds X O OG s cd (denF cd) [] s
  | .suspended k₀ _ cd _ fs _ => SegZ c k boom ds X O OG s cd (k₀ (.send .none)) fs s
  | _ => False

theorem EndZ.quiet {e : End} {s₀ s' : Shared} (h : EndZ c k boom ds X O OG s₀ e s') : e.quiet = true := by
  cases ds with
  | nil =>
    obtain ⟨_, _, h⟩ := h
    cases boom with
    | true => obtain ⟨x, rfl, _⟩ := h; rfl
    | false => cases h; rfl
  | cons d ds =>
    obtain ⟨v, l, kk, cd, p, fs, rfl, h, _⟩ := h
    simp [End.quiet, h]

theorem wpAny_resumeZ {α : Type} {A : Around} {E : Value → Shared → Prop} {g : Nat} {gs : GenState} {l : List Value} {kt : GenResult → Sem α} {Q : α → Shared → Prop} (hA : okA k A) (hg : s.gens[g]? = some gs)
    (hgo : GoZ c k boom ds X O OG (s.setGen g .running) gs)
    (h : ∀ e s₁, EndZ c k boom ds X O OG (s.setGen g .running) e s₁ → wpAny (MF c) A (kt e.result) Q E (s₁.setGen g e.genState)) :
    wpAny (MF c) A (.resume g (.send .none) l kt) Q E s := by
  intro Γ p hΓ
  rw [Sem.wp_resume]
  have hB : ∀ cd, (Γ.wake cd p).Woken (Ak k) := fun cd => (hA.inAk hΓ).wake cd p
  cases gs with
  | fresh cd =>
    obtain ⟨e₁, s₁, hr, he⟩ := segz_iff.mp hgo (Γ.wake cd p) p rfl (hB cd)
    exact ⟨_, _, by unfold Wakes; rw [hg]; exact ⟨e₁, s₁, hr, he.quiet, rfl, rfl⟩, h e₁ s₁ he Γ p hΓ⟩
  | suspended k₀ l₀ c₀ p₀ fs₀ cl =>
    obtain ⟨e₁, s₁, hr, he⟩ := segz_iff.mp hgo (Γ.wake c₀ p) p₀ rfl (hB c₀)
    exact ⟨_, _, by unfold Wakes; rw [hg]; exact ⟨e₁, s₁, hr, he.quiet, rfl, rfl⟩, h e₁ s₁ he Γ p hΓ⟩
  | running => exact hgo.elim
  | finished => exact hgo.elim

theorem Tr.setGen {W : Addr → Prop} {G : Nat → Prop} {g : Nat} {x : GenState} (hg : G g) : Tr c X W G s (s.setGen g x) where
  there := fun _ h => h
  keep := fun _ _ e _ _ => e
  tab := id
  gsize := by show s.gens.size ≤ (s.gens.setIfInBounds g x).size; simp
  gkeep := fun i y e hi => by
    show (s.gens.setIfInBounds g x)[i]? = some y
    rw [Array.getElem?_setIfInBounds_ne (fun h => hi (by rw [← h]; exact hg))]; exact e
  gnew := fun i y e hi _ => by
    have : i < (s.gens.setIfInBounds g x).size := (Array.getElem?_eq_some_iff.mp e).1
    simp at this; omega
  os := rfl

/-- a generator that waits to yield ds -/
structure GS (c : Cx) (k : Nat) (boom : Bool) (g : Nat) (ds : List D) (X O : Addr → Prop) (OG : Nat → Prop) (s₁ : Shared) : Prop where
  lt : g < s₁.gens.size
  ng : ¬ OG g
  is : ∀ b, O b → Is s₁.heap b
  ig : ∀ i, OG i → i < s₁.gens.size
  go : ∀ X' s, Ext X s₁ X' → Ok c X' s → Tr c X' (fun b => ¬ O b) (fun i => ¬ (OG i ∨ i = g)) s₁ s → ∃ gs, s.gens[g]? = some gs ∧ (gs.status = .fresh ∨ gs.status = .suspended) ∧ GoZ c k boom ds X' O OG (s.setGen g .running) gs

/-- the next item of a generator -/
noncomputable def NextZ (c : Cx) (k : Nat) (boom : Bool) (g : Nat) (ds : List D) (X O : Addr → Prop) (OG : Nat → Prop) (s : Shared) (Q : Value → Shared → Prop) (E : Value → Shared → Prop) : Prop :=
  match ds with
  | [] => ∀ s', Tr c X O (OwnG (fun i => OG i ∨ i = g) s) s s' → Still s' (OwnG (fun i => OG i ∨ i = g) s) no →
      if boom then ∀ x, IsVE s' x → (∀ a, x = .ref a → ¬ Is s.heap a) → E x s'
      else ∀ e t, ¬ Is s.heap e → s'.heap.get? e = some { cls := .type "StopIteration", data := .fields #[.ref t, .none, .none, .none, .bool false, .none] } → E (.ref e) s'
  | d :: ds => ∀ v s' O' OG', Tr c X O (OwnG (fun i => OG i ∨ i = g) s) s s' → Rep c X s'.heap v d → (∀ b, O' b → (O b ∨ ¬ Is s.heap b) ∧ Is s'.heap b) → (∀ i, OG' i → OwnG OG s i ∧ i < s'.gens.size) →
      Still s' (OwnG (fun i => OG i ∨ i = g) s) (fun i => OG' i ∨ i = g) → GS c k boom g ds X O' OG' s' → Q v s'

theorem setGen_size (s : Shared) (g : Nat) (x : GenState) : (s.setGen g x).gens.size = s.gens.size := by show (s.gens.setIfInBounds g x).size = _; simp
theorem setGen_self {s : Shared} {g : Nat} (x : GenState) (h : g < s.gens.size) : (s.setGen g x).gens[g]? = some x := by
  show (s.gens.setIfInBounds g x)[g]? = _
  rw [Array.getElem?_setIfInBounds_self_of_lt h]
theorem setGen_ne {s : Shared} {g i : Nat} (x : GenState) (h : i ≠ g) : (s.setGen g x).gens[i]? = s.gens[i]? := by
  show (s.gens.setIfInBounds g x)[i]? = _
  rw [Array.getElem?_setIfInBounds_ne h.symm]

/-- from the start of the waking to its end -/
theorem Tr.woke {g : Nat} {X O : Addr → Prop} {OG : Nat → Prop} {s s₁ : Shared} {x : GenState} (t : Tr c X O (OwnG OG (s.setGen g .running)) (s.setGen g .running) s₁) : Tr c X O (OwnG (fun i => OG i ∨ i = g) s) s (s₁.setGen g x) := by
  have h1 : Tr c X O (OwnG (fun i => OG i ∨ i = g) s) s (s.setGen g .running) := Tr.setGen (.inl (.inr rfl))
  have h2 : Tr c X O (OwnG (fun i => OG i ∨ i = g) s) (s.setGen g .running) s₁ := t.mono (fun _ _ h => h) fun i h => h.elim (fun h => .inl (.inl h)) fun h => .inr (by rw [setGen_size] at h; exact h)
  exact (h1.then h2).then (Tr.setGen (.inl (.inr rfl)))

theorem gen_call {A : Around} {E : Value → Shared → Prop} {Q : Value → Shared → Prop} {a : Addr} {g : Nat} {s₁ : Shared} {X' : Addr → Prop} (G : Gnd c) (hA : okA (k + 1) A) (hi : Ok c X' s) (hgen : GenAt s.heap a g) (hO : ¬ O a) (hold : ¬ c.Old a)
    (hs : GS c k boom g ds X O OG s₁) (hx : Ext X s₁ X') (ht : Tr c X' (fun b => ¬ O b) (fun i => ¬ (OG i ∨ i = g)) s₁ s) (h : NextZ c k boom g ds X' O OG s Q E) : wpAny (MF c) A (call (.builtin "generator.__next__") [.ref a]) Q E s := by
  refine callF_entry (by decide) slot_gen_next hgen.typeIs entry_gen_next ?_ (args_gen_next _)
  show wpAny _ _ (Builtin.Generator.genWake (.ref a) (.send .none)) _ _ s
  obtain ⟨gs, hgs, hst, hgo⟩ := hs.go X' s hx hi ht
  unfold Builtin.Generator.genWake
  refine wpAny_bind (wpAny_holding (wpAny_genNumberZ hgen (wpAny_bind (wpAny_genState hgs ?_))))
  have hlt : g < s.gens.size := Nat.lt_of_lt_of_le hs.lt ht.gsize
  have main : wpAny (MF c) A.in1 (.resume g (.send .none) [] fun r => (match r with
      | .yielded v => ret v
      | .returned v => do
        if v == .none then raiseNew (← newExc (.type "StopIteration") [])
        rule "generator.return-value"; throw (← newExc (.type "StopIteration") [v])
      | .raised e => do
        if let .throw _ := (Resume.send Value.none) then
          if gs.status == GenStatus.fresh then rule "generator.throw.into-fresh"; throw e
        Builtin.Generator.genLeft (.ref a) e
      | .running => do rule "generator.already-executing"; raiseError "ValueError" "generator already executing"
      | .justStarted => do rule "generator.send-to-fresh"; raiseError "TypeError" "can't send non-None value to a just-started generator"
      | .finished =>
        match (Resume.send Value.none) with
        | .send _ => do raiseNew (← newExc (.type "StopIteration") [])
        | .throw e => throw e : Sem Fin)) (fun fin s' => ∃ v, fin = .done (.ret v) ∧ Q v s') E s := by
    refine wpAny_resumeZ hA.in1 hgs hgo fun e s₂ he => ?_
    have hz : (s.setGen g .running).gens.size = s.gens.size := setGen_size ..
    cases ds with
    | cons d ds =>
      obtain ⟨v, l, kk, cd, p, fs, rfl, hfg, t, r, nx⟩ := he
      refine wpAny_pure ⟨v, rfl, ?_⟩
      have hlt₂ : g < s₂.gens.size := Nat.lt_of_lt_of_le (hz ▸ hlt) t.gsize
      refine h v _ (fun b => Own O (s.setGen g .running) b ∧ Is s₂.heap b) (fun i => OwnG OG (s.setGen g .running) i ∧ i < s₂.gens.size) t.woke r (fun b hb => hb) (fun i hi => ⟨hi.1.imp id (fun h => hz ▸ h), by rw [setGen_size]; exact hi.2⟩) (fun i x e ho hn => ?_) ⟨?_, fun hh => ?_, fun b hb => hb.2, fun i hi => by rw [setGen_size]; exact hi.2, fun X'' s₃ hx₃ hi₃ t₃ => ?_⟩
      · exfalso
        refine hn ?_
        have hl : i < s₂.gens.size := by have := (Array.getElem?_eq_some_iff.mp e).1; rw [setGen_size] at this; exact this
        rcases ho with (ho | ho) | ho
        · exact .inl ⟨.inl ho, hl⟩
        · exact .inr ho
        · exact .inl ⟨.inr (hz.symm ▸ ho), hl⟩
      · rw [setGen_size]; exact hlt₂
      · exact hh.1.elim hs.ng fun h => absurd hlt (Nat.not_lt.mpr (hz ▸ h))
      · refine ⟨.suspended kk l cd p fs (false || fs.any Frame.guarded), ?_, .inr rfl, nx X'' (s₃.setGen g .running) hx₃ ⟨⟨hi₃.base, hi₃.tab, hi₃.os, hi₃.lowP, hi₃.lowC⟩, hi₃.xs⟩ ?_⟩
        · exact t₃.gkeep g _ (setGen_self _ hlt₂) fun hh => hh (.inr rfl)
        · have hg' : ¬ (OwnG OG (s.setGen g .running) g ∧ g < s₂.gens.size) := fun hh => hh.1.elim hs.ng fun h => absurd hlt (Nat.not_lt.mpr (hz ▸ h))
          exact ((Tr.setGen (W := fun b => ¬ (Own O (s.setGen g .running) b ∧ Is s₂.heap b)) (G := fun i => ¬ (OwnG OG (s.setGen g .running) i ∧ i < s₂.gens.size)) hg').then (t₃.mono (fun b _ h => h) fun i h h' => h (.inl h'))).then (Tr.setGen hg')
    | nil =>
      obtain ⟨t, st, he⟩ := he
      have st' : Still (s₂.setGen g .finished) (OwnG (fun i => OG i ∨ i = g) s) no := fun i x e ho _ => by
        by_cases hig : i = g
        · subst hig
          rw [setGen_self _ (Nat.lt_of_lt_of_le (hz ▸ hlt) t.gsize)] at e
          cases e; rfl
        · rw [setGen_ne _ hig] at e
          refine st i x e ?_ fun h => h
          rcases ho with (ho | ho) | ho
          · exact .inl ho
          · exact absurd ho hig
          · exact .inr (hz.symm ▸ ho)
      cases boom with
      | true =>
        obtain ⟨x, rfl, hx, hn⟩ := he
        have hE := h (s₂.setGen g .finished) t.woke st' x hx hn
        obtain ⟨ex, ox, rfl, hox, hcx, _⟩ := hx
        show wpAny (MF c) A.in1 (Builtin.Generator.genLeft (.ref a) (.ref ex)) _ E _
        have hg₂ := hgen.at fun o e => t.keep a o e (fun h => hold (h ▸ hi.lowP)) fun h => absurd h hO
        obtain ⟨o, nm, qn, ho, hc, hd, _⟩ := hg₂
        unfold Builtin.Generator.genLeft Builtin.Generator.madeByALambda
        refine wpAny_bind (wpAny_bind (wpAny_load ho (wpAny_pure ?_)))
        rw [hd, hc]
        refine wpAny_bind (wpAny_isInstance (T := "ValueError") (b := false) ⟨_, hox, hcx⟩ sub_VE_stop ?_)
        show wpAny (MF c) A.in1 (Builtin.Generator.genEscaped (.ref ex)) _ E _
        unfold Builtin.Generator.genEscaped
        refine wpAny_bind (wpAny_isInstance (T := "ValueError") (b := false) ⟨_, hox, hcx⟩ sub_VE_stop ?_)
        exact wpAny_throw hE
      | false =>
        cases he
        show wpAny (MF c) A.in1 (newExc (.type "StopIteration") [] >>= _) _ E _
        refine wpAny_bind ?_
        simp only [newExc, newTuple]
        refine wpAny_bind (wpAny_newObj_type ?_ (by size_fits))
        refine wpAny_bind (m := firstArgMember _ _) (wpAny_of_eq (a := Value.none) (by first | rfl | (simp only [firstArgMember]; rfl)) ?_)
        refine wpAny_newObj_type ?_ (by size_fits)
        simp only [raiseNew]
        refine wpAny_bind (wpAny_bind (wpAny_handled ?_))
        rw [show A.in1.handled = none from hA.1]
        refine wpAny_throw ?_
        have hk : ∀ b o, (s₂.setGen g .finished).heap.get? b = some o → (((s₂.setGen g .finished).heap.push { cls := .type "tuple", data := .seq #[] }).push { cls := .type "StopIteration", data := .fields #[.ref (s₂.setGen g .finished).heap.objs.size, .none, .none, .none, .bool false, .none] }).get? b = some o :=
          fun b o e => Heap.get?_push_of_some _ (Heap.get?_push_of_some _ e)
        have tg : Tr c X' O (OwnG (fun i => OG i ∨ i = g) s) s { (s₂.setGen g .finished) with heap := ((s₂.setGen g .finished).heap.push { cls := .type "tuple", data := .seq #[] }).push { cls := .type "StopIteration", data := .fields #[.ref (s₂.setGen g .finished).heap.objs.size, .none, .none, .none, .bool false, .none] } } :=
          (t.woke (x := .finished)).then (Tr.grow (t := s₂.toks) hk)
        refine h _ tg st' _ _ (fun hI => ?_) (Heap.get?_push_size _ rfl)
        have h1 := (t.woke (x := .finished)).there _ hI
        have h2 := h1.lt
        rw [Heap.size_push] at h2
        exact absurd h2 (Nat.not_lt.mpr (Nat.le_succ _))
  rcases hst with hst | hst
  · rw [hst] at main ⊢
    refine wpAny_bind (wpAny_roomToWake (hi.toIv.nolimit G) hA.depth ?_)
    exact main
  · rw [hst] at main ⊢
    refine wpAny_bind (wpAny_roomToWake (hi.toIv.nolimit G) hA.depth ?_)
    exact main

theorem letOk_of {it u : Value} {s : Shared} {a : Addr} {o : Obj} {n : String} (hi : it = .ref a) (ho : s.heap.get? a = some o) (hc : o.cls = .type n) (hn : ["enumerate", "zip", "dict_itemiterator", "dict_reverseitemiterator", "odict_iterator", "itertools.zip_longest", "itertools.pairwise"].contains n = false) : LetOk it u s := by
  intro M A t Q E hQ
  subst hi
  have main : wpAny M A (match (Value.ref a, u) with
      | (.ref r, .ref b) => do
        let o ← load r
        match o.cls, o.data with
        | .type n, .fields vs =>
          if ["enumerate", "zip", "dict_itemiterator", "dict_reverseitemiterator", "odict_iterator", "itertools.zip_longest", "itertools.pairwise"].contains n && vs[0]? == some (rawInt b) then
            rule "for.unpacks-the-owned-tuple"
            updateField r 0 .none
        | _, _ => pure ()
      | _ => pure ()) Q E s := by
    cases u with
    | ref b =>
      refine wpAny_bind (wpAny_load ho ?_)
      rw [hc]
      cases o.data with
      | fields vs =>
        show wpAny M A (if _ then _ else _) Q E s
        rw [hn, Bool.false_and, if_neg Bool.false_ne_true]
        exact wpAny_pure hQ
      | _ => exact wpAny_pure hQ
    | _ => exact wpAny_pure hQ
  cases t with
  | Tuple => cases u <;> exact main
  | List => cases u <;> exact main
  | _ => exact wpAny_pure hQ

theorem GenAt.letOk {a : Addr} {g : Nat} {u : Value} (h : GenAt s.heap a g) : LetOk (.ref a) u s := let ⟨o, _, _, ho, hc, _⟩ := h; letOk_of rfl ho hc (by decide)

theorem it_gen {a : Addr} {g : Nat} (G : Gnd c) : ∀ {ds : List D} {X O : Addr → Prop} {OG : Nat → Prop} {s₁ : Shared}, GenAt s₁.heap a g → ¬ O a → ¬ c.Old a → Iv c s₁ → GS c k false g ds X O OG s₁ → It c (k + 1) (.ref a) ds X (fun b => O b ∨ b = a) (fun i => OG i ∨ i = g) s₁ := by
  intro ds
  induction ds with
  | nil =>
    intro X O OG s₁ hgen hO hold hiv hs X' A s Q E hx hA hi ht hQ
    have hgen' := hgen.at fun o e => ht.keep a o e (fun h => hold (h ▸ hiv.lowP)) fun h => absurd (.inr rfl) h
    unfold pyNext
    refine wpAny_bind (wpAny_attempt (wpAny_callSpecial?_slot (name := Str.ofString "__next__") hgen'.typeIs slot_gen_next
      (gen_call G hA hi hgen' hO hold hs hx (ht.mono (fun b _ h h' => h (.inl h')) fun _ h => h) fun s' t' st' e tt hne he => ?_)))
    refine wpAny_bind (wpAny_isInstance (T := "StopIteration") (b := true) ⟨_, he, rfl⟩ isSubtype_stop ?_)
    exact wpAny_pure (hQ s' (t'.mono (fun _ _ h => .inl h) fun _ h => h) st')
  | cons d ds ih =>
    intro X O OG s₁ hgen hO hold hiv hs X' A s Q E hx hA hi ht hQ
    have hgen' := hgen.at fun o e => ht.keep a o e (fun h => hold (h ▸ hiv.lowP)) fun h => absurd (.inr rfl) h
    unfold pyNext
    refine wpAny_bind (wpAny_attempt (wpAny_callSpecial?_slot (name := Str.ofString "__next__") hgen'.typeIs slot_gen_next
      (gen_call G hA hi hgen' hO hold hs hx (ht.mono (fun b _ h h' => h (.inl h')) fun _ h => h) fun v s' O' OG' t' r h1 h2 st' hs' => ?_)))
    have hgen'' := hgen'.at fun o e => t'.keep a o e (fun h => hold (h ▸ hiv.lowP)) fun h => absurd h hO
    refine wpAny_pure (hQ v s' (fun b => O' b ∨ b = a) (fun i => OG' i ∨ i = g) (t'.mono (fun _ _ h => .inl h) fun _ h => h) r hgen''.letOk (fun b hb => ?_) (fun i hi => ?_) st' ?_)
    · rcases hb with hb | rfl
      · exact ⟨(h1 b hb).1.imp .inl id, (h1 b hb).2⟩
      · exact ⟨.inl (.inr rfl), hgen''.is⟩
    · rcases hi with hi | rfl
      · exact ⟨(h2 i hi).1.imp .inl id, (h2 i hi).2⟩
      · exact ⟨.inl (.inr rfl), hs'.lt⟩
    · exact ih hgen'' (fun h => (h1 a h).1.elim hO fun h => h hgen'.is) hold (hi.toIv.tr t') hs'
end
end Dio

namespace Dio
set_option tactic.hygienic false
open PySem PySem.W PySem.Calls PyProof.Rows
open Sem (wp)
set_option maxRecDepth 100000

/-! P. Calls of generator defs -/
section
variable {c : Cx} {k : Nat} {boom : Bool} {ds : List D} {X O : Addr → Prop} {OG : Nat → Prop} {s₀ s : Shared} {fs : List Frame}
theorem segz_func {body : List Stmt} {env : Env}
    (h : SegZ c k boom ds X O OG s₀ (.func body env) ((execs body env).wrap (fun f => .pure (.done (.ret (match f with | .ret v => v | _ => .none))))
      (fun e => (leaving env e).wrap (fun _ => .raise e) .raise id id) id id) fs s) :
    SegZ c k boom ds X O OG s₀ (.func body env) (denF (.func body env)) fs s := by
  show SegZ c k boom ds X O OG s₀ _ (.point [] fun _ => ((execs body env).onRaise (leaving env)) >>= _) fs s
  refine segz_point ?_
  rw [Sem.onRaise_eq_wrap, Sem.bind_eq_wrap', Sem.wrap_wrap]
  rw [Sem.wrap_congr (execs body env) _ _ (K' := fun f => .pure (.done (.ret (match f with | .ret v => v | _ => .none))))
    (H' := fun e => (leaving env e).wrap (fun _ => .raise e) .raise id id) (fun f => by cases f <;> rfl)
    (fun e => by rw [Sem.bind_eq_wrap, Sem.wrap_wrap]; rfl)]
  exact h

/-- what a call of a generator def gives: it yields ds -/
noncomputable def Src (c : Cx) (k : Nat) (boom : Bool) (v : Value) (ds : List D) (X : Addr → Prop) (O : Addr → Prop) (OG : Nat → Prop) (s : Shared) : Prop :=
  ∃ a g, v = .ref a ∧ GenAt s.heap a g ∧ ¬ O a ∧ ¬ c.Old a ∧ GS c k boom g ds X O OG s

noncomputable def GenOk (c : Cx) (k : Nat) (boom : Bool) (f : Value) (as : List D) (ds : List D) : Prop :=
  ∀ (X : Addr → Prop) (A : Around) (s : Shared) (vs : List Value) (Q : Value → Shared → Prop) (E : Value → Shared → Prop), okA 1 A → Ok c X s → RepL c X s.heap vs as →
    (∀ v s' O OG, Tr c X no no s s' → (∀ b, O b ∨ v = .ref b → ¬ Is s.heap b ∧ Is s'.heap b) → (∀ i, OG i → s.gens.size ≤ i) → (∀ a g, v = .ref a → GenAt s'.heap a g → s.gens.size ≤ g) → Src c k boom v ds X O OG s' → Q v s') → wpAny (MF c) A (call f vs []) Q E s

/-- the segment of a new generator, from its body -/
theorem gen_start {d : DefRec} {ns : List Str} {as : List D} {ys : List D} {env : Env} {s₁ : Shared} {X X' : Addr → Prop} (hk : k + 1 ≤ 900) (S : EnvS d.scope env) (he : EnvAt c X (bindR ns as fun _ => none) env s₁.heap) (hown : ∀ b, own env b → O b) (hiv : Iv c s₁)
    (hz : Gz c k d.scope (bindR ns as fun _ => none) d.body ys (fun o => (∃ ρ, o = .next ρ) ∨ o = .ret .none)) {s : Shared} (hx : Ext X s₁ X') (hi : Ok c X' s) {G : Nat → Prop} (ht : Tr c X' (fun b => ¬ O b) G s₁ s) :
    SegZ c (k + 1) false ys X' O no s (.func d.body env) (denF (.func d.body env)) [] s := by
  refine segz_func ?_
  have he' : EnvAt c X' (bindR ns as fun _ => none) env s.heap := (he.ext hx.2).tr hiv ht fun b hb h => h (hown b hb)
  have hn : Now c X' O no (fun _ => False) no s s := ⟨hi, .refl .., fun i x e ho _ => ho.elim (fun h => h.elim) fun h => absurd (Array.getElem?_eq_some_iff.mp e).1 (Nat.not_lt.mpr h), fun _ h => h.elim, fun _ h => h.elim⟩
  have := hz (k + 1) false [] X' O no (fun _ => False) no s s (.func d.body env) [] (fun f => .pure (.done (.ret (match f with | .ret v => v | _ => .none)))) (fun e => (leaving env e).wrap (fun _ => .raise e) .raise id id) id id env S (.base hk) rfl hn he'
    (fun b hb => ⟨.inl (hown b hb), he'.is hb, id⟩) fun o fl X'' O'' OG'' s₀'' s'' a hR ho => ?_
  · rw [List.append_nil] at this; exact this
  · have hend : SegZ c (k + 1) false [] X'' O'' OG'' s₀'' (.func d.body env) (leafOf (.ok (.ret .none))) [] s'' := segz_end a.now.tr a.now.still
    rcases hR with ⟨ρ, rfl⟩ | rfl
    · cases ho; exact hend
    · cases ho with
      | ret r => cases r; exact hend

theorem Tr.newGen {W : Addr → Prop} {G : Nat → Prop} {x : GenState} {o : Obj} {t : Nat} (hx : x.isSuspended = false) : Tr c X W G s { s with gens := s.gens.push x, toks := t, heap := s.heap.push o } where
  there := fun b ⟨o, e⟩ => ⟨o, Heap.get?_push_of_some _ e⟩
  keep := fun b o e _ _ => Heap.get?_push_of_some _ e
  tab := fun h => h.at (fun o e => Heap.get?_push_of_some _ e) (fun o e => Heap.get?_push_of_some _ e)
  gsize := by show s.gens.size ≤ (s.gens.push x).size; simp
  gkeep := fun i y e _ => by
    have hi := (Array.getElem?_eq_some_iff.mp e).1
    show (s.gens.push x)[i]? = some y
    rw [Array.getElem?_push_lt hi]
    rw [Array.getElem?_eq_getElem hi] at e
    exact e
  gnew := fun i y e hi _ => by
    have h1 : i < (s.gens.push x).size := (Array.getElem?_eq_some_iff.mp e).1
    simp at h1
    have : i = s.gens.size := by omega
    subst this
    have e' : (s.gens.push x)[s.gens.size]? = some y := e
    simp at e'
    subst e'; exact hx
  os := rfl

theorem call_gen {d : DefRec} {ns : List Str} {as : List D} {ys : List D} (G : Gnd c) (hd : d ∈ recsOf q) (H : ScOk d.scope ns) (hgen : d.scope.isGenerator = true)
    (hbind : ∀ (X : Addr → Prop) (A : Around) (s : Shared) (pm code doc : Value) (vs : List Value) (E : Value → Shared → Prop) (Q : List (Str × Value) → Shared → Prop), Ok c X s → RepL c X s.heap vs as' →
      (∀ us s', Tr c X no no s s' → RepL c X s'.heap us as → Q (ns.zip us) s') → wpAny (MF c) A (bindArgs (docDef d.name d.params d.body d.scope pm code doc) ⟨vs, []⟩) Q E s)
    (hk : k + 1 ≤ 900)
    (hz : Gz c k d.scope (bindR ns as fun _ => none) d.body ys (fun o => (∃ ρ, o = .next ρ) ∨ o = .ret .none)) : ∃ a, c.mg d.name = some (.ref a) ∧ Callee c (.ref a) ∧ GenOk c (k + 1) false (.ref a) as' ys := by
  obtain ⟨a, o, pm, code, doc, h1, h2, h3, h4⟩ := G.fn d hd
  refine ⟨a, h1, .fn h2 h3, fun X A s vs Q E hA hi hr hQ => wpAny_call (codeAny_of_tree ?_)⟩
  have ho := hi.toIv.get G h2 (by rw [h3]; intro z; cases z)
  show wpAny _ A.in1 (callAny (.ref a) ⟨vs, []⟩) _ _ s
  simp only [callAny]
  refine wpAny_bind (wpAny_load ho ?_)
  obtain ⟨cc, oc, fs, tq, hc, hoc, hdc, hq⟩ := hi.toIv.code G h4
  have hco : (docDef d.name d.params d.body d.scope pm code doc).scope.isCoroutine = false := H.co
  have hgn : (docDef d.name d.params d.body d.scope pm code doc).scope.isGenerator = true := hgen
  have hcode : (docDef d.name d.params d.body d.scope pm code doc).code = .ref cc := hc
  have hbody : (docDef d.name d.params d.body d.scope pm code doc).body = .stmts d.body := rfl
  simp only [h3, callFunction, hco, hgn, hcode, hbody]
  refine wpAny_bind (m := field (.ref cc) 1) (wpAny_field hoc hdc hq (wpAny_bind (wpAny_pure ?_)))
  refine wpAny_bind (hbind X _ s pm code doc vs _ _ hi hr fun us s₁ t₁ r₁ => ?_)
  have hi₁ := hi.tr t₁
  refine wpAny_bind (frame_ok H hi₁ r₁ (fun hw => hcode ▸ G.wfn d hd hw a o _ h1 h2 h3) fun env s₂ S he t₂ hown _ _ _ => ?_)
  have hi₂ := hi₁.tr t₂
  refine wpAny_bind (wpAny_enterFrame (hi₂.toIv.nolimit G) hA.depth ?_)
  simp only [newGenerator, newFields]
  refine wpAny_bind (wpAny_bind (wpAny_newGen (wpAny_bind (wpAny_mkText (wpAny_bind (wpAny_mkText (wpAny_newObj_type (wpAny_pure ?_) (by size_fits))))))))
  have t₃ : Tr c X no no s₂ { s₂ with gens := s₂.gens.push (.fresh (.func d.body env)), toks := s₂.toks + 1 + 1, heap := s₂.heap.push { cls := .type "generator", data := .fields #[.int s₂.gens.size 0, .str d.name s₂.toks, .str d.name (s₂.toks + 1)] } } := Tr.newGen rfl
  have hk₃ : ∀ b o, s₂.heap.get? b = some o → (s₂.heap.push { cls := .type "generator", data := .fields #[.int s₂.gens.size 0, .str d.name s₂.toks, .str d.name (s₂.toks + 1)] }).get? b = some o := fun b o e => Heap.get?_push_of_some _ e
  have hg₃ : ∀ (x : GenState), (s₂.gens.push x)[s₂.gens.size]? = some x := fun x => by simp
  have he₃ := he.tr hi₂.toIv t₃ fun _ _ h => h
  have hi₃ := hi₂.tr t₃
  have hown₃ : ∀ b, own env b → ¬ Is s.heap b ∧ Is s₂.heap b := fun b hb => ⟨fun h => hown b hb (t₁.there b h), he.is hb⟩
  have tt := (t₁.seq t₂).seq t₃
  have hgen₃ : GenAt (s₂.heap.push { cls := .type "generator", data := .fields #[.int s₂.gens.size 0, .str d.name s₂.toks, .str d.name (s₂.toks + 1)] }) s₂.heap.objs.size s₂.gens.size := ⟨_, _, _, Heap.get?_push_size _ rfl, rfl, rfl, fun n t h => by simp at h⟩
  have hno : ¬ Is s₂.heap s₂.heap.objs.size := not_is_size _
  refine hQ (.ref s₂.heap.objs.size) _ (fun b => ¬ Is s.heap b ∧ Is s₂.heap b) no tt (fun b hb => ?_) (fun _ h => h.elim) (fun a' g' ha hg => ?_) ⟨s₂.heap.objs.size, s₂.gens.size, rfl, hgen₃, fun h => hno h.2, fun h => hno (hi₂.toIv.is_old h), ?_, id, fun b hb => t₃.there b hb.2, fun _ h => h.elim, fun X' s' hx' hi' ht' => ?_⟩
  · rcases hb with hb | hb
    · exact ⟨hb.1, t₃.there b hb.2⟩
    · cases hb
      exact ⟨fun h => hno ((t₁.seq t₂).there _ h), hgen₃.is⟩
  · cases ha
    obtain ⟨o', nm, qn, e1, e2, e3, _⟩ := hg
    obtain ⟨o'', nm', qn', e1', e2', e3', _⟩ := hgen₃
    have e4 : some o' = some o'' := e1.symm.trans e1'
    cases e4
    rw [e3] at e3'
    have := congrArg (fun x => match x with | Data.fields vs => vs[0]? | _ => none) e3'
    simp at this
    have h9 := (t₁.seq t₂).gsize
    omega
  · show s₂.gens.size < (s₂.gens.push _).size
    simp
  · refine ⟨.fresh (.func d.body env), ht'.gkeep _ _ (hg₃ _) fun h => h (.inr rfl), .inl rfl, ?_⟩
    have hr' : Tr c X' (fun b => ¬ (¬ Is s.heap b ∧ Is s₂.heap b)) (fun i => ¬ (no i ∨ i = s₂.gens.size) ∨ i = s₂.gens.size) s' (s'.setGen s₂.gens.size .running) := Tr.setGen (.inr rfl)
    exact gen_start (d := d) hk S he₃ hown₃ hi₃.toIv hz hx' (hi'.tr hr') ((ht'.mono (fun _ _ h => h) fun _ h => .inl h).then hr')
end
end Dio

namespace Dio
set_option tactic.hygienic false
open PySem PySem.W PySem.Calls PyProof.Rows
open Sem (wp)
set_option maxRecDepth 100000

/-! Q. Iterators over lists, tuples, ranges -/
section
variable {prog : Program} {w : World} {A : Around} {E : Value → Shared → Prop} {s : Shared}

theorem stop_tail {M : Model} {A : Around} {α : Type} {K : Value → Sem α} {Q : α → Shared → Prop} (hK : ∀ e, K e = raiseNew e) (hh : A.handled = none)
    (hE : ∀ h' e o, (∀ b x, s.heap.get? b = some x → h'.get? b = some x) → h'.get? e = some o → o.cls = .type "StopIteration" → E (.ref e) { s with heap := h' }) : wpAny M A (newExc (.type "StopIteration") [] >>= K) Q E s := by
  refine wpAny_bind ?_
  simp only [newExc, newTuple]
  refine wpAny_bind (wpAny_newObj_type ?_ (by size_fits))
  refine wpAny_bind (m := firstArgMember _ _) (wpAny_of_eq (a := Value.none) (by first | rfl | (simp only [firstArgMember]; rfl)) ?_)
  refine wpAny_newObj_type ?_ (by size_fits)
  rw [hK]
  exact wpAny_raiseNew_none hh (hE _ _ _ (fun b x e => Heap.get?_push_of_some _ (Heap.get?_push_of_some _ e)) (Heap.get?_push_size _ rfl) rfl)

theorem stop_so {M : Model} {A : Around} {α : Type} {Q : α → Shared → Prop} (hh : A.handled = none)
    (hE : ∀ h' e o, (∀ b x, s.heap.get? b = some x → h'.get? b = some x) → h'.get? e = some o → o.cls = .type "StopIteration" → E (.ref e) { s with heap := h' }) : wpAny M A (Builtin.SmallTypes.stopIteration : Sem α) Q E s := by
  show wpAny M A (newExc (.type "StopIteration") [] >>= _) Q E s
  exact stop_tail (fun _ => rfl) hh hE

theorem mapFields_alive {o : Obj} {vs : Array Value} {f : Array Value → Array Value} (hd : o.data = .fields vs) : (Obj.mapFields f o).isFreed = false := by
  obtain ⟨_, _, dt, _⟩ := o
  cases hd
  rfl
theorem upd_keep {it : Addr} {f : Obj → Obj} {o : Obj} (ho : s.heap.get? it = some o) (hal : (f o).isFreed = false) : (∀ b x, b ≠ it → s.heap.get? b = some x → (s.heap.update it f).get? b = some x) ∧ Is (s.heap.update it f) it :=
  ⟨fun b x hb e => ((Heap.SameBut.update s.heap it f).2 b hb).trans e, ⟨_, Heap.get?_update_self _ ho hal⟩⟩

theorem done_of {cls id : String} {it : Addr} {o : Obj} {b : Builtin} {Q : Option Value → Shared → Prop} (hn : Slot cls "__next__" id) (hb : entryFor table id = some b) (ha : argsOk id ⟨[.ref it], []⟩) (ho : s.heap.get? it = some o) (hc : o.cls = .type cls)
    (hrun : ∀ (E : Value → Shared → Prop), (∀ h' e o', (∀ b x, b ≠ it → s.heap.get? b = some x → h'.get? b = some x) → Is h' it → h'.get? e = some o' → o'.cls = .type "StopIteration" → E (.ref e) { s with heap := h' }) → wpAny (model prog w) A.in1 (b ⟨[.ref it], []⟩) (fun _ _ => False) E s)
    (hQ : ∀ h', (∀ b x, b ≠ it → s.heap.get? b = some x → h'.get? b = some x) → Is h' it → Q none { s with heap := h' }) : wpAny (model prog w) A (pyNext (.ref it)) Q E s := by
  unfold pyNext
  refine wpAny_bind (wpAny_attempt (wpAny_callSpecial?_slot (name := Str.ofString "__next__") ⟨_, ho, hc⟩ hn (wpAny_call_entry hn ⟨_, ho, hc⟩ hb (wpAny_mono (hrun _ fun h' e o' hk hi he hce => ?_) (fun _ _ h => h.elim) fun _ _ h => h) ha)))
  refine wpAny_bind (wpAny_isInstance (T := "StopIteration") (b := true) ⟨_, he, hce⟩ isSubtype_stop ?_)
  exact wpAny_pure (hQ _ hk hi)

theorem list_done {it l : Addr} {i : Nat} {items} {Q : Option Value → Shared → Prop} (hh : A.handled = none)
    (hit : s.heap.IsListIter it l i) (hl : s.heap.IsList l items) (hx : items[i]? = none)
    (hQ : ∀ h', (∀ b x, b ≠ it → s.heap.get? b = some x → h'.get? b = some x) → Is h' it → Q none { s with heap := h' }) : wpAny (model prog w) A (pyNext (.ref it)) Q E s := by
  obtain ⟨o, ho, hc, hd⟩ := id hit
  obtain ⟨ol, hol, _, nl, hdl⟩ := hl
  refine done_of slot_listiter_next entry_listiter_next (args_listiter_next _) ho hc (fun E hE => ?_) hQ
  show wpAny _ _ (field (.ref it) 0 >>= _) _ _ s
  refine wpAny_bind (wpAny_field ho hd (x := .ref l) rfl ?_)
  show wpAny _ _ (if (Value.ref l == Value.none) = true then _ else _) _ _ s
  rw [if_neg (show ¬ ((Value.ref l == Value.none) = true) from Bool.false_ne_true)]
  show wpAny _ _ (field (.ref it) 1 >>= _) _ _ s
  refine wpAny_bind (wpAny_field ho hd (x := .int i 0) rfl ?_)
  show wpAny _ _ (seqItems? (.ref l) >>= _) _ _ s
  refine wpAny_bind (wpAny_seqItems hol hdl ?_)
  simp only [Int.toNat_natCast, hx]
  refine wpAny_bind (wpAny_rule (wpAny_bind (wpAny_setField ho hd (by simp) ?_)))
  have hu := upd_keep (f := Obj.mapFields fun x => x.setIfInBounds 0 Value.none) ho (mapFields_alive hd)
  exact stop_so hh fun h' e o' hk he hc => hE _ e o' (fun b x hb e => hk b x (hu.1 b x hb e)) (let ⟨z, hz⟩ := hu.2; ⟨z, hk _ _ hz⟩) he hc

theorem tuple_done {it l : Addr} {i : Nat} {items} {Q : Option Value → Shared → Prop} (hh : A.handled = none)
    (hit : s.heap.IsTupleIter it l i) (hl : s.heap.IsTuple l items) (hx : items[i]? = none)
    (hQ : ∀ h', (∀ b x, b ≠ it → s.heap.get? b = some x → h'.get? b = some x) → Is h' it → Q none { s with heap := h' }) : wpAny (model prog w) A (pyNext (.ref it)) Q E s := by
  obtain ⟨o, ho, hc, hd⟩ := id hit
  obtain ⟨ol, hol, _, nl, hdl⟩ := hl
  refine done_of F.slot_tuple_iterator_next F.entry_tuple_iterator_next (F.args_tuple_iterator_next_1 _) ho hc (fun E hE => ?_) hQ
  show wpAny _ _ (field (.ref it) 0 >>= _) _ _ s
  refine wpAny_bind (wpAny_field ho hd (x := .ref l) rfl ?_)
  show wpAny _ _ (if (Value.ref l == Value.none) = true then _ else _) _ _ s
  rw [if_neg (show ¬ ((Value.ref l == Value.none) = true) from Bool.false_ne_true)]
  show wpAny _ _ (field (.ref it) 1 >>= _) _ _ s
  refine wpAny_bind (wpAny_field ho hd (x := .int i 0) rfl ?_)
  show wpAny _ _ (seqItems? (.ref l) >>= _) _ _ s
  refine wpAny_bind (wpAny_seqItems hol hdl ?_)
  simp only [Int.toNat_natCast, hx]
  refine wpAny_bind (wpAny_rule (wpAny_bind (wpAny_setField ho hd (by simp) ?_)))
  have hu := upd_keep (f := Obj.mapFields fun x => x.setIfInBounds 0 Value.none) ho (mapFields_alive hd)
  exact stop_so hh fun h' e o' hk he hc => hE _ e o' (fun b x hb e => hk b x (hu.1 b x hb e)) (let ⟨z, hz⟩ := hu.2; ⟨z, hk _ _ hz⟩) he hc

theorem range_done {it : Addr} {x left step : Int} {Q : Option Value → Shared → Prop} (hh : A.handled = none) (hit : IsRangeIter s.heap it x left step) (hleft : left ≤ 0)
    (hQ : ∀ h', (∀ b x, b ≠ it → s.heap.get? b = some x → h'.get? b = some x) → Is h' it → Q none { s with heap := h' }) : wpAny (model prog w) A (pyNext (.ref it)) Q E s := by
  refine done_of F.slot_range_iterator_next F.entry_range_iterator_next (F.args_range_iterator_next_1 _) hit rfl (fun E hE => ?_) hQ
  show wpAny _ _ (field (.ref it) 0 >>= _) _ _ s
  refine wpAny_bind (wpAny_field hit rfl (x := rawInt x) rfl ?_)
  show wpAny _ _ (field (.ref it) 1 >>= _) _ _ s
  refine wpAny_bind (wpAny_field hit rfl (x := rawInt left) rfl ?_)
  show wpAny _ _ (field (.ref it) 2 >>= _) _ _ s
  refine wpAny_bind (wpAny_field hit rfl (x := rawInt step) rfl ?_)
  show wpAny _ _ (if left ≤ 0 then _ else _) _ _ s
  rw [if_pos hleft]
  refine wpAny_bind (wpAny_rule ?_)
  refine wpAny_bind ?_
  exact stop_so hh fun h' e o' hk he hc => hE _ e o' (fun b x hb e => hk b x e) ⟨_, hk _ _ hit⟩ he hc
end

noncomputable abbrev Mo (c : Cx) : Model := model PySem.Challenge.pw_iy0017_01 c.w

structure Kind (c : Cx) (I : Addr) (ds : List D) (own : Nat → Heap → Prop) (sp : (Addr → Prop) → Heap → Prop) : Prop where
  obj : ∀ i h, own i h → ∃ o nm, h.get? I = some o ∧ o.cls = .type nm ∧ ¬ Frozen o ∧ ["enumerate", "zip", "dict_itemiterator", "dict_reverseitemiterator", "odict_iterator", "itertools.zip_longest", "itertools.pairwise"].contains nm = false
  own_at : ∀ i h h', own i h → (∀ o, h.get? I = some o → h'.get? I = some o) → own i h'
  sp_tr : ∀ X W G s s', Iv c s → Tr c X W G s s' → sp X s.heap → sp X s'.heap
  sp_ext : ∀ X X' s, Ext X s X' → sp X s.heap → sp X' s.heap
  item : ∀ X i A s (Q : Option Value → Shared → Prop) (E : Value → Shared → Prop) d, A.handled = none → own i s.heap → sp X s.heap → ds[i]? = some d →
    (∀ v h' tk, (∀ b o, b ≠ I → s.heap.get? b = some o → h'.get? b = some o) → Rep c X s.heap v d → own (i + 1) h' → Q (some v) { s with heap := h', toks := tk }) → wpAny (Mo c) A (pyNext (.ref I)) Q E s
  done : ∀ X i A s (Q : Option Value → Shared → Prop) (E : Value → Shared → Prop), A.handled = none → own i s.heap → sp X s.heap → i = ds.length →
    (∀ h', (∀ b o, b ≠ I → s.heap.get? b = some o → h'.get? b = some o) → Is h' I → Q none { s with heap := h' }) → wpAny (Mo c) A (pyNext (.ref I)) Q E s
  self : ∀ X i A s (Q : Value → Shared → Prop) (E : Value → Shared → Prop), own i s.heap → sp X s.heap → Q (.ref I) s → wpAny (Mo c) A (pyIter (.ref I)) Q E s

section
variable {c : Cx} {k : Nat} {X : Addr → Prop} {s : Shared}
theorem Tr.but {I : Addr} {W : Addr → Prop} {G : Nat → Prop} {h' : Heap} {tk : Nat} {o : Obj} (hi : Iv c s) (hW : W I) (hold : ¬ c.Old I) (ho : s.heap.get? I = some o) (hf : ¬ Frozen o) (hk : ∀ b o, b ≠ I → s.heap.get? b = some o → h'.get? b = some o) (hI : Is h' I) :
    Tr c X W G s { s with heap := h', toks := tk } where
  there := fun b ⟨x, e⟩ => by
    by_cases hb : b = I
    · exact hb ▸ hI
    · exact ⟨x, hk b x hb e⟩
  keep := fun b x e hP hw => by
    by_cases hb : b = I
    · subst hb
      rw [ho] at e; cases e
      rcases hw hW with h | h
      · exact absurd h hold
      · exact absurd h.1 hf
    · exact hk b x hb e
  tab := fun ht => ht.at (fun o e => hk _ _ (fun e => hold (e ▸ hi.lowC)) e) (fun o e => hk _ _ (fun e => hold (e ▸ hi.lowP)) e)
  gsize := Nat.le_refl _
  gkeep := fun _ _ e _ => e
  gnew := fun i x e hi _ => absurd (Array.getElem?_eq_some_iff.mp e).1 (Nat.not_lt.mpr hi)
  os := rfl

theorem Still.same {s' : Shared} {G BG : Nat → Prop} (h : s'.gens = s.gens) : Still s' (OwnG no s) BG := fun i x e ho _ => by
  rw [h] at e
  exact ho.elim (fun h => h.elim) fun h => absurd (Array.getElem?_eq_some_iff.mp e).1 (Nat.not_lt.mpr h)

theorem it_kind {I : Addr} {ds : List D} {own : Nat → Heap → Prop} {sp : (Addr → Prop) → Heap → Prop} (K : Kind c I ds own sp) (hold : ¬ c.Old I) :
    ∀ (n i : Nat) {X : Addr → Prop} {s₁ : Shared}, ds.length = i + n → Iv c s₁ → own i s₁.heap → sp X s₁.heap → It c k (.ref I) (ds.drop i) X (fun b => b = I) no s₁ := by
  intro n
  induction n with
  | zero =>
    intro i X s₁ hl hiv ho hs
    rw [List.drop_of_length_le (by omega)]
    intro X' A s Q E hx hA hi ht hQ
    have ho' := K.own_at i _ s.heap ho fun o e => ht.keep I o e (fun h => hold (h ▸ hiv.lowP)) fun h => absurd rfl h
    have hs' := K.sp_tr X' _ _ s₁ s hiv ht (K.sp_ext X X' s₁ hx hs)
    obtain ⟨o, nm, e1, e2, e3, e4⟩ := K.obj i _ ho'
    refine lift (K.done X' i A s Q E hA.1 ho' hs' (by omega) fun h' hk hI => ?_)
    exact hQ _ (Tr.but (tk := s.toks) hi.toIv rfl hold e1 e3 hk hI) (Still.same (G := no) rfl)
  | succ n ih =>
    intro i X s₁ hl hiv ho hs
    have hlt : i < ds.length := by omega
    rw [List.drop_eq_getElem_cons hlt]
    intro X' A s Q E hx hA hi ht hQ
    have ho' := K.own_at i _ s.heap ho fun o e => ht.keep I o e (fun h => hold (h ▸ hiv.lowP)) fun h => absurd rfl h
    have hs' := K.sp_tr X' _ _ s₁ s hiv ht (K.sp_ext X X' s₁ hx hs)
    obtain ⟨o, nm, e1, e2, e3, e4⟩ := K.obj i _ ho'
    refine lift (K.item X' i A s Q E ds[i] hA.1 ho' hs' (List.getElem?_eq_getElem hlt) fun v h' tk hk hr ho₂ => ?_)
    obtain ⟨o₂, nm₂, f1, f2, f3, f4⟩ := K.obj (i + 1) _ ho₂
    have t : Tr c X' (fun b => b = I) (OwnG no s) s { s with heap := h', toks := tk } := Tr.but hi.toIv rfl hold e1 e3 hk ⟨_, f1⟩
    exact hQ v _ (fun b => b = I) no t (hr.tr hi.toIv t) (letOk_of rfl f1 f2 f4) (fun b hb => ⟨.inl hb, hb ▸ ⟨_, f1⟩⟩) (fun _ h => h.elim) (Still.same (G := no) rfl)
      (ih (i + 1) (by omega) (hi.toIv.tr t) ho₂ (K.sp_tr X' _ _ s _ hi.toIv t hs'))

/-! the kinds -/
theorem kind_range (I : Addr) (a : Int) (n : Nat) : Kind c I ((List.range n).map fun i => .int (a + (i : Nat))) (fun i h => IsRangeIter h I (a + (i : Nat)) ((n : Int) - (i : Nat)) 1) (fun _ _ => True) where
  obj := fun i h st => ⟨_, _, st, rfl, fun ⟨_, _, e⟩ => (by cases e), by decide⟩
  own_at := fun i h h' st hk => hk _ st
  sp_tr := fun _ _ _ _ _ _ _ h => h
  sp_ext := fun _ _ _ _ h => h
  item := fun X i A s Q E d hh st _ hd hQ => by
    have hi : i < n := by
      have := (List.getElem?_eq_some_iff.mp hd).1
      simpa using this
    have hd' : d = .int (a + (i : Nat)) := by
      rw [List.getElem?_map, List.getElem?_range hi] at hd
      simpa using hd.symm
    subst hd'
    refine wpAny_pyNext_range_item st (by omega) fun h' hit' hs' => ?_
    refine hQ _ h' _ (fun b o hb e => hs'.extBut b o hb e) (.int _ _) ?_
    have e1 : a + ((i + 1 : Nat) : Int) = a + (i : Int) + 1 := by omega
    have e2 : (n : Int) - ((i + 1 : Nat) : Int) = (n : Int) - (i : Int) - 1 := by omega
    show IsRangeIter h' I (a + ((i + 1 : Nat) : Int)) ((n : Int) - ((i + 1 : Nat) : Int)) 1
    rw [e1, e2]; exact hit'
  done := fun X i A s Q E hh st _ hi hQ => range_done hh st (by simp at hi; omega) hQ
  self := fun X i A s Q E st _ hQ => wpAny_pyIter_rangeiter st hQ

theorem kind_list (I l : Addr) (vs : List Value) (ds : List D) (hne : l ≠ I) : Kind c I ds (fun i h => h.IsListIter I l i) (fun X h => SeqAt c X h l "list" vs ∧ RepL c X h vs ds) where
  obj := fun i h st => by
    obtain ⟨o, ho, hc, hd⟩ := st
    exact ⟨o, _, ho, hc, fun ⟨_, _, e⟩ => (by rw [hd] at e; cases e), by decide⟩
  own_at := fun i h h' st hk => st.at hk
  sp_tr := fun X W G s s' hi t h => ⟨h.1.tr hi t, h.2.tr hi t⟩
  sp_ext := fun X X' s hx h => ⟨h.1.ext hx.2, h.2.ext hx.2⟩
  item := fun X i A s Q E d hh st sp hd hQ => by
    obtain ⟨v, hv, r⟩ := sp.2.get hd
    obtain ⟨n, e⟩ := sp.1.at_
    refine wpAny_pyNext_list_item (items := vs.toArray) (x := v) st ⟨_, e, rfl, n, rfl⟩ (by simpa using hv) fun h' hit' hs' => ?_
    exact hQ v h' s.toks (fun b o hb e => hs'.extBut b o hb e) r hit'
  done := fun X i A s Q E hh st sp hi hQ => by
    obtain ⟨n, e⟩ := sp.1.at_
    exact list_done (items := vs.toArray) hh st ⟨_, e, rfl, n, rfl⟩ (by have := sp.2.length; simp; omega) hQ
  self := fun X i A s Q E st _ hQ => wpAny_pyIter_listiter st hQ

theorem kind_tuple (I l : Addr) (vs : List Value) (ds : List D) (hne : l ≠ I) : Kind c I ds (fun i h => h.IsTupleIter I l i) (fun X h => SeqAt c X h l "tuple" vs ∧ RepL c X h vs ds) where
  obj := fun i h st => by
    obtain ⟨o, ho, hc, hd⟩ := st
    exact ⟨o, _, ho, hc, fun ⟨_, _, e⟩ => (by rw [hd] at e; cases e), by decide⟩
  own_at := fun i h h' st hk => let ⟨o, ho, r⟩ := st; ⟨o, hk o ho, r⟩
  sp_tr := fun X W G s s' hi t h => ⟨h.1.tr hi t, h.2.tr hi t⟩
  sp_ext := fun X X' s hx h => ⟨h.1.ext hx.2, h.2.ext hx.2⟩
  item := fun X i A s Q E d hh st sp hd hQ => by
    obtain ⟨v, hv, r⟩ := sp.2.get hd
    obtain ⟨n, e⟩ := sp.1.at_
    refine wpAny_pyNext_tuple_item (items := vs.toArray) (x := v) st ⟨_, e, rfl, n, rfl⟩ (by simpa using hv) fun h' hit' hs' => ?_
    exact hQ v h' s.toks (fun b o hb e => hs'.extBut b o hb e) r hit'
  done := fun X i A s Q E hh st sp hi hQ => by
    obtain ⟨n, e⟩ := sp.1.at_
    exact tuple_done (items := vs.toArray) hh st ⟨_, e, rfl, n, rfl⟩ (by have := sp.2.length; simp; omega) hQ
  self := fun X i A s Q E st _ hQ => wpAny_pyIter_tupleiter st hQ
end
end Dio

namespace Dio
set_option tactic.hygienic false
open PySem PySem.W PySem.Calls PyProof.Rows
open Sem (wp)
set_option maxRecDepth 100000

/-! R. What is iterated over -/
section
variable {c : Cx} {k : Nat} {sc : Scope} {ρ : Rho}

theorem wp_call {nm : Str} {p pos : Pos} {es : List Expr} {ds : List D} {f : Value} {env : Env} {X : Addr → Prop} {A : Around} {s : Shared} {Q : Value → Shared → Prop} {E : Value → Shared → Prop} (G : Gnd c) (g : Glo c sc nm f) (hc : Callee c f) (ha : EvL c k sc ρ es ds)
    (S : EnvS sc env) (hA : okA k A) (hi : Ok c X s) (he : EnvAt c X ρ env s.heap) (h : ∀ vs s₁, Tr c X no no s s₁ → RepL c X s₁.heap vs ds → wpAny (MF c) A (call f vs []) Q E s₁) (hst : NoStar es := by intro _ _; rfl) :
    wpAny (MF c) A (eval (.Call (.Name nm p) es [] pos) env) Q E s := by
  refine wpAny_Call_NameR (g.eval G S hi.toIv ?_)
  exact callWith_of G hc (evalArgs_noStar (hst env pos) (ha env X A s pos _ E S hA hi he fun vs s₁ t₁ r₁ => ⟨(hi.tr t₁).toIv, rfl, h vs s₁ t₁ r₁⟩))

/-- a new object of its own kind is an iterator -/
theorem kind_new {I : Addr} {ds : List D} {own : Nat → Heap → Prop} {sp : (Addr → Prop) → Heap → Prop} {X : Addr → Prop} {s s₁ : Shared} (K : Kind c I ds own sp) (hi : Ok c X s) (t : Tr c X no no s s₁) (hn : ¬ Is s.heap I) (ho : own 0 s₁.heap) (hs : sp X s₁.heap)
    {Q : Value → Shared → Prop} (hQ : ∀ it s' O OG, Tr c X no no s s' → (∀ b, O b → ¬ Is s.heap b ∧ Is s'.heap b) → (∀ i, OG i → s.gens.size ≤ i ∧ i < s'.gens.size) → It c k it ds X O OG s' → Sf c it X O OG s' → Q it s') : Q (.ref I) s₁ := by
  have hold : ¬ c.Old I := fun h => hn (hi.toIv.is_old h)
  have hiv := (hi.tr t).toIv
  obtain ⟨o, nm, e1, _⟩ := K.obj 0 _ ho
  refine hQ _ s₁ (fun b => b = I) no t (fun b hb => hb ▸ ⟨hn, ⟨_, e1⟩⟩) (fun _ h => h.elim) ?_ fun X' A s' Q E hx hi' ht hQ => ?_
  · have := it_kind (k := k) K hold ds.length 0 (by simp) hiv ho hs
    exact this
  · exact lift (K.self X' 0 A s' Q E (K.own_at 0 _ _ ho fun o e => ht.keep I o e (fun h => hold (h ▸ hiv.lowP)) fun h => absurd rfl h) (K.sp_tr X' _ _ s₁ s' hiv ht (K.sp_ext X X' s₁ hx hs)) hQ)

noncomputable def rng (a b : Int) : List D := (List.range (b - a).toNat).map fun i => .int (a + (i : Nat))

theorem iter_range {X : Addr → Prop} {A : Around} {s₁ s₂ : Shared} {Q : Value → Shared → Prop} {E : Value → Shared → Prop} {a b : Int} {t u v : Tok} {r : Addr} {s : Shared} (hi : Ok c X s) (t₁ : Tr c X no no s s₂) (hr : IsRange s₂.heap r a b 1 t u v)
    (ha : -(2 ^ 62) ≤ a ∧ a < 2 ^ 62) (hb : -(2 ^ 62) ≤ b ∧ b < 2 ^ 62)
    (hQ : ∀ it s' O OG, Tr c X no no s s' → (∀ b, O b → ¬ Is s.heap b ∧ Is s'.heap b) → (∀ i, OG i → s.gens.size ≤ i ∧ i < s'.gens.size) → It c k it (rng a b) X O OG s' → Sf c it X O OG s' → Q it s') : wpAny (MF c) A (pyIter (.ref r)) Q E s₂ := by
  refine lift (wpAny_pyIter_range hr (small_one ha.1 ha.2 hb.1 hb.2) ?_)
  have hi₂ := hi.tr t₁
  have t₂ := t₁.seq (Tr.push (t := s₂.toks) (o := { cls := .type "range_iterator", data := .fields #[rawInt a, rawInt (Builtin.Range.rangeSize a b 1), rawInt 1] }) (c := c) (X := X) (W := no) (G := no) (s := s₂))
  refine kind_new (kind_range s₂.heap.objs.size a (b - a).toNat) hi t₂ (fun h => not_is_size _ (t₁.there _ h)) ?_ trivial hQ
  show IsRangeIter _ _ (a + ((0 : Nat) : Int)) (((b - a).toNat : Int) - ((0 : Nat) : Int)) 1
  have h1 : Builtin.Range.rangeSize a b 1 = (((b - a).toNat : Int) - ((0 : Nat) : Int)) := by rw [rangeSize_one]; split <;> omega
  have h2 : a + ((0 : Nat) : Int) = a := by omega
  rw [h2, ← h1]
  exact Heap.get?_push_size _ rfl

theorem EvI.range2 {p pos : Pos} {e₁ e₂ : Expr} {a b : Int} (G : Gnd c) (g : Glo c sc "range" (.type "range")) (h₁ : EvL c k sc ρ [e₁, e₂] [.int a, .int b]) (ha : -(2 ^ 62) ≤ a ∧ a < 2 ^ 62) (hb : -(2 ^ 62) ≤ b ∧ b < 2 ^ 62)
    (hst : NoStar [e₁, e₂] := by intro _ _; rfl) : EvI c k sc ρ (.Call (.Name "range" p) [e₁, e₂] [] pos) (rng a b) :=
  fun env X A s Q E S hA hi he hQ => by
    refine wp_call G g (.type _) h₁ S hA hi he (fun vs s₁ t₁ r₁ => ?_) hst
    cases r₁ with
    | cons r₁ rs =>
      cases rs with
      | cons r₂ rs =>
        cases rs
        cases r₁ with
        | int _ t => cases r₂ with
          | int _ u =>
            refine lift (PySem.call_range_2 ?_)
            exact iter_range (s₁ := s₁) hi (t₁.seq Tr.push) (IsRange.new _ _ _ _ _ _ _) ha hb hQ

theorem EvI.range1 {p pos : Pos} {e₂ : Expr} {b : Int} (G : Gnd c) (g : Glo c sc "range" (.type "range")) (h₁ : EvL c k sc ρ [e₂] [.int b]) (hb : -(2 ^ 62) ≤ b ∧ b < 2 ^ 62)
    (hst : NoStar [e₂] := by intro _ _; rfl) : EvI c k sc ρ (.Call (.Name "range" p) [e₂] [] pos) (rng 0 b) :=
  fun env X A s Q E S hA hi he hQ => by
    refine wp_call G g (.type _) h₁ S hA hi he (fun vs s₁ t₁ r₁ => ?_) hst
    cases r₁ with
    | cons r₂ rs =>
      cases rs
      cases r₂ with
      | int _ u =>
        refine lift (PySem.call_range_1 ?_)
        exact iter_range (s₁ := s₁) hi (t₁.seq Tr.push) (IsRange.new _ _ _ _ _ _ _) ⟨by decide, by decide⟩ hb hQ

theorem iter_val {X : Addr → Prop} {A : Around} {s₂ s : Shared} {Q : Value → Shared → Prop} {E : Value → Shared → Prop} {v : Value} {d : D} {l : List D} (hi : Ok c X s) (t₁ : Tr c X no no s s₂) (hr : Rep c X s₂.heap v d) (hd : d = .tup l ∨ d = .list l)
    (hQ : ∀ it s' O OG, Tr c X no no s s' → (∀ b, O b → ¬ Is s.heap b ∧ Is s'.heap b) → (∀ i, OG i → s.gens.size ≤ i ∧ i < s'.gens.size) → It c k it l X O OG s' → Sf c it X O OG s' → Q it s') : wpAny (MF c) A (pyIter v) Q E s₂ := by
  have hi₂ := hi.tr t₁
  rcases hd with rfl | rfl
  · cases hr with
    | @tup a vs _ ha hl =>
      obtain ⟨n, e⟩ := ha.at_
      refine lift (wpAny_pyIter_tuple (items := vs.toArray) ⟨_, e, rfl, n, rfl⟩ ?_)
      have t₂ : Tr c X no no s₂ { s₂ with heap := s₂.heap.push { cls := .type "tuple_iterator", data := .fields #[.ref a, .int 0 0] } } := Tr.push (t := s₂.toks)
      have hne : a ≠ s₂.heap.objs.size := Nat.ne_of_lt (Heap.lt_size e)
      refine kind_new (kind_tuple s₂.heap.objs.size a vs l hne) hi (t₁.seq t₂) (fun h => not_is_size _ (t₁.there _ h)) ?_ ⟨ha.tr hi₂.toIv t₂, hl.tr hi₂.toIv t₂⟩ hQ
      exact ⟨_, Heap.get?_push_size _ rfl, rfl, rfl⟩
  · cases hr with
    | @list a vs _ ha hl =>
      obtain ⟨n, e⟩ := ha.at_
      refine lift (wpAny_pyIter_list (items := vs.toArray) ⟨_, e, rfl, n, rfl⟩ ?_)
      have t₂ : Tr c X no no s₂ { s₂ with heap := s₂.heap.push { cls := .type "list_iterator", data := .fields #[.ref a, .int 0 0] } } := Tr.push (t := s₂.toks)
      have hne : a ≠ s₂.heap.objs.size := Nat.ne_of_lt (Heap.lt_size e)
      refine kind_new (kind_list s₂.heap.objs.size a vs l hne) hi (t₁.seq t₂) (fun h => not_is_size _ (t₁.there _ h)) ?_ ⟨ha.tr hi₂.toIv t₂, hl.tr hi₂.toIv t₂⟩ hQ
      exact ⟨_, Heap.get?_push_size _ rfl, rfl, rfl⟩

theorem EvI.val {e : Expr} {d : D} {l : List D} (h : Ev c k sc ρ e d) (hd : d = .tup l ∨ d = .list l) : EvI c k sc ρ e l :=
  fun env X A s Q E S hA hi he hQ => h env X A s _ E S hA hi he fun v s₁ t₁ r₁ => iter_val hi t₁ r₁ hd hQ

/-! generators -/
theorem pyIter_gen {A : Around} {s : Shared} {Q : Value → Shared → Prop} {E : Value → Shared → Prop} {a : Addr} {g : Nat} (hg : GenAt s.heap a g) (h : Q (.ref a) s) : wpAny (MF c) A (pyIter (.ref a)) Q E s := by
  refine wpAny_pyIter_slot hg.typeIs slot_gen_iter (callF_entry (by decide) slot_gen_iter hg.typeIs entry_gen_iter ?_ (args_gen_iter _))
  show wpAny _ _ (ret (.ref a)) _ _ s
  exact wpAny_pure ⟨_, rfl, "generator", _, hg.typeIs, slot_gen_next.lookup, h⟩

theorem Src.it {v : Value} {ds : List D} {X O : Addr → Prop} {OG : Nat → Prop} {s : Shared} (G : Gnd c) (hi : Iv c s) (h : Src c k false v ds X O OG s) :
    ∃ a g, v = .ref a ∧ GenAt s.heap a g ∧ It c (k + 1) v ds X (fun b => O b ∨ b = a) (fun i => OG i ∨ i = g) s ∧ Sf c v X (fun b => O b ∨ b = a) (fun i => OG i ∨ i = g) s ∧ (∀ b, O b → Is s.heap b) ∧ (∀ i, OG i → i < s.gens.size) ∧ g < s.gens.size := by
  obtain ⟨a, g, rfl, hg, hO, hold, hs⟩ := h
  refine ⟨a, g, rfl, hg, it_gen G hg hO hold hi hs, fun X' A s' Q E hx hi' ht hQ => ?_, hs.is, hs.ig, hs.lt⟩
  exact pyIter_gen (hg.at fun o e => ht.keep a o e (fun h => hold (h ▸ hi.lowP)) fun h => absurd (.inr rfl) h) hQ

theorem iter_src {X : Addr → Prop} {A : Around} {s₂ s : Shared} {Q : Value → Shared → Prop} {E : Value → Shared → Prop} {v : Value} {ds : List D} {O : Addr → Prop} {OG : Nat → Prop} (G : Gnd c) (hi : Ok c X s) (t₁ : Tr c X no no s s₂) (hO : ∀ b, O b ∨ v = .ref b → ¬ Is s.heap b ∧ Is s₂.heap b) (hOG : ∀ i, OG i → s.gens.size ≤ i)
    (hg : ∀ a g, v = .ref a → GenAt s₂.heap a g → s.gens.size ≤ g) (hs : Src c k false v ds X O OG s₂)
    (hQ : ∀ it s' O OG, Tr c X no no s s' → (∀ b, O b → ¬ Is s.heap b ∧ Is s'.heap b) → (∀ i, OG i → s.gens.size ≤ i ∧ i < s'.gens.size) → It c (k + 1) it ds X O OG s' → Sf c it X O OG s' → Q it s') : wpAny (MF c) A (pyIter v) Q E s₂ := by
  obtain ⟨a, g, rfl, hgen, hit, hsf, h1, h2, h3⟩ := hs.it G (hi.tr t₁).toIv
  refine pyIter_gen hgen (hQ _ _ _ _ t₁ (fun b hb => hO b (hb.imp id fun (h : b = a) => by rw [h])) (fun i hi => ?_) hit hsf)
  rcases hi with hi | rfl
  · exact ⟨hOG i hi, h2 i hi⟩
  · exact ⟨hg a i rfl hgen, h3⟩

theorem EvI.gen {nm : Str} {p pos : Pos} {es : List Expr} {as ys : List D} {f : Value} (G : Gnd c) (g : Glo c sc nm f) (hc : Callee c f) (ha : EvL c (k + 1) sc ρ es as) (h : GenOk c k false f as ys) (hst : NoStar es := by intro _ _; rfl) :
    EvI c (k + 1) sc ρ (.Call (.Name nm p) es [] pos) ys := fun env X A s Q E S hA hi he hQ => by
  refine wp_call G g hc ha S hA hi he (fun vs s₁ t₁ r₁ => ?_) hst
  refine h X A s₁ vs _ E (hA.less (by omega)) (hi.tr t₁) r₁ fun v s₂ O OG t₂ hO hOG hg hs => ?_
  exact iter_src G hi (t₁.seq t₂) (fun b hb => ⟨fun h => (hO b hb).1 (t₁.there b h), (hO b hb).2⟩) (fun i hi => Nat.le_trans t₁.gsize (hOG i hi)) (fun a g ha hg' => Nat.le_trans t₁.gsize (hg a g ha hg')) hs hQ
end
end Dio

namespace Dio
set_option tactic.hygienic false
open PySem PySem.W PySem.Calls PyProof.Rows
open Sem (wp)
set_option maxRecDepth 100000

/-! S. yield from a generator -/
noncomputable def cnt (o : Obj) : Int := match (o.slots[0]? : Option (Option Value)) with
  | some (some (Value.int n _)) => n
  | _ => 0
noncomputable def GenN (h : Heap) (a : Addr) (g : Nat) (n : Int) : Prop :=
  ∃ o nm qn, h.get? a = some o ∧ o.cls = .type "generator" ∧ o.data = .fields #[.int g 0, nm, qn] ∧ cnt o = n
theorem GenN.at {h h' : Heap} {a : Addr} {g : Nat} {n : Int} (x : GenN h a g n) (hk : ∀ o, h.get? a = some o → h'.get? a = some o) : GenN h' a g n :=
  let ⟨o, nm, qn, ho, r⟩ := x; ⟨o, nm, qn, hk o ho, r⟩
set_option tactic.hygienic true in
theorem GenAt.n {h : Heap} {a : Addr} {g : Nat} (x : GenAt h a g) : ∃ n, n ≤ 0 ∧ GenN h a g n := by
  obtain ⟨o, nm, qn, ho, hc, hd, hs⟩ := x
  refine ⟨cnt o, ?_, o, nm, qn, ho, hc, hd, rfl⟩
  unfold cnt
  split
  · rename_i n t e; exact hs n t e
  · exact Int.le_refl _
theorem GenN.gen {h : Heap} {a : Addr} {g : Nat} {n : Int} (x : GenN h a g n) (hn : n ≤ 0) : GenAt h a g := by
  obtain ⟨o, nm, qn, ho, hc, hd, hs⟩ := x
  refine ⟨o, nm, qn, ho, hc, hd, fun m t e => ?_⟩
  unfold cnt at hs
  rw [e] at hs
  have : m = n := hs
  omega
theorem slot0 (o : Obj) (v : Option Value) : (slotF v o).slots[0]? = some v := by
  show ((o.slots ++ Array.replicate (0 + 1 - o.slots.size) none).setIfInBounds 0 v)[0]? = some v
  rw [Array.getElem?_setIfInBounds_self_of_lt]
  simp
  omega
theorem cnt_slotF (o : Obj) (n : Int) : cnt (slotF (some (rawInt n)) o) = n := by
  unfold cnt; rw [slot0]; rfl
theorem slotF_free {o : Obj} {v : Option Value} (h : o.isFreed = false) : (slotF v o).isFreed = false := by
  obtain ⟨c, d, dt, sl⟩ := o
  cases dt <;> exact h

set_option tactic.hygienic true in
theorem isFreed_of {h : Heap} {a : Addr} {o : Obj} (e : h.get? a = some o) : o.isFreed = false := by
  unfold Heap.get? at e
  split at e
  · cases e
  · rename_i x hx
    cases ho : o.isFreed with
    | false => rfl
    | true =>
      exfalso
      obtain ⟨c, d, dt, sl⟩ := o
      cases dt <;> first | (simp [Obj.isFreed] at ho; done) | exact hx _ _ _ e

theorem GenN.slot {h : Heap} {a : Addr} {g : Nat} {n : Int} (x : GenN h a g n) (m : Int) : GenN (h.update a (slotF (some (rawInt m)))) a g m := by
  obtain ⟨o, nm, qn, ho, hc, hd, hs⟩ := x
  exact ⟨_, nm, qn, Heap.get?_update_self _ ho (slotF_free (isFreed_of ho)), hc, hd, cnt_slotF o m⟩

theorem wp_sleptOver {M : Model} {A : Around} {E : Value → Shared → Prop} {s : Shared} {a : Addr} {g : Nat} {n : Int} (more : Bool) {Q : Unit → Shared → Prop} (hg : GenN s.heap a g n)
    (h : Q () { s with heap := s.heap.update a (slotF (some (rawInt (if more then n + 1 else n - 1)))) }) : wpAny M A (Builtin.Generator.sleptOver (.ref a) more) Q E s := by
  obtain ⟨o, nm, qn, ho, hc, hd, hs⟩ := hg
  unfold Builtin.Generator.sleptOver
  refine wpAny_bind (wpAny_load ho ?_)
  rw [hc]
  show wpAny M A (setSlotAt a 0 (some (rawInt (if more then cnt o + 1 else cnt o - 1)))) Q E s
  rw [hs, setSlot_eq]
  show wpAny M A (updatePart a (some (slotPart 0)) (slotF _)) Q E s
  exact wpAny_updatePart ho h

theorem close_some : ∃ v, typeLookup (.type "generator") "close" = pure (some v) := ⟨.builtin "generator.close", by rw [typeLookup_type, builtinLookup_eq_fast]; kernel_rfl⟩
theorem lookup_stop_sub : isSubtype (.type "StopIteration") (.type "StopIteration") = pure true := isSubtype_stop

section
variable {c : Cx} {k kk : Nat} {boom : Bool} {ds : List D} {X O : Addr → Prop} {OG : Nat → Prop} {s₀ s : Shared} {cd : Code} {fs : List Frame}

theorem segz_tree {t : Sem Fin} (h : wpAny (MF c) ((Ak kk).over cd fs) t (fun fin s' => SegZ c kk boom ds X O OG s₀ cd (.pure fin) fs s') (fun x s' => SegZ c kk boom ds X O OG s₀ cd (.raise x) fs s') s) : SegZ c kk boom ds X O OG s₀ cd t fs s := by
  have e : t = t.wrap .pure .raise id id := by rw [← Sem.bind_eq_wrap]; exact (bind_pure t).symm
  rw [e]
  exact segz_wrap h

theorem Tr.slot {a : Addr} {g : Nat} {n m : Int} {W : Addr → Prop} {G : Nat → Prop} (hi : Iv c s) (hg : GenN s.heap a g n) (hW : W a) (hold : ¬ c.Old a) : Tr c X W G s { s with heap := s.heap.update a (slotF (some (rawInt m))) } := by
  have hg' := hg.slot m
  obtain ⟨o', _, _, ho', _⟩ := hg'
  obtain ⟨o, nm, qn, ho, hc, hd, hs⟩ := hg
  have t : Tr c X W no s { s with heap := s.heap.update a (slotF (some (rawInt m))) } := Tr.same (t := s.toks) hi (Heap.SameBut.update ..) hW hold ⟨_, ho'⟩ fun o₂ e ⟨vs, n, hf⟩ => by
    rw [ho] at e; cases e
    rw [hd] at hf; cases hf
  exact t.mono (fun _ _ h => h) fun _ h => h.elim

theorem FsOk.push1 {cd c' : Code} {fs : List Frame} (h : FsOk (k + 1) kk cd fs) {K : Result → Sem Fin} {l : List Value} {p : Pos} {kp : List Value} (hw : c'.weight = 0) (hu : c'.cUnits = 1) : FsOk k kk c' (.ret K none false l cd p kp :: fs) := by
  refine ⟨?_, ?_, h.ok.1, ?_, ?_⟩
  · show (splitAtGen fs).map _ = none
    rw [h.split]; rfl
  · show (false || fs.any Frame.guarded) = false
    rw [h.guards]; rfl
  · have := h.ok.2.1
    simp only [Around.over, List.map_cons, Frame.where_, frameCount_cons] at this ⊢
    omega
  · have := h.ok.2.2
    simp only [Around.over, List.map_cons, Frame.where_, unitsOf_cons] at this ⊢
    omega

theorem Now.write {X O : Addr → Prop} {OG : Nat → Prop} {B : Addr → Prop} {BG : Nat → Prop} {s₀ s s₁ : Shared} {W : Addr → Prop} (n : Now c X O OG B BG s₀ s) (hW : ∀ b, Is s.heap b → W b → Own O s₀ b) (t : Tr c X W no s s₁) : Now c X O OG B BG s₀ s₁ where
  ok := n.ok.tr t
  tr := n.tr.trans t (fun b hb ho => (hW b (n.tr.there b hb) ho).elim id fun h => absurd hb h) (fun _ _ h => h.elim) fun i hi _ => .inr hi
  still := n.still.step t
  b := fun b hb => ⟨(n.b b hb).1, t.there b (n.b b hb).2⟩
  bg := fun i hi => ⟨(n.bg i hi).1, Nat.lt_of_lt_of_le (n.bg i hi).2 t.gsize⟩

noncomputable abbrev yfCode (a : Addr) : Code := .builtin "proto.yield_from" ⟨[.ref a, .bool false, .none], []⟩
theorem yf_den (a : Addr) : denF (yfCode a) = yfOne yfTail' a := by
  show (if "proto.yield_from" = "proto.yield_from" then yfOne yfTail' a else denote table (yfCode a)) = _
  rw [if_pos rfl]

theorem yf_loop {B : Addr → Prop} {BG : Nat → Prop} {s : Shared} {env : Env} {a : Addr} {g : Nat} {FS : List Frame} {ρ : Rho} (G : Gnd c) (F : FsOk (k + 1) kk (yfCode a) FS) (hold : ¬ c.Old a)
    (hend : ∀ X' O' OG' s₀' s', Aft c X B BG s env X' O' OG' s₀' s' → EnvAt c X' ρ env s'.heap → SegZ c kk boom ds X' O' OG' s₀' (yfCode a) (leafOf (.ok (.ret .none))) FS s') :
    ∀ (zs : List D) (Xe X' O' : Addr → Prop) (OG' : Nat → Prop) (O₁ : Addr → Prop) (OG₁ : Nat → Prop) (s₀' se s' : Shared), Now c X' O' OG' (fun b => B b ∨ (O₁ b ∨ b = a)) (fun j => BG j ∨ (OG₁ j ∨ j = g)) s₀' s' → Ext X s X' → Tr c X' (fun b => ¬ B b) (fun j => ¬ BG j) s s' →
      HOwn O' B s₀' s' env → (∀ b, O₁ b ∨ b = a → ¬ own env b ∧ ¬ B b) → (∀ j, OG₁ j ∨ j = g → ¬ BG j) → GenAt s'.heap a g → ¬ O₁ a → GS c k false g zs Xe O₁ OG₁ se → Ext Xe se X' → Tr c X' (fun b => ¬ O₁ b) (fun j => ¬ (OG₁ j ∨ j = g)) se s' → EnvAt c X' ρ env s'.heap →
      SegZ c kk boom (zs ++ ds) X' O' OG' s₀' (yfCode a) (denF (yfCode a)) FS s' := by
  intro zs
  induction zs with
  | nil =>
    intro Xe X' O' OG' O₁ OG₁ s₀' se s' n hx t hown hno hng hgen hO hs hxe te he
    rw [yf_den]
    unfold yfOne
    refine segz_bind (wpAny_attempt ?_)
    unfold yfStep
    refine wpAny_holding (wpAny_bind (wpAny_rule (wpAny_bind (wpAny_callSpecial?_slot (name := Str.ofString "__next__") hgen.typeIs slot_gen_next
      (gen_call G F.ok n.ok hgen hO hold hs hxe te fun s₂ t₂ st₂ e tt hne hE => ?_)))))
    show SegZ c kk boom _ X' O' OG' s₀' (yfCode a) (yfErr (.ref e)) FS s₂
    have hte : s₂.TypeIs (.ref e) "StopIteration" := ⟨_, hE, rfl⟩
    refine segz_tree ?_
    unfold yfErr Builtin.Generator.endsTheTurnAsAValue Builtin.Generator.isStopAndMetaclass
    refine wpAny_bind (wpAny_bind (wpAny_bind (wpAny_typeOf hte (wpAny_bind (wpAny_of_eq lookup_stop_sub (wpAny_bind (wpAny_typeOf (T := "type") (by rfl) (wpAny_pure ?_))))))))
    refine wpAny_pure ?_
    refine wpAny_bind (wpAny_rule (wpAny_bind (wpAny_field hE rfl (x := .none) rfl (wpAny_bind (wpAny_pure (wpAny_pure ?_))))))
    have n₂ := n.next (O₂ := fun _ => False) (OG₂ := no) (t₂.mono (fun _ _ h => .inl h) fun _ h => h) st₂ (fun _ h => h.elim) (fun _ h => h.elim)
    have hdg : ∀ j, OwnG (fun j => OG₁ j ∨ j = g) s' j → ¬ BG j := fun j h hB => h.elim (fun h => hng j h hB) fun h => absurd (n.bg j (.inl hB)).2 (Nat.not_lt.mpr h)
    refine hend X' O' OG' s₀' s₂ ⟨⟨n₂.ok, n₂.tr, fun j x e ho hb => n₂.still j x e ho fun h => h.elim hb id, fun b hb => n₂.b b (.inl hb), fun j hj => n₂.bg j (.inl hj)⟩, hx, ?_, fun b hb => (hown b hb).1⟩ ?_
    · exact t.trans t₂ (fun x hi ho => (hno x (.inl ho)).2) (fun j hj ho => hdg j ho) fun j hj ho => ho.elim id (hdg j)
    · exact he.tr n.ok.toIv t₂ fun b hb ho => (hno b (.inl ho)).1 hb
  | cons d zs ih =>
    intro Xe X' O' OG' O₁ OG₁ s₀' se s' n hx t hown hno hng hgen hO hs hxe te he
    rw [yf_den]
    unfold yfOne
    refine segz_bind (wpAny_attempt ?_)
    unfold yfStep
    refine wpAny_holding (wpAny_bind (wpAny_rule (wpAny_bind (wpAny_callSpecial?_slot (name := Str.ofString "__next__") hgen.typeIs slot_gen_next
      (gen_call G F.ok n.ok hgen hO hold hs hxe te fun y s₂ O₂ OG₂ t₂ r₂ h1 h2 st₂ hs₂ => ?_)))))
    refine wpAny_pure ?_
    show SegZ c kk boom _ X' O' OG' s₀' (yfCode a) (yfOk (yfTail' a y) a) FS s₂
    have n₂ := n.next (O₂ := fun b => O₂ b ∨ b = a) (OG₂ := fun j => OG₂ j ∨ j = g) (t₂.mono (fun _ _ h => .inl h) fun _ h => h) st₂
      (fun b hb => hb.elim (fun hb => ⟨(h1 b hb).1.imp .inl id, (h1 b hb).2⟩) fun (hb : b = a) => by subst hb; exact ⟨.inl (.inr rfl), t₂.there _ hgen.is⟩)
      (fun j hj => hj.elim (fun hj => ⟨(h2 j hj).1.imp .inl id, (h2 j hj).2⟩) fun (hj : j = g) => by subst hj; exact ⟨.inl (.inr rfl), hs₂.lt⟩)
    have hdg : ∀ j, OwnG (fun j => OG₁ j ∨ j = g) s' j → ¬ BG j := fun j h hB => h.elim (fun h => hng j h hB) fun h => absurd (n.bg j (.inl hB)).2 (Nat.not_lt.mpr h)
    have t₂' : Tr c X' (fun b => ¬ B b) (fun j => ¬ BG j) s s₂ := t.trans t₂ (fun x hi ho => (hno x (.inl ho)).2) (fun j hj ho => hdg j ho) fun j hj ho => ho.elim id (hdg j)
    have he₂ := he.tr n.ok.toIv t₂ fun b hb ho => (hno b (.inl ho)).1 hb
    have hno₂ : ∀ b, O₂ b ∨ b = a → ¬ own env b ∧ ¬ B b := fun b hb => hb.elim (fun hb => (h1 b hb).1.elim (fun h => hno b (.inl h)) fun h => ⟨fun ho => h (hown b ho).2.1, fun hB => h (n.b b (.inl hB)).2⟩) fun hb => hno b (.inr hb)
    have hng₂ : ∀ j, OG₂ j ∨ j = g → ¬ BG j := fun j hj => hj.elim (fun hj => hdg j ((h2 j hj).1.imp .inl id)) fun hj => hng j (.inr hj)
    have hown₂ : HOwn O' (fun b => B b ∨ (O₂ b ∨ b = a)) s₀' s₂ env := fun b hb => ⟨(hown b hb).1, t₂.there b (hown b hb).2.1, fun h => h.elim (hown b hb).2.2 fun h => (hno₂ b h).1 hb⟩
    have hgen₂ : GenAt s₂.heap a g := hgen.at fun o e => t₂.keep a o e (fun h => hold (h ▸ n.ok.lowP)) fun h => absurd h hO
    have hO₂ : ¬ O₂ a := fun h => (h1 a h).1.elim hO fun h => h hgen.is
    obtain ⟨m, hm, hgn⟩ := hgen₂.n
    unfold yfOk
    refine segz_bind (wpAny_typeOf hgen₂.typeIs ?_)
    obtain ⟨cv, hcv⟩ := close_some
    show SegZ c kk boom _ X' O' OG' s₀' (yfCode a) (typeLookup (.type "generator") "close" >>= fun z => yfTail' a y z.isNone) FS s₂
    rw [hcv]
    show SegZ c kk boom _ X' O' OG' s₀' (yfCode a) (yfTail' a y false) FS s₂
    obtain ⟨o, nm, qn, ho, hc, hd, hcn⟩ := id hgn
    refine segz_wrap (m := load a) (K := fun o => if good o then (yfSleep a o).bind fun _ => .yield y false [] (yfBack a) else (yfSleep a o).bind fun _ => .yield y (!false) [] (yfBack a)) (H := .raise) (gd := id) (lv := id) (wpAny_load ho ?_)
    have hgood : good o = true := by unfold good Obj.genNumber?; rw [hc, hd]; rfl
    have hsl : yfSleep a o = .update a (some (slotPart 0)) (slotF (some (rawInt (m + 1)))) .pure := by
      unfold yfSleep
      rw [if_neg (by rw [hc]; decide), ← hcn]
      exact setSlot_eq _ _
    rw [if_pos hgood, hsl]
    refine segz_wrap (m := updatePart a (some (slotPart 0)) (slotF (some (rawInt (m + 1))))) (H := .raise) (gd := id) (lv := id) (wpAny_updatePart ho ?_)
    have hown_a : Own O' s₀' a := (n.b a (.inr (.inr rfl))).1
    have t₃ : Tr c X' (fun b => b = a) no s₂ { s₂ with heap := s₂.heap.update a (slotF (some (rawInt (m + 1)))) } := Tr.slot n₂.ok.toIv hgn rfl hold
    have n₃ := n₂.write (fun b _ (hb : b = a) => by rw [hb]; exact hown_a) t₃
    have hgn₃ : GenN (s₂.heap.update a (slotF (some (rawInt (m + 1))))) a g (m + 1) := hgn.slot (m + 1)
    have he₃ := he₂.tr n₂.ok.toIv t₃ fun b hb h => (hno₂ b (.inr h)).1 hb
    have hown₃ : HOwn O' (fun b => B b ∨ (O₂ b ∨ b = a)) s₀' { s₂ with heap := s₂.heap.update a (slotF (some (rawInt (m + 1)))) } env := fun b hb => ⟨(hown₂ b hb).1, t₃.there b (hown₂ b hb).2.1, (hown₂ b hb).2.2⟩
    have r₃ := r₂.tr n₂.ok.toIv t₃
    generalize hs₃ : ({ s₂ with heap := s₂.heap.update a (slotF (some (rawInt (m + 1)))) } : Shared) = s₃ at t₃ n₃ he₃ hown₃ r₃ ⊢
    have hgn₃ : GenN s₃.heap a g (m + 1) := by rw [← hs₃]; exact hgn₃
    refine segz_yield F.split rfl F.guards n₃.tr r₃ fun X'' s₄ hx₄ hi₄ t₄ => ?_
    have a₄ := Aft.woken n₃ hown₃ hx₄ hi₄ t₄
    have he₄ : EnvAt c X'' ρ env s₄.heap := (he₃.ext hx₄.2).tr n₃.ok.toIv t₄ fun b hb h => h ⟨(hown₃ b hb).1, (hown₃ b hb).2.1⟩
    have ha₃ : Own O' s₀' a ∧ Is s₃.heap a := n₃.b a (.inr (.inr rfl))
    have hgn₄ : GenN s₄.heap a g (m + 1) := hgn₃.at fun o e => t₄.keep a o e (fun h => hold (h ▸ n₃.ok.lowP)) fun h => absurd ha₃ h
    unfold yfBack
    refine segz_bind (wp_sleptOver false hgn₄ ?_)
    refine segz_again (c' := yfCode a) (plainId_quiet (by decide +kernel) _) ?_
    have t₅ : Tr c X'' (fun b => b = a) no s₄ { s₄ with heap := s₄.heap.update a (slotF (some (rawInt (if false = true then m + 1 + 1 else m + 1 - 1)))) } := Tr.slot a₄.now.ok.toIv hgn₄ rfl hold
    have n₅ := a₄.now.write (fun b _ (h : b = a) => by rw [h]; exact (a₄.now.b a (.inr (.inr rfl))).1) t₅
    have hgn₅ := hgn₄.slot (if false = true then m + 1 + 1 else m + 1 - 1)
    have he₅ := he₄.tr a₄.now.ok.toIv t₅ fun b hb h => (hno₂ b (.inr h)).1 hb
    have t₂₅ : Tr c X'' (fun b => ¬ B b) (fun j => ¬ BG j) s₂ _ := ((t₃.ext hx₄).mono (W' := fun b => ¬ B b) (G' := fun j => ¬ BG j) (fun b _ h => h ▸ (hno a (.inr rfl)).2) (fun _ h => h.elim)).then
      ((a₄.tr.mono (fun b _ h hB => h (.inl hB)) fun j h hB => h (.inl hB)).then (t₅.mono (fun b _ h => h ▸ (hno a (.inr rfl)).2) (fun _ h => h.elim)))
    have u₂₅ : Tr c X'' (fun b => ¬ O₂ b) (fun j => ¬ (OG₂ j ∨ j = g)) s₂ _ := ((t₃.ext hx₄).mono (W' := fun b => ¬ O₂ b) (G' := fun j => ¬ (OG₂ j ∨ j = g)) (fun b _ h => h ▸ hO₂) (fun _ h => h.elim)).then
      ((a₄.tr.mono (fun b _ h hB => h (.inr (.inl hB))) fun j h hB => h (.inr hB)).then (t₅.mono (fun b _ h => h ▸ hO₂) (fun _ h => h.elim)))
    refine ih X' X'' _ _ O₂ OG₂ _ s₂ _ n₅ (hx.trans hx₄ (fun b hb => t₃.there b (t₂'.there b hb))) ((t₂'.ext hx₄).then t₂₅) ?_ hno₂ hng₂ (hgn₅.gen (by simp; omega)) hO₂ hs₂ (hx₄.later t₃.there) u₂₅ he₅
    exact fun b hb => ⟨(a₄.hown hown₃ b hb).1, t₅.there b (a₄.hown hown₃ b hb).2.1, (hown b hb).2.2⟩

theorem Gz.yfrom {sc : Scope} {ρ : Rho} {nm : Str} {p pc ypos pos : Pos} {es : List Expr} {as zs ys : List D} {f : Value} {rest : List Stmt} {R : Out → Prop} (G : Gnd c) (g : Glo c sc nm f) (hc : Callee c f) (ha : EvL c (k + 2) sc ρ es as) (h : GenOk c k false f as zs)
    (hr : Gz c (k + 2) sc ρ rest ys R) (hst : NoStar es := by intro _ _; rfl) : Gz c (k + 2) sc ρ (.Expr (.YieldFrom (.Call (.Name nm p) es [] pc) ypos) pos :: rest) (zs ++ ys) R :=
  fun kk boom ds X O OG B BG s₀ s cd fs K H gd lv env S F hg n he hown hK => by
    rw [execs_cons_wrap, exec_Expr env _ pos S.sleep rfl]
    show SegZ c kk boom (zs ++ ys ++ ds) X O OG s₀ cd (.at pos fun _ => ((eval (.Call (.Name nm p) es [] pc) env >>= fun v => (standAt ypos >>= fun _ => yieldFrom env v)) >>= fun x =>
      dropValue (.YieldFrom (.Call (.Name nm p) es [] pc) ypos) pos x).wrap _ H gd lv) fs s
    refine segz_at ?_
    rw [Sem.bind_eq_wrap', Sem.bind_eq_wrap', Sem.wrap_wrap, Sem.wrap_wrap]
    refine segz_wrap (wp_call G g hc ha S F.ok n.ok he (fun vs s₁ t₁ r₁ => ?_) hst)
    refine h X _ s₁ vs _ _ (F.ok.less (by omega)) (n.ok.tr t₁) r₁ fun v s₂ O₁ OG₁ t₂ hO hOG hgz hs => ?_
    have t := t₁.seq t₂
    have a₂ := Aft.plain n hown t.ownL
    have he₂ := he.step n.ok t
    obtain ⟨a, gn, rfl, hgen, hOa, hold, hS⟩ := hs
    refine segz_at ?_
    show SegZ c kk boom (zs ++ ys ++ ds) X O OG s₀ cd ((typeOf (.ref a) >>= fun ty => if ty == .type "coroutine" then _ else holding [.ref a] (pyIter (.ref a)) >>= fun it => runValue (.builtin "proto.yield_from" ⟨[it, .bool false, .none], []⟩)).wrap _ _ _ _) fs s₂
    rw [Sem.bind_eq_wrap', Sem.wrap_wrap]
    refine segz_wrap (wpAny_typeOf hgen.typeIs ?_)
    rw [if_neg (by decide), Sem.bind_eq_wrap', Sem.wrap_wrap]
    refine segz_wrap (wpAny_holding (pyIter_gen hgen ?_))
    refine segz_call fun p' => ?_
    show SegZ c kk boom (zs ++ ys ++ ds) X O OG s₀ (yfCode a) (denF (yfCode a)) (.ret _ none (gd false) _ cd p' [] :: fs) s₂
    rw [hg, List.append_assoc]
    have hOn : ∀ b, O₁ b ∨ b = a → ¬ Is s.heap b ∧ Is s₂.heap b := fun b hb => ⟨fun hh => (hO b (hb.imp id fun (hb : b = a) => by rw [hb])).1 (t₁.there b hh), (hO b (hb.imp id fun (hb : b = a) => by rw [hb])).2⟩
    have hGn : ∀ j, OG₁ j ∨ j = gn → s.gens.size ≤ j ∧ j < s₂.gens.size := fun j hj => hj.elim (fun hj => ⟨Nat.le_trans t₁.gsize (hOG j hj), hS.ig j hj⟩) fun (hj : j = gn) => by subst hj; exact ⟨Nat.le_trans t₁.gsize (hgz a j rfl hgen), hS.lt⟩
    refine yf_loop (ρ := ρ) (env := env) (s := s) (B := B) (BG := BG) (X := X) G (F.push1 rfl rfl) hold (fun X' O' OG' s₀' s' a' e' => ?_) zs X X O OG O₁ OG₁ s₀ s₂ s₂ ⟨a₂.now.ok, a₂.now.tr, fun j x e ho hb => a₂.now.still j x e ho fun h => hb (.inl h), fun b hb => ?_, fun j hj => ?_⟩ a₂.ext a₂.tr (a₂.hown hown) (fun b hb => ⟨fun ho => (hOn b hb).1 (hown b ho).2.1, fun hB => (hOn b hb).1 (n.b b hB).2⟩) (fun j hj hB => absurd (n.bg j hB).2 (Nat.not_lt.mpr (hGn j hj).1)) hgen hOa hS (.refl ..) (.refl ..) he₂
    · refine segz_leaf (.ok (.ret .none)) ?_
      show SegZ c kk boom (ys ++ ds) X' O' OG' s₀' cd ((execs rest env).wrap K H gd lv) fs s'
      exact hr kk boom ds X' O' OG' B BG s₀' s' cd fs K H gd lv env S F hg a'.now e' (a'.hown hown) fun o fl X'' O'' OG'' s₀'' s'' a'' => hK o fl X'' O'' OG'' s₀'' s'' (a'.trans a'')
    · rcases hb with hb | hb
      · exact a₂.now.b b hb
      · exact ⟨.inr fun hi => (hOn b hb).1 (n.tr.there b hi), (hOn b hb).2⟩
    · rcases hj with hj | hj
      · exact a₂.now.bg j hj
      · exact ⟨.inr (Nat.le_trans n.tr.gsize (hGn j hj).1), (hGn j hj).2⟩
end
end Dio

namespace Dio
set_option tactic.hygienic false
open PySem PySem.W PySem.Calls PyProof.Rows
open Sem (wp)
set_option maxRecDepth 100000

/-! T. Tuples and lists -/
section
variable {c : Cx} {k : Nat} {sc : Scope} {ρ : Rho}

theorem line_le {n : Nat} (h : n ≤ 100000) : n ≤ sizeLine := Nat.le_trans h (by decide)

theorem Ev.tupD {es : List Expr} {j : Nat} {pos : Pos} {ds : List D} (h : EvL c k sc ρ es ds) (hl : ds.length ≤ 100000 := by simp) : Ev c k sc ρ (.Tuple es j pos) (.tup ds) :=
  fun env X A s Q E S hA hi he hQ => PySem.wpAny_Tuple (h env X A s pos _ E S hA hi he fun vs s₁ t₁ r₁ => ⟨by rw [r₁.length]; exact line_le hl, hQ _ _ (t₁.seq (Tr.push (t := s₁.toks))) (rep_push (hi.tr t₁) r₁)⟩)

theorem Ev.listD {es : List Expr} {pos : Pos} {ds : List D} (h : EvL c k sc ρ es ds) (hl : ds.length ≤ 100000 := by simp) : Ev c k sc ρ (.List es pos) (.list ds) :=
  fun env X A s Q E S hA hi he hQ => by
    show wpAny (MF c) A (do standAt pos; newList (← spliced (backTo pos (starEach es env)))) Q E s
    refine wpAny_bind (wpAny_standAt (wpAny_bind (h env X A s pos _ E S hA hi he fun vs s₁ t₁ r₁ => ?_)))
    exact wpAny_newObj_type (hQ _ _ (t₁.seq (Tr.push (t := s₁.toks))) (rep_pushL (hi.tr t₁) r₁)) (by show vs.toArray.size ≤ sizeLine; simp; rw [r₁.length]; exact line_le hl)

theorem toArray_append (a b : List Value) : a.toArray ++ b.toArray = (a ++ b).toArray := by simp

theorem Op2.addT (l m : List D) (hl : l.length + m.length ≤ 100000 := by simp) : Op2 c k (binaryOp .Add) (.tup l) (.tup m) (.tup (l ++ m)) := by
  intro X A s v₁ v₂ Q E hA hi r₁ r₂ hQ
  cases r₁ with
  | @tup a vs _ ha hv => cases r₂ with
    | @tup b ws _ hb hw =>
      obtain ⟨n, e⟩ := ha.at_
      obtain ⟨n', e'⟩ := hb.at_
      refine lift ?_
      cases hv with
      | nil => exact concat_meets ⟨_, e, rfl⟩ ⟨_, e', rfl⟩ noFill_tuple_add seq_tuple_add PySem.F.slot_tuple_add PySem.F.entry_tuple_add (PySem.F.args_tuple_add_2 _ _) (tuple_addW0 a b _ _ n n' none none #[] #[] (by rfl)) ⟨e, e', hQ _ _ (.refl ..) (.tup hb hw)⟩
      | cons r rs =>
        cases hw with
        | nil => rw [List.append_nil] at hQ; exact concat_meets ⟨_, e, rfl⟩ ⟨_, e', rfl⟩ noFill_tuple_add seq_tuple_add PySem.F.slot_tuple_add PySem.F.entry_tuple_add (PySem.F.args_tuple_add_2 _ _) (tuple_addW1 a b _ _ n n' none none #[] #[] (by simp) (by rfl)) ⟨e, e', hQ _ _ (.refl ..) (.tup ha (.cons r rs))⟩
        | cons q qs =>
          refine concat_meets ⟨_, e, rfl⟩ ⟨_, e', rfl⟩ noFill_tuple_add seq_tuple_add PySem.F.slot_tuple_add PySem.F.entry_tuple_add (PySem.F.args_tuple_add_2 _ _) (tuple_addW2 a b _ _ n n' none none #[] #[] (by simp) (by simp) (by
            have h1 := rs.length; have h2 := qs.length
            simp only [List.length_cons] at hl
            simp only [List.size_toArray, List.length_cons, h1, h2]
            exact line_le hl)) ⟨e, e', ?_⟩
          rw [toArray_append]
          exact hQ _ _ (Tr.push (t := s.toks)) (rep_push hi ((RepL.cons r rs).append (.cons q qs)))

theorem Op2.addL (l m : List D) (hl : l.length + m.length ≤ 100000 := by simp) : Op2 c k (binaryOp .Add) (.list l) (.list m) (.list (l ++ m)) := by
  intro X A s v₁ v₂ Q E hA hi r₁ r₂ hQ
  cases r₁ with
  | @list a vs _ ha hv => cases r₂ with
    | @list b ws _ hb hw =>
      obtain ⟨n, e⟩ := ha.at_
      obtain ⟨n', e'⟩ := hb.at_
      refine lift (concat_meets ⟨_, e, rfl⟩ ⟨_, e', rfl⟩ noFill_list_add seq_list_add PySem.F.slot_list_add PySem.F.entry_list_add (PySem.F.args_list_add_2 _ _) (list_addW a b _ _ n n' none none #[] #[] (by
            have h1 := hv.length; have h2 := hw.length
            simp only [List.size_toArray, h1, h2]
            exact line_le hl)) ⟨e, e', ?_⟩)
      rw [toArray_append]
      exact hQ _ _ (Tr.push (t := s.toks)) (rep_pushL hi (hv.append hw))

/-! items -/
theorem Ev.item {e : Expr} {i : Int} {j : Nat} {pc pos : Pos} {d₀ d : D} {l : List D} (h : Ev c k sc ρ e d₀) (hd : d₀ = .tup l ∨ d₀ = .list l) (hi' : 0 ≤ i ∧ i < 1000) (hx : l[i.toNat]? = some d) (hg : ∀ o r, letTemporaryGo e o r = pure () := by intro _ _; rfl) :
    Ev c k sc ρ (.Subscript e (.Constant (.int i) j pc) pos) d := fun env X A s Q E S hA hi he hQ => by
  refine Subscript_Constant (h env X A s _ E S hA hi he fun v s₁ t₁ r₁ => wpAny_Constant_int ?_) hg
  have hlt : i.toNat < l.length := (List.getElem?_eq_some_iff.mp hx).1
  have hs : ∀ n, n = l.length → seqIndex? i n = some i.toNat := fun n hn => by
    unfold seqIndex?
    have h1 : ¬ i < 0 := by omega
    have h2 : (decide (0 ≤ i) && decide (i < (n : Int))) = true := by
      rw [Bool.and_eq_true, decide_eq_true_eq, decide_eq_true_eq]; omega
    simp only [h1, if_false]
    rw [if_pos h2]
  have t₂ : Tr c X no no s { s₁ with toks := s₁.toks + 1 } := t₁.seq (.toks _)
  have hi₂ := hi.tr t₁
  rcases hd with rfl | rfl
  · cases r₁ with
    | @tup a vs _ ha hv =>
      obtain ⟨n, e⟩ := ha.at_
      obtain ⟨v, h1, h2⟩ := hv.get hx
      exact ⟨"tuple", _, PySem.F.slot_tuple_getitem.lookup, ⟨_, e, rfl⟩, lift (P.getItem_tuple (k := i.toNat) (y := v) e (by omega) (by omega) (hs _ (by have := hv.length; simp; omega)) (by simpa using h1) (hQ v _ t₂ (h2.tr hi₂.toIv (.toks _ : Tr c X no no _ _))))⟩
  · cases r₁ with
    | @list a vs _ ha hv =>
      obtain ⟨n, e⟩ := ha.at_
      obtain ⟨v, h1, h2⟩ := hv.get hx
      exact ⟨"list", _, list_getitem_lookup, ⟨_, e, rfl⟩, lift (wpAny_getItem_list (items := vs.toArray) (x := v) ⟨_, e, rfl, n, rfl⟩ (by omega) (by omega) (by simpa using h1) (hQ v _ t₂ (h2.tr hi₂.toIv (.toks _ : Tr c X no no _ _))))⟩

/-! slices -/
theorem Ev.from_tup {e : Expr} {a : Int} {j : Nat} {p pc pos : Pos} {l : List D} (h : Ev c k sc ρ e (.tup l)) (ha : 1 ≤ a) (hl : a.toNat ≤ l.length) (hl' : l.length ≤ 100000) (hg : ∀ o r, letTemporaryGo e o r = pure () := by intro _ _; rfl) :
    Ev c k sc ρ (.Subscript e (.Slice (some (.Constant (.int a) j pc)) Option.none Option.none p) pos) (.tup (l.drop a.toNat)) := fun env X A s Q E S hA hi he hQ => by
  refine wpAny_Subscript_Slice (T := "tuple") PySem.F.slot_tuple_getitem.lookup (h env X A s _ E S hA hi he fun v s₁ t₁ r₁ => wpAny_Slice ?_) hg
  rw [evalPart_some]
  refine wpAny_Constant_int ?_
  rw [evalPart_none]
  refine wpAny_pure (wpAny_pure ?_)
  have t₂ : Tr c X no no s₁ { s₁ with heap := s₁.heap.push { cls := .type "slice", data := .fields #[.int a s₁.toks, .none, .none] }, toks := s₁.toks + 1 } := Tr.push
  have hi₂ := (hi.tr t₁).tr t₂
  have r₂ := r₁.tr (hi.tr t₁).toIv t₂
  cases r₂ with
  | @tup b vs _ hb hv =>
    obtain ⟨n, e'⟩ := hb.at_
    have ea : a = (a.toNat : Int) := by omega
    refine ⟨⟨_, e', rfl⟩, lift (getItem_tuple_from (items := vs.toArray) (a := a.toNat) (u := s₁.toks) ⟨_, e', rfl, n, rfl⟩ (by rw [← ea]; exact Heap.IsSliceOf.new ..) (by omega) (by have := hv.length; simp; omega) ?_ (by have := hv.length; simp; rw [this]; exact line_le hl'))⟩
    exact hQ _ _ ((t₁.seq t₂).seq (Tr.push (t := s₁.toks + 1))) (rep_push hi₂ (hv.drop a.toNat))

noncomputable def EvP (c : Cx) (k : Nat) (sc : Scope) (ρ : Rho) (x : Option Expr) (o : Option Int) : Prop :=
  ∀ (env : Env) (X : Addr → Prop) (A : Around) (s : Shared) (Q : Value → Shared → Prop) (E : Value → Shared → Prop), EnvS sc env → okA k A → Ok c X s → EnvAt c X ρ env s.heap →
    (∀ v s', Tr c X no no s s' → IsPart v o → Q v s') → wpAny (MF c) A (evalPart x env) Q E s
theorem EvP.nil : EvP c k sc ρ Option.none Option.none := fun env X A s Q E S hA hi he hQ => by
  rw [evalPart_none]; exact wpAny_pure (hQ _ s (.refl ..) .none)
theorem EvP.some {e : Expr} {i : Int} (h : Ev c k sc ρ e (.int i)) : EvP c k sc ρ (Option.some e) (Option.some i) := fun env X A s Q E S hA hi he hQ => by
  rw [evalPart_some]
  exact h env X A s _ E S hA hi he fun v s' t r => by
    cases r with
    | int _ u => exact hQ _ s' t (.int _ _)

theorem Ev.sliceL {e : Expr} {lo up : Option Expr} {l l' : List D} {x₁ x₂ : Option Int} {p pos : Pos} (h : Ev c k sc ρ e (.list l)) (ha : EvP c k sc ρ lo x₁) (hb : EvP c k sc ρ up x₂) (hl : l.length ≤ 100000)
    (hp : ∀ (vs : List Value), vs.length = l.length → ∀ (c : Cx) (X : Addr → Prop) (h : Heap), RepL c X h vs l → RepL c X h (slicePick vs.toArray x₁ x₂ Option.none).toList l') (hg : ∀ o r, letTemporaryGo e o r = pure () := by intro _ _; rfl) :
    Ev c k sc ρ (.Subscript e (.Slice lo up Option.none p) pos) (.list l') := fun env X A s Q E S hA hi he hQ => by
  refine wpAny_Subscript_Slice (T := "list") list_getitem_lookup (h env X A s _ E S hA hi he fun v s₁ t₁ r₁ => wpAny_Slice ?_) hg
  refine ha env X A s₁ _ E S hA (hi.tr t₁) (he.step hi t₁) fun vl s₂ t₂ pl => ?_
  have hi₂ := (hi.tr t₁).tr t₂
  refine hb env X A s₂ _ E S hA hi₂ ((he.step hi t₁).step (hi.tr t₁) t₂) fun vu s₃ t₃ pu => ?_
  have hi₃ := hi₂.tr t₃
  rw [evalPart_none]
  refine wpAny_pure ?_
  have t₄ : Tr c X no no s₃ { s₃ with heap := s₃.heap.push { cls := .type "slice", data := .fields #[vl, vu, .none] } } := Tr.push (t := s₃.toks)
  have hi₄ := hi₃.tr t₄
  have r₄ := ((r₁.tr (hi.tr t₁).toIv t₂).tr hi₂.toIv t₃).tr hi₃.toIv t₄
  cases r₄ with
  | @list b vs _ hb hv =>
    obtain ⟨n, e'⟩ := hb.at_
    refine ⟨⟨_, e', rfl⟩, lift (wpAny_getItem_list_slice (items := vs.toArray) ⟨_, e', rfl, n, rfl⟩ (Heap.IsSliceOf.new ..) pl pu .none (by simp) ?_ (by have := hv.length; simp; rw [this]; exact line_le hl))⟩
    have t₅ := (((t₁.seq t₂).seq t₃).seq t₄).seq (Tr.push (t := s₃.toks) (o := { cls := .type "list", data := .seq (slicePick vs.toArray x₁ x₂ Option.none) }))
    have := rep_pushL hi₄ (hp vs hv.length c X _ hv)
    rw [Array.toArray_toList] at this
    exact hQ _ _ t₅ this

theorem pick_upto {vs : List Value} (b : Nat) : (slicePick vs.toArray Option.none (Option.some (b : Int)) Option.none).toList = vs.take b := by
  by_cases hb : b ≤ vs.length
  · rw [slicePick_upto _ b (by simpa using hb)]
  · have e : sliceBounds Option.none (Option.some (b : Int)) Option.none vs.toArray.size = (((0 : Nat) : Int), (vs.toArray.size : Int), 1) := by
      simp only [sliceBounds, Option.getD_none]
      have h2 : ¬ ((b : Int) < 0) := by omega
      simp only [h2, if_false, show (1 : Int) > 0 by decide, if_true]
      congr 1
      congr 1; simp; omega
    unfold slicePick
    rw [e]
    simp only [sliceRange_one, pick_run]
    rw [List.take_of_length_le (by simp), List.take_of_length_le (by omega)]
    simp

/-! built-ins -/
theorem RepL.one {X : Addr → Prop} {h : Heap} {vs : List Value} {d : D} (r : RepL c X h vs [d]) : ∃ v, vs = [v] ∧ Rep c X h v d := by
  cases r with
  | cons r rs => cases rs; exact ⟨_, rfl, r⟩
theorem RepL.two {X : Addr → Prop} {h : Heap} {vs : List Value} {d e : D} (r : RepL c X h vs [d, e]) : ∃ u v, vs = [u, v] ∧ Rep c X h u d ∧ Rep c X h v e := by
  cases r with
  | cons r rs =>
    obtain ⟨v, rfl, r'⟩ := rs.one
    exact ⟨_, v, rfl, r, r'⟩

theorem call_len {d : D} {l : List D} (hd : d = .tup l ∨ d = .list l) (hl : l.length ≤ 100000) : CallOk c k (.builtin "len") [d] (.int l.length) := fun X A s vs Q E hA hi hr hQ => by
  obtain ⟨v, rfl, r⟩ := hr.one
  rcases hd with rfl | rfl
  · cases r with
    | @tup a vs _ ha hv =>
      obtain ⟨n, e⟩ := ha.at_
      have e1 : (vs.toArray.size : Int) = l.length := by rw [← hv.length]; simp
      refine lift (P.len_tuple (items := vs.toArray) e (by omega) ?_)
      rw [e1]; exact hQ _ _ (.toks _) (.int _ _)
  · cases r with
    | @list a vs _ ha hv =>
      obtain ⟨n, e⟩ := ha.at_
      have e1 : (vs.toArray.size : Int) = l.length := by rw [← hv.length]; simp
      refine lift (call_len_list (items := vs.toArray) ⟨_, e, rfl, n, rfl⟩ (by omega) ?_)
      rw [e1]; exact hQ _ _ (.toks _) (.int _ _)

theorem call_max2 (a b : Int) : CallOk c k (.builtin "max") [.int a, .int b] (.int (max a b)) := fun X A s vs Q E hA hi hr hQ => by
  obtain ⟨u, v, rfl, r₁, r₂⟩ := hr.two
  cases r₁ with
  | int _ t => cases r₂ with
    | int _ u =>
      refine lift (max_two_ints hA.1 fun h' tk hk => hQ _ _ (Tr.grow hk) ?_)
      by_cases h : b > a
      · rw [if_pos h, show max a b = b from by omega]; exact .int _ _
      · rw [if_neg h, show max a b = a from by omega]; exact .int _ _
theorem call_min2 (a b : Int) : CallOk c k (.builtin "min") [.int a, .int b] (.int (min a b)) := fun X A s vs Q E hA hi hr hQ => by
  obtain ⟨u, v, rfl, r₁, r₂⟩ := hr.two
  cases r₁ with
  | int _ t => cases r₂ with
    | int _ u =>
      refine lift (min_two_ints hA.1 fun h' tk hk => hQ _ _ (Tr.grow hk) ?_)
      by_cases h : b < a
      · rw [if_pos h, show min a b = b from by omega]; exact .int _ _
      · rw [if_neg h, show min a b = a from by omega]; exact .int _ _

theorem call_tupleT (l : List D) : CallOk c k (.type "tuple") [.tup l] (.tup l) := fun X A s vs Q E hA hi hr hQ => by
  obtain ⟨v, rfl, r⟩ := hr.one
  cases r with
  | @tup a vs _ ha hv =>
    obtain ⟨n, e⟩ := ha.at_
    exact lift (call_tuple_same (items := vs.toArray) ⟨_, e, rfl, n, rfl⟩ (hQ _ _ (.refl ..) (.tup ha hv)))
theorem call_tupleL (l : List D) (hl : l.length ≤ 100000) : CallOk c k (.type "tuple") [.list l] (.tup l) := fun X A s vs Q E hA hi hr hQ => by
  obtain ⟨v, rfl, r⟩ := hr.one
  cases r with
  | @list a vs _ ha hv =>
    obtain ⟨n, e⟩ := ha.at_
    refine lift (call_tuple_list (items := vs.toArray) ⟨_, e, rfl, n, rfl⟩ (fun h' hk => ?_) (by have := hv.length; simp; rw [this]; exact line_le hl))
    have t₁ : Tr c X no no s { s with heap := h' } := Tr.grow (t := s.toks) hk
    exact hQ _ _ (t₁.seq (Tr.push (t := s.toks))) (rep_push (hi.tr t₁) (hv.tr hi.toIv t₁))
end
end Dio

namespace Dio
set_option tactic.hygienic false
open PySem PySem.W PySem.Calls PyProof.Rows
open Sem (wp)
open AutoSeq1 (wpAny_loadPart')
set_option maxRecDepth 100000

/-! U. More built-ins -/
theorem typeCall_tuple_0 : checkTypeCall "tuple" ⟨[], []⟩ = pure () := by kernel_rfl
theorem newCall_tuple_0 : checkBuiltinCall "tuple.__new__" ⟨[.type "tuple"], []⟩ = pure () := by kernel_rfl
theorem meets_tuple_new_0 :
    Meets (Builtin.«tuple.__new__» ⟨[.type "tuple"], []⟩) (fun _ R s => R (.ok (.ret (.ref s.heap.objs.size))) { s with heap := s.heap.push { cls := .type "tuple", data := .seq #[] } }) :=
  .of_wp fun prog w A R s h => by
    obtain ⟨hp, g, d, tk, os⟩ := s
    have hsub := sub_tuple_self
    have hinit := init_tuple_lookup
    have hmh := madeHere_tuple
    wp_walk
    all_goals first | exact ⟨_, rfl, h⟩ | exact h
section
variable {c : Cx} {k : Nat} {sc : Scope} {ρ : Rho}
theorem call_tuple0 : CallOk c k (.type "tuple") [] (.tup []) := fun X A s vs Q E hA hi hr hQ => by
  cases hr
  refine lift (callType_new F.called_tuple (by decide) typeCall_tuple_0 newCall_tuple_0 (fun obj => F.args_object_init_1 obj) F.entry_tuple_new meets_tuple_new_0 ⟨⟨_, Heap.get?_push_size _ rfl, rfl⟩, ?_⟩)
  exact hQ _ _ (Tr.push (t := s.toks)) (rep_push hi .nil)

noncomputable def lsI (l : List Int) : List D := l.map .int

theorem call_sumT (l : List Int) (hl : ∀ j, j ≤ l.length → InLong ((l.take j).sum)) (hl' : ∀ x ∈ l, InLong x) : CallOk c k (.builtin "sum") [.tup (lsI l)] (.int l.sum) := fun X A s vs Q E hA hi hr hQ => by
  obtain ⟨v, rfl, r⟩ := hr.one
  cases r with
  | @tup a vs _ ha hv =>
    obtain ⟨n, e⟩ := ha.at_
    have hT : s.heap.IsTuple a vs.toArray := ⟨_, e, rfl, n, rfl⟩
    refine lift (call_sum_walk (wpAny_pyIter_tuple hT ?_))
    have hne : a ≠ s.heap.objs.size := Nat.ne_of_lt (Heap.lt_size e)
    have hlen : vs.length = l.length := by have := hv.length; simpa [lsI] using this
    have hpre : ∀ n, n ≤ l.length → preSum (fun i => l.getD i 0) n = (l.take n).sum := by
      intro n
      induction n with
      | zero => intro _; simp [preSum]
      | succ n ih =>
        intro hn
        have h1 : n < l.length := by omega
        rw [show preSum (fun i => l.getD i 0) (n + 1) = preSum (fun i => l.getD i 0) n + l.getD n 0 from rfl, ih (by omega), List.take_succ_eq_append_getElem h1, List.sum_append]
        simp [h1]
    refine ⟨_, [_, a], [_], _, _, _, fun i => l.getD i 0, rfl, Walks.tuple (A := A.in1) hA.1 _ a hne vs.toArray, ⟨⟨_, Heap.get?_push_size _ rfl, rfl, rfl⟩, hT.push _⟩, ?_, ?_, ?_, ?_⟩
    · intro b hb
      rw [Heap.size_push]
      rcases List.mem_cons.mp hb with rfl | hb
      · exact Nat.lt_succ_self _
      · rcases List.mem_cons.mp hb with rfl | hb
        · exact Nat.lt_succ_of_lt (Heap.lt_size e)
        · cases hb
    · intro i v hv'
      have hi' : i < vs.length := by
        have := (Array.getElem?_eq_some_iff.mp hv').1
        simpa using this
      have hd : (lsI l)[i]? = some (.int (l.getD i 0)) := by
        unfold lsI
        rw [List.getElem?_map, List.getElem?_eq_getElem (by omega)]
        simp [hlen ▸ hi']
      obtain ⟨u, h1, h2⟩ := hv.get hd
      have : u = v := by
        have h3 : vs[i]? = some v := by simpa using hv'
        rw [h1] at h3; cases h3; rfl
      subst this
      cases h2 with
      | int _ t => exact ⟨t, rfl⟩
    · intro j hj
      have hj' : j < l.length := by simp at hj; omega
      refine ⟨?_, ?_⟩
      · have : l.getD j 0 ∈ l := by simp [hj']
        exact hl' _ this
      · rw [hpre _ (by omega)]; exact hl _ (by omega)
    · intro h' tk t' hk
      have e1 : preSum (fun i => l.getD i 0) vs.toArray.size = l.sum := by
        rw [hpre _ (by simp; omega)]
        rw [List.take_of_length_le (by simp; omega)]
      rw [e1]
      refine hQ _ _ (Tr.grow (s := s) (h' := h') (t := tk) fun b o eb => hk b o (fun hm => ?_) (Heap.get?_push_of_some _ eb)) (.int _ _)
      rcases List.mem_cons.mp hm with e1 | hm
      · have := Heap.lt_size eb; rw [e1] at this; exact Nat.lt_irrefl _ this
      · cases hm

theorem foldl_rep (vs : Array Value) : ∀ (n : Nat) (acc : Array Value), List.foldl (fun x1 x2 => x1 ++ x2) acc (List.replicate n vs) = acc ++ ((List.replicate n vs.toList).flatten).toArray
  | 0, acc => by simp
  | n + 1, acc => by
    rw [List.replicate_succ, List.foldl_cons, foldl_rep vs n]
    rw [List.replicate_succ, List.flatten_cons]
    apply Array.ext'
    simp
theorem RepL.rep {X : Addr → Prop} {h : Heap} {vs : List Value} {ds : List D} (r : RepL c X h vs ds) : ∀ n : Nat, RepL c X h (List.replicate n vs).flatten (List.replicate n ds).flatten
  | 0 => .nil
  | n + 1 => by
    rw [List.replicate_succ, List.replicate_succ, List.flatten_cons, List.flatten_cons]
    exact r.append (RepL.rep r n)

theorem Op2.mulL (l : List D) (x : Int) (hx : x < 1000) (hx' : -1000 < x) (hl : l.length ≤ 1000) : Op2 c k (binaryOp .Mult) (.list l) (.int x) (.list (List.replicate x.toNat l).flatten) := by
  intro X A s v₁ v₂ Q E hA hi r₁ r₂ hQ
  cases r₁ with
  | @list a vs _ ha hv => cases r₂ with
    | int _ u =>
      obtain ⟨n, e⟩ := ha.at_
      have hm : vs.length * x.toNat ≤ 1000 * 1000 := Nat.mul_le_mul (by rw [hv.length]; exact hl) (by omega)
      refine lift (wpAny_binaryOp_repeat_ref (T := "list") (U := "int") (by decide) ⟨_, e, rfl⟩ (fun s' => typeIs_int s' x u) noFill_list_mul F.fills_int_mul F.slot_int_rmul repeat_list F.slot_int_index.lookup
        (call_meets F.slot_int_rmul (typeIs_int s x u) F.entry_int_rmul (F.args_int_rmul_2 _ _) (int___rmul___int_list x u a vs.toArray n)
          ⟨e, rfl, ⟨_, e, rfl⟩, call_meets F.slot_list_mul ⟨_, e, rfl⟩ F.entry_list_mul (F.args_list_mul_2 _ _)
            (AutoListH.list___mul___list_int_3 a vs.toArray n x u (by simp [Builtin.List.listFitsIndex]; omega) ?_ (by simp [Builtin.List.listTooLong, sizeLine]; omega))
            ⟨e, ?_⟩⟩))
      · simp; omega
      · have e2 : List.foldl (fun x1 x2 => x1 ++ x2) #[] (List.replicate (if vs.toArray.isEmpty = true then 0 else x.toNat) vs.toArray) = ((List.replicate x.toNat vs).flatten).toArray := by
          rw [foldl_rep]
          cases vs with
          | nil => simp
          | cons v vs => simp
        rw [e2]
        exact hQ _ _ (Tr.push (t := s.toks)) (rep_pushL hi (hv.rep x.toNat))

theorem Op2.isNone (d : D) : Op2 c k (compareOp .Is) d .none (.bool (match d with | .none => true | _ => false)) := by
  intro X A s v₁ v₂ Q E hA hi r₁ r₂ hQ
  cases r₂
  cases r₁ with
  | none => exact is_none_none (hQ _ _ (.refl ..) (.bool _))
  | bool b => exact is_none_ne (by intro x; cases x) (hQ _ _ (.refl ..) (.bool _))
  | int i t => exact is_none_ne (by intro x; cases x) (hQ _ _ (.refl ..) (.bool _))
  | tup _ _ => exact is_none_ne (by intro x; cases x) (hQ _ _ (.refl ..) (.bool _))
  | list _ _ => exact is_none_ne (by intro x; cases x) (hQ _ _ (.refl ..) (.bool _))
  | obj _ => exact is_none_ne (by intro x; cases x) (hQ _ _ (.refl ..) (.bool _))
theorem Op2.isNotNone (d : D) : Op2 c k (compareOp .IsNot) d .none (.bool (match d with | .none => false | _ => true)) := by
  intro X A s v₁ v₂ Q E hA hi r₁ r₂ hQ
  cases r₂
  have hr : Value.none = Value.none := rfl
  cases r₁ with
  | none => exact isnot_none_none (hQ _ _ (.refl ..) (.bool _))
  | bool b => exact isnot_none_ne (by intro x; cases x) (hQ _ _ (.refl ..) (.bool _))
  | int i t => exact isnot_none_ne (by intro x; cases x) (hQ _ _ (.refl ..) (.bool _))
  | tup _ _ => exact isnot_none_ne (by intro x; cases x) (hQ _ _ (.refl ..) (.bool _))
  | list _ _ => exact isnot_none_ne (by intro x; cases x) (hQ _ _ (.refl ..) (.bool _))
  | obj _ => exact isnot_none_ne (by intro x; cases x) (hQ _ _ (.refl ..) (.bool _))
end
end Dio

namespace Dio
set_option tactic.hygienic false
open PySem PySem.W PySem.Calls PyProof.Rows
open Sem (wp)
set_option maxRecDepth 100000

/-! V. Comprehensions: the frame -/
noncomputable def relab (scope sc : Scope) : Scope :=
  { scope with names := scope.names.map fun (n, k) => if (k == .free && sc.kind == .function && sc.names.lookup n == some .cell) then (n, .cell) else (n, k) }
theorem relabel_eq {scope sc : Scope} {env : Env} (S : EnvS sc env) : relabel scope env = relab scope sc := by
  unfold relabel relab
  rw [S.scope]
  congr 1
  apply List.map_congr_left
  intro x _
  obtain ⟨n, kd⟩ := x
  simp only [S.kindOf]

noncomputable def clRec (f : Str → Addr) : List (Str × NameKind) → List (Str × Addr) → List (Str × Addr)
  | [], cs => cs
  | (n, k) :: r, cs => clRec f r (if k == .free then (n, f n) :: cs else cs)
set_option tactic.hygienic true in
theorem clRec_mem {f : Str → Addr} : ∀ {names : List (Str × NameKind)} {cs : List (Str × Addr)} {x : Str} {a : Addr}, (x, a) ∈ clRec f names cs → (x, a) ∈ cs ∨ ((x, .free) ∈ names ∧ a = f x)
  | [], _, _, _, h => .inl h
  | (n, k) :: r, cs, x, a, h => by
    unfold clRec at h
    rcases clRec_mem h with h | ⟨h, e⟩
    · split at h
      · rename_i hk
        rcases List.mem_cons.mp h with h | h
        · cases h
          have : k = .free := by simpa using hk
          subst this
          exact .inr ⟨List.mem_cons_self, rfl⟩
        · exact .inl h
      · exact .inl h
    · exact .inr ⟨List.mem_cons_of_mem _ h, e⟩
theorem clRec_has {f : Str → Addr} : ∀ {names : List (Str × NameKind)} {cs : List (Str × Addr)} {x : Str}, ((∃ a, (x, a) ∈ cs) ∨ (x, NameKind.free) ∈ names) → ∃ a, (x, a) ∈ clRec f names cs
  | [], _, _, h => h.elim id fun h => nomatch h
  | (n, k) :: r, cs, x, h => by
    unfold clRec
    refine clRec_has ?_
    rcases h with ⟨a, h⟩ | h
    · left; split
      · exact ⟨a, List.mem_cons_of_mem _ h⟩
      · exact ⟨a, h⟩
    · rcases List.mem_cons.mp h with h | h
      · cases h; left; exact ⟨f n, by simp⟩
      · exact .inr h
theorem lookup_isSome_of_mem {β : Type} : ∀ {l : List (Str × β)} {x : Str} {a : β}, (x, a) ∈ l → (l.lookup x).isSome = true
  | (n, b) :: r, x, a, h => by
    rw [List.lookup_cons]
    cases hx : x == n with
    | true => rfl
    | false =>
      rcases List.mem_cons.mp h with h | h
      · cases h; simp at hx
      · exact lookup_isSome_of_mem h
theorem clRec_apart {f : Str → Addr} (hf : ∀ x y, f x = f y → x = y ∨ True) : True := trivial

set_option tactic.hygienic true in
theorem clRec_pair {f : Str → Addr} {P : Str → Prop} (hf : ∀ x y, P x → P y → f x = f y → x = y) : ∀ {names : List (Str × NameKind)} {cs : List (Str × Addr)}, (names.map (·.1)).Nodup → (∀ x, (x, NameKind.free) ∈ names → P x) →
    (∀ x a, (x, a) ∈ cs → P x ∧ a = f x ∧ x ∉ names.map (·.1)) → cs.Pairwise (fun x y => x.2 ≠ y.2) → (clRec f names cs).Pairwise fun x y => x.2 ≠ y.2
  | [], _, _, _, _, h => h
  | (n, k) :: r, cs, hn, hP, hcs, h => by
    unfold clRec
    rw [List.map_cons, List.nodup_cons] at hn
    refine clRec_pair hf hn.2 (fun x hx => hP x (List.mem_cons_of_mem _ hx)) (fun x a hx => ?_) ?_
    · split at hx
      · rename_i hk
        have hk' : k = .free := by simpa using hk
        subst hk'
        rcases List.mem_cons.mp hx with hx | hx
        · cases hx; exact ⟨hP _ List.mem_cons_self, rfl, hn.1⟩
        · have := hcs x a hx; exact ⟨this.1, this.2.1, fun hm => this.2.2 (by rw [List.map_cons]; exact List.mem_cons_of_mem _ hm)⟩
      · have := hcs x a hx; exact ⟨this.1, this.2.1, fun hm => this.2.2 (by rw [List.map_cons]; exact List.mem_cons_of_mem _ hm)⟩
    · split
      · rename_i hk
        have hk' : k = .free := by simpa using hk
        subst hk'
        refine List.pairwise_cons.mpr ⟨fun y hy => ?_, h⟩
        obtain ⟨y, b⟩ := y
        have := hcs y b hy
        intro e
        have e' : f n = f y := by rw [← this.2.1]; exact e
        exact this.2.2 (by rw [List.map_cons, hf n y (hP _ List.mem_cons_self) this.1 e']; exact List.mem_cons_self)
      · exact h

structure CompSc (scope sc : Scope) : Prop where
  kind : scope.kind = .function
  nocell : ∀ x ∈ scope.names, x.2 ≠ .cell
  free : ∀ x ∈ scope.names, x.2 = .free → sc.names.lookup x.1 = some .cell
  nd : (scope.names.map (·.1)).Nodup
  ng : scope.isGenerator = false
theorem lookup_of_nd {β : Type} : ∀ {l : List (Str × β)} {x : Str} {k : β}, (l.map (·.1)).Nodup → (x, k) ∈ l → l.lookup x = some k
  | (n, b) :: r, x, k, hn, h => by
    rw [List.map_cons, List.nodup_cons] at hn
    rw [List.lookup_cons]
    rcases List.mem_cons.mp h with h' | h'
    · cases h'; simp
    · cases hx : x == n with
      | true =>
        have hxn : x = n := by simpa using hx
        exact absurd (List.mem_map.mpr ⟨(x, k), h', hxn⟩) hn.1
      | false => exact lookup_of_nd hn.2 h'

noncomputable abbrev cellAddr (env : Env) (x : Str) : Addr := (env.cells.lookup x).getD 0
theorem closure_eq {scope sc : Scope} {env : Env} (H : CompSc scope sc) (S : EnvS sc env) : closureFor scope env = pure (clRec (cellAddr env) scope.names []) := by
  unfold closureFor
  have main : ∀ (names : List (Str × NameKind)) (cs : List (Str × Addr)), (∀ x ∈ names, x ∈ scope.names) →
      (forIn names cs fun x r => (if (x.2 == .free) = true then (do let a ← cellOf env x.1; pure (ForInStep.yield ((x.1, a) :: r))) else pure (ForInStep.yield r) : Sem (ForInStep (List (Str × Addr))))) = pure (clRec (cellAddr env) names cs) := by
    intro names
    induction names with
    | nil => intro cs _; rfl
    | cons x r ih =>
      intro cs hm
      obtain ⟨n, k⟩ := x
      have ih' := fun cs => ih cs fun x hx => hm x (List.mem_cons_of_mem _ hx)
      rw [List.forIn_cons]
      unfold clRec
      by_cases hk : (k == NameKind.free) = true
      · have hk' : k = .free := by simpa using hk
        have hc := S.cells n (.inl (H.free _ (hm _ List.mem_cons_self) hk'))
        obtain ⟨a, ha⟩ := Option.isSome_iff_exists.mp hc
        have e : cellOf env n = pure (cellAddr env n) := by unfold cellOf cellAddr; rw [ha]; rfl
        rw [if_pos hk, if_pos hk, e]
        exact ih' _
      · rw [if_neg hk, if_neg hk]
        exact ih' cs
  have := main scope.names [] fun _ h => h
  rw [← this, ← bind_pure (forIn scope.names [] _)]

/-- what a comprehension sees of the variables around it -/
noncomputable def inner (scope : Scope) (ρ : Rho) : Rho := fun x => if scope.names.lookup x = some .free then ρ x else none

section
variable {c : Cx} {k : Nat} {sc : Scope} {ρ : Rho}

theorem relab_lookup {scope : Scope} (H : CompSc scope sc) (hk : sc.kind = .function) (x : Str) : (relab scope sc).names.lookup x = (scope.names.lookup x).map fun k => if k = .free then .cell else k := by
  have main : ∀ (names : List (Str × NameKind)), (∀ y ∈ names, y ∈ scope.names) →
      (names.map fun (n, k) => if (k == NameKind.free && sc.kind == .function && sc.names.lookup n == some .cell) then (n, NameKind.cell) else (n, k)).lookup x = (names.lookup x).map fun k => if k = .free then .cell else k := by
    intro names
    induction names with
    | nil => intro _; rfl
    | cons y r ih =>
      intro hm
      obtain ⟨n, kd⟩ := y
      have ih' := ih fun y hy => hm y (List.mem_cons_of_mem _ hy)
      have e : (if (kd == NameKind.free && sc.kind == .function && sc.names.lookup n == some .cell) = true then (n, NameKind.cell) else (n, kd)) = (n, if kd = .free then NameKind.cell else kd) := by
        by_cases hf : kd = .free
        · subst hf
          have h1 : sc.names.lookup n = some .cell := H.free (n, .free) (hm _ List.mem_cons_self) rfl
          rw [h1, hk]
          simp
        · have : (kd == NameKind.free) = false := by simpa using hf
          rw [this, if_neg (by simp), if_neg hf]
      rw [List.map_cons]
      show List.lookup x ((if (kd == NameKind.free && sc.kind == .function && sc.names.lookup n == some .cell) = true then (n, NameKind.cell) else (n, kd)) :: _) = _
      rw [e, List.lookup_cons, List.lookup_cons]
      cases x == n with
      | true => rfl
      | false => exact ih'
  exact main scope.names fun _ h => h

theorem ng_ne {scope : Scope} (H : CompSc scope sc) {P : Prop} (hw : relab scope sc = c.wsc) : P := by
  have h1 : (relab scope sc).isGenerator = true := by rw [hw]; exact c.wg
  have h2 : (relab scope sc).isGenerator = false := H.ng
  rw [h2] at h1; cases h1

set_option tactic.hygienic true in
theorem comp_frame {X : Addr → Prop} {A : Around} {s : Shared} {E : Value → Shared → Prop} {Q : Env → Shared → Prop} {scope : Scope} {env : Env} (H : CompSc scope sc) (S : EnvS sc env) (hi : Ok c X s) (he : EnvAt c X ρ env s.heap)
    (h : ∀ (cenv : Env) (s' : Shared), EnvS (relab scope sc) { cenv with scope := relab scope sc } → EnvAt c X (inner scope ρ) { cenv with scope := relab scope sc } s'.heap → Tr c X no no s s' → (cenv.locals = s.heap.objs.size ∧ Is s'.heap cenv.locals) →
      (∀ x a, cenv.cells.lookup x = some a → own env a) → Q cenv s') :
    wpAny (MF c) A (newFunctionEnv scope env.globals (clRec (cellAddr env) scope.names []) [] env.qual none .none (some env)) Q E s := by
  obtain ⟨m, cm, V, hv⟩ := he
  refine wpAny_newFunctionEnv H.nocell (by intro y hy; simp at hy) (fun h₁ hns₁ hsb₁ => ?_) H.kind
  have hk₁ : ∀ b o, s.heap.get? b = some o → h₁.get? b = some o := fun b o e => hsb₁.extBut b o (Nat.ne_of_lt (Heap.lt_size e)) (Heap.get?_push_of_some _ e)
  have t : Tr c X no no s { s with heap := h₁, toks := s.toks + ([] : List (Str × Value)).length } := Tr.grow hk₁
  have hL : Is h₁ s.heap.objs.size := let ⟨o, _, _, ho, _⟩ := hns₁; ⟨o, ho⟩
  have cell_of : ∀ x a, (clRec (cellAddr env) scope.names []).lookup x = some a → (x, NameKind.free) ∈ scope.names ∧ env.cells.lookup x = some a := fun x a hx => by
    rcases clRec_mem (mem_of_lookup hx) with h | ⟨h, e⟩
    · cases h
    · obtain ⟨b, hb⟩ := Option.isSome_iff_exists.mp (S.cells x (.inl (H.free _ h rfl)))
      refine ⟨h, ?_⟩
      rw [e, cellAddr, hb]; rfl
  have hkf : sc.kind = .function := S.kind
  refine h _ _ ⟨rfl, H.kind, S.glob, S.blt, fun x hx => ?_⟩ ⟨fun x => ([] : List (Str × Value)).reverse.lookup x, cm, ⟨hns₁, fun x a hx => ?_, ?_, fun ho => hi.toIv.new ho, fun x a hx => ?_, fun hw => ng_ne H hw⟩, fun x d hd => ?_⟩ t ⟨rfl, hL⟩ fun x a hx => .inr ⟨x, (cell_of x a hx).2⟩
  · show ((clRec (cellAddr env) scope.names []).lookup x).isSome = true
    have hf : (x, NameKind.free) ∈ scope.names := by
      rw [relab_lookup H hkf] at hx
      cases hl : scope.names.lookup x with
      | none => rw [hl] at hx; simp at hx
      | some kd =>
        rw [hl] at hx
        have hm := mem_of_lookup hl
        by_cases hf : kd = .free
        · subst hf; exact hm
        · have : kd ≠ .cell := H.nocell _ hm
          simp [hf, this] at hx
    obtain ⟨a, ha⟩ := clRec_has (f := cellAddr env) (cs := []) (.inr hf)
    exact lookup_isSome_of_mem ha
  · obtain ⟨o, ho, hd⟩ := V.cell x a (cell_of x a hx).2
    exact ⟨o, hk₁ _ _ ho, hd⟩
  · refine clRec_pair (P := fun x => (env.cells.lookup x).isSome = true) (fun x y hx hy e => ?_) H.nd (fun x hx => S.cells x (.inl (H.free _ hx rfl))) (fun _ _ h => nomatch h) List.Pairwise.nil
    obtain ⟨a, ha⟩ := Option.isSome_iff_exists.mp hx
    obtain ⟨b, hb⟩ := Option.isSome_iff_exists.mp hy
    rw [cellAddr, cellAddr, ha, hb] at e
    have e : a = b := e
    subst e
    exact name_of_addr V.apart (mem_of_lookup ha) (mem_of_lookup hb)
  · rcases clRec_mem hx with h | ⟨h, e⟩
    · cases h
    · obtain ⟨b, hb⟩ := Option.isSome_iff_exists.mp (S.cells x (.inl (H.free _ h rfl)))
      rw [e, cellAddr, hb]
      exact V.lowc x b (mem_of_lookup hb)
  · unfold inner at hd
    split at hd
    · rename_i hf
      obtain ⟨v, r, h1⟩ := hv x d hd
      have hko : env.kindOf x = some .cell := by rw [S.kindOf]; exact H.free _ (mem_of_lookup hf) rfl
      rcases h1 with ⟨e, _⟩ | ⟨_, _, hcm⟩
      · rw [hko] at e; cases e
      · refine ⟨v, r.tr hi.toIv t, .inr ⟨.inl ?_, ?_, hcm⟩⟩
        · show (relab scope sc).names.lookup x = some .cell
          rw [relab_lookup H hkf, hf]; rfl
        · obtain ⟨a, ha⟩ := clRec_has (f := cellAddr env) (cs := []) (.inr (mem_of_lookup hf))
          exact lookup_isSome_of_mem ha
    · cases hd
end
end Dio

namespace Dio
set_option tactic.hygienic false
open PySem PySem.W PySem.Calls PyProof.Rows
open Sem (wp)
set_option maxRecDepth 100000

/-! W. Comprehensions: the loops -/
noncomputable def AccAt (c : Cx) (X : Addr → Prop) (h : Heap) (a : Addr) (l : List D) : Prop := ∃ vs n, h.get? a = some (seqObj "list" vs n) ∧ RepL c X h vs l ∧ ¬ c.Old a

noncomputable def BodyOk (N : Nat) (c : Cx) (k : Nat) (sc : Scope) (body : Env → Value → Sem Unit) (ρ₁ ρ₂ : Rho) (outs : List D) : Prop :=
  ∀ (env : Env) (X : Addr → Prop) (A : Around) (s : Shared) (a : Addr) (acc : List D) (Q : Unit → Shared → Prop) (E : Value → Shared → Prop), EnvS sc env → okA k A → Ok c X s → X a → ¬ own env a → acc.length ≤ N → AccAt c X s.heap a acc → EnvAt c X ρ₁ env s.heap →
    (∀ s', Tr c X (fun b => b = env.locals ∨ b = a) no s s' → AccAt c X s'.heap a (acc ++ outs) → EnvAt c X ρ₂ env s'.heap → Q () s') → wpAny (MF c) A (body env (.ref a)) Q E s

/-- targets that are all local -/
noncomputable def Al (c : Cx) (k : Nat) (sc : Scope) (ρ : Rho) (t : Expr) (d : D) (ρ' : Rho) : Prop :=
  ∀ (env : Env) (X : Addr → Prop) (A : Around) (s : Shared) (v : Value) (Q : Unit → Shared → Prop) (E : Value → Shared → Prop), EnvS sc env → okA k A → Ok c X s → EnvAt c X ρ env s.heap → Rep c X s.heap v d →
    (∀ s', Tr c X (fun b => b = env.locals) no s s' → EnvAt c X ρ' env s'.heap → Q () s') → wpAny (MF c) A (assign t env v) Q E s
noncomputable def AlL (c : Cx) (k : Nat) (sc : Scope) (ρ : Rho) (ts : List Expr) (ds : List D) (ρ' : Rho) : Prop :=
  ∀ (env : Env) (X : Addr → Prop) (A : Around) (s : Shared) (vs : List Value) (Q : Unit → Shared → Prop) (E : Value → Shared → Prop), EnvS sc env → okA k A → Ok c X s → EnvAt c X ρ env s.heap → RepL c X s.heap vs ds →
    (∀ s', Tr c X (fun b => b = env.locals) no s s' → EnvAt c X ρ' env s'.heap → Q () s') → wpAny (MF c) A (assignInOrder ((assignEach ts env).map (·.2)) vs) Q E s
section
variable {c : Cx} {k : Nat} {sc : Scope} {ρ : Rho}
theorem Al.name {x : Str} {pos : Pos} {d : D} (hk : sc.names.lookup x = some .local) : Al c k sc ρ (.Name x pos) d (upd ρ x d) :=
  fun env X A s v Q E S hA hi he hr h => wpAny_assign_Name (he.storeL hi.toIv S hk hr fun s' t e => h s' (t _ rfl) e)
theorem AlL.nil : AlL c k sc ρ [] [] ρ := fun env X A s vs Q E S hA hi he hr h => by
  cases hr; exact wpAny_pure (h s (.refl ..) he)
theorem AlL.cons {t : Expr} {ts : List Expr} {d : D} {ds : List D} {ρ₁ ρ' : Rho} (h₁ : Al c k sc ρ t d ρ₁) (h₂ : AlL c k sc ρ₁ ts ds ρ') (hst : ∀ env, assignEach (t :: ts) env = (false, assign t env) :: assignEach ts env := by intro _; rfl) :
    AlL c k sc ρ (t :: ts) (d :: ds) ρ' := fun env X A s vs Q E S hA hi he hr h => by
  cases hr with
  | cons r rs =>
    rw [hst]
    refine wpAny_assignInOrder_more (h₁ env X A s _ _ E S hA hi he r fun s₁ t₁ e₁ => h₂ env X A s₁ _ Q E S hA (hi.tr t₁) e₁ (rs.tr hi.toIv t₁) fun s' t e => h s' (t₁.then t) e)
theorem Al.tup {ts : List Expr} {j : Nat} {pos : Pos} {ds : List D} {ρ' : Rho} (h : AlL c k sc ρ ts ds ρ') (hn : ∀ env, (assignEach ts env).length = ds.length := by intro _; rfl) (hst : ∀ env, (assignEach ts env).findIdx? (·.1) = none := by intro _; rfl) :
    Al c k sc ρ (.Tuple ts j pos) (.tup ds) ρ' := fun env X A s v Q E S hA hi he hr hQ => by
  cases hr with
  | @tup a vs ds ha hl =>
    obtain ⟨n, e⟩ := ha.at_
    show wpAny (MF c) A (do standAt pos; unpack (.ref a) (assignEach ts env)) Q E s
    refine wpAny_bind (wpAny_standAt ?_)
    unfold unpack
    refine wpAny_bind (wpAny_holding ?_)
    rw [hn env, hst env, ← hl.length]
    have ht : s.heap.IsTuple a vs.toArray := ⟨_, e, rfl, n, rfl⟩
    refine lift (wpAny_unpackItems_tuple hA.1 ht fun h' hk => ?_)
    have t : Tr c X no no s { s with heap := h' } := Tr.grow (t := s.toks) fun b o e => hk b o (Nat.ne_of_lt (Heap.lt_size e)) e
    exact h env X A _ vs Q E S hA (hi.tr t) (he.step hi t) (hl.tr hi.toIv t) fun s' t' e' => hQ s' ((t.mono (fun _ _ h => h.elim) (fun _ h => h)).then t') e'
theorem Al.as {t : Expr} {d : D} {ρ' : Rho} (h : Al c k sc ρ t d ρ') : As c k sc ρ t d ρ' := fun env X A s v Q E S hA hi he hr hQ =>
  h env X A s v Q E S hA hi he hr fun s' t e => hQ s' (t.mono (fun _ _ h => .inl h) fun _ h => h) e
end

section
variable {c : Cx} {k : Nat} {sc : Scope} {ρ : Rho} {X : Addr → Prop} {s : Shared}

theorem AccAt.tr {W : Addr → Prop} {G : Nat → Prop} {s' : Shared} {a : Addr} {l : List D} (h : AccAt c X s.heap a l) (hi : Iv c s) (t : Tr c X W G s s') (hW : ¬ W a) : AccAt c X s'.heap a l := by
  obtain ⟨vs, n, e, r, ho⟩ := h
  exact ⟨vs, n, t.keep a _ e (fun e => ho (e ▸ hi.lowP)) fun h => absurd h hW, r.tr hi t, ho⟩
theorem AccAt.is {a : Addr} {l : List D} (h : AccAt c X s.heap a l) : Is s.heap a := let ⟨_, _, e, _⟩ := h; ⟨_, e⟩

theorem Tr.close {W : Addr → Prop} {G : Nat → Prop} {s' : Shared} (t : Tr c X W G s s') (hG : ∀ i, G i → s.gens.size ≤ i) (st : Still s' G no) : Tr c X W no s s' :=
  ⟨t.there, t.keep, t.tab, t.gsize, fun i x e _ => t.gkeep i x e fun h => absurd (Array.getElem?_eq_some_iff.mp e).1 (Nat.not_lt.mpr (hG i h)), fun i x e hi _ => by
    by_cases h : G i
    · exact st i x e h fun h => h
    · exact t.gnew i x e hi h, t.os⟩

theorem acc_append {A : Around} {E : Value → Shared → Prop} {Q : Value → Shared → Prop} {a : Addr} {acc : List D} {v : Value} {d : D} (hi : Ok c X s) (hX : X a) (ha : AccAt c X s.heap a acc) (hr : Rep c X s.heap v d) (hl : acc.length ≤ 100000)
    (hQ : ∀ s', Tr c X (fun b => b = a) no s s' → AccAt c X s'.heap a (acc ++ [d]) → Q .none s') : wpAny (MF c) A (call (.builtin "list.append") [.ref a, v]) Q E s := by
  obtain ⟨vs, n, e, r, ho⟩ := ha
  refine lift (wpAny_list_append_plain (items := vs.toArray) ⟨n, e⟩ (fun h' hl' hs' => ?_) (by rw [List.size_toArray, r.length]; exact line_le hl))
  obtain ⟨n', e'⟩ := hl'
  have t : Tr c X (fun b => b = a) no s { s with heap := h' } := Tr.same (t := s.toks) hi.toIv hs' rfl ho ⟨_, e'⟩ fun _ _ _ => hX
  have e2 : vs.toArray.push v = (vs ++ [v]).toArray := by simp
  rw [e2] at e'
  exact hQ _ t ⟨vs ++ [v], n', e', (r.tr hi.toIv t).append (.cons (hr.tr hi.toIv t) .nil), ho⟩

theorem body_emit {N : Nat} {elt : Expr} {d : D} {ρ : Rho} (hN : N ≤ 100000) (h : Ev c k sc ρ elt d) : BodyOk N c k sc (fun env acc => eval elt env >>= fun x => call (.builtin "list.append") [acc, x] >>= fun _ => pure ()) ρ ρ [d] :=
  fun env X A s a acc Q E S hA hi hX hown hl ha he hQ => wpAny_bind (h env X A s _ E S hA hi he fun v s₁ t₁ r₁ => by
    have hi₁ := hi.tr t₁
    refine wpAny_bind (acc_append hi₁ hX (ha.tr hi.toIv t₁ fun h => h) r₁ (by omega) fun s₂ t₂ ha₂ => wpAny_pure ?_)
    exact hQ s₂ ((t₁.mono (fun _ _ h => h.elim) fun _ h => h).then (t₂.mono (fun _ _ h => .inr h) fun _ h => h)) ha₂ ((he.step hi t₁).tr hi₁.toIv t₂ fun b hb h => hown (h ▸ hb)))

theorem comp_loop {N : Nat} {e : Expr} {depth : Nat} {p : Pos} {tgt : Expr} {body : Env → Value → Sem Unit} {items : List D} {F : List D → Rho} {f : D → List D} {A : Around} {R : Result → Shared → Prop} {env : Env} {a : Addr} {it : Value} (S : EnvS sc env) (hA : okA k A)
    (hden : denF (.compLoop e depth it (.ref a) env) = ((standAt p >>= fun _ => pyNext it >>= fun r => match r with
      | none => pure (.done .next)
      | some v => letOwnedTupleGo tgt it v >>= fun _ => assign tgt env v >>= fun _ => body env (.ref a) >>= fun _ => again (.compLoop e depth it (.ref a) env) : Sem Fin).onRaise (fun x => do noteFrame x env; theTreesLotGoes x)))
    (hw : (Code.compLoop e depth it (.ref a) env).weight = 0) (hu : (Code.compLoop e depth it (.ref a) env).cUnits = 0) (hq : (Code.compLoop e depth it (.ref a) env).quiet = true)
    (hX : X a) (hown : ¬ own env a)
    (hb : ∀ pre d ds, items = pre ++ d :: ds → ∃ ρ₁ ρ₂, Al c k sc (F (d :: ds)) tgt d ρ₁ ∧ BodyOk N c k sc body ρ₁ ρ₂ (f d) ∧ Sub (F ds) ρ₂)
    {O₀ : Addr → Prop} {OG₀ : Nat → Prop} {acc₀ : List D} (hl : ∀ pre ds, items = pre ++ ds → acc₀.length + (pre.flatMap f).length ≤ N)
    (hR : ∀ s', Tr c X (fun b => b = env.locals ∨ b = a ∨ O₀ b) (OwnG OG₀ s) s s' → Still s' (OwnG OG₀ s) no → AccAt c X s'.heap a (acc₀ ++ items.flatMap f) → EnvAt c X (F []) env s'.heap → R (.ok .next) s') :
    ∀ (rem pre : List D), items = pre ++ rem → ∀ (Xe O₁ : Addr → Prop) (OG₁ : Nat → Prop) (se s' : Shared), Ok c X s' → Tr c X (fun b => b = env.locals ∨ b = a ∨ O₀ b) (OwnG OG₀ s) s s' → Still s' (OwnG OG₀ s) OG₁ → AccAt c X s'.heap a (acc₀ ++ pre.flatMap f) → EnvAt c X (F rem) env s'.heap →
      (∀ b, own env b → Is s'.heap b) → (∀ b, O₁ b → (O₀ b ∨ ¬ Is s.heap b) ∧ ¬ own env b ∧ b ≠ a) → (∀ j, OG₁ j → OwnG OG₀ s j) → It c k it rem Xe O₁ OG₁ se → Ext Xe se X → Tr c X (fun b => ¬ O₁ b) (fun j => ¬ OG₁ j) se s' →
      codeAny (MF c) A (.compLoop e depth it (.ref a) env) R s' := by
  intro rem
  induction rem with
  | nil =>
    intro pre hp Xe O₁ OG₁ se s' hi t st ha he hex hO hOG hI hxe te
    refine codeAny_of_tree ?_
    rw [Around.under_of_weight hw hu]
    show wpAny (MF c) A (denF (.compLoop e depth it (.ref a) env)) _ _ s'
    rw [hden]
    refine wpAny_noted (wpAny_bind (wpAny_standAt (wpAny_bind (hI X A s' _ _ hxe hA hi te fun s₂ t₂ st₂ => wpAny_pure ?_))))
    have hGm : ∀ j, OwnG OG₁ s' j → OwnG OG₀ s j := fun j h => h.elim (hOG j) fun h => .inr (Nat.le_trans t.gsize h)
    have tt : Tr c X (fun b => b = env.locals ∨ b = a ∨ O₀ b) (OwnG OG₀ s) s s₂ := t.trans t₂ (fun x hx h => .inr (.inr ((hO x h).1.elim id fun h => absurd hx h))) (fun j _ h => hGm j h) fun j hj _ => .inr hj
    refine hR s₂ tt (fun j x e ho _ => ?_) ?_ ?_
    · by_cases h : OwnG OG₁ s' j
      · exact st₂ j x e h fun h => h
      · have hj : j < s'.gens.size := Nat.lt_of_not_le fun hn => h (.inr hn)
        have e1 : s'.gens[j]? = some s'.gens[j] := Array.getElem?_eq_getElem hj
        have e2 := t₂.gkeep j _ e1 h
        rw [e] at e2; cases e2
        exact st j _ e1 ho fun hh => h (.inl hh)
    · rw [hp, List.append_nil]; exact ha.tr hi.toIv t₂ fun h => (hO a h).2.2 rfl
    · exact he.tr hi.toIv t₂ fun b hb h => (hO b h).2.1 hb
  | cons d rem ih =>
    intro pre hp Xe O₁ OG₁ se s' hi t st ha he hex hO hOG hI hxe te
    obtain ⟨ρ₁, ρ₂, hAs, hBd, hsub⟩ := hb pre d rem hp
    refine codeAny_of_tree ?_
    rw [Around.under_of_weight hw hu]
    show wpAny (MF c) A (denF (.compLoop e depth it (.ref a) env)) _ _ s'
    rw [hden]
    refine wpAny_noted (wpAny_bind (wpAny_standAt (wpAny_bind (hI X A s' _ _ hxe hA hi te fun u s₂ O₂ OG₂ t₂ ru lo h1 h2 st₂ hI₂ => ?_))))
    refine wpAny_bind (lo _ _ _ _ _ ?_)
    have hi₂ := hi.tr t₂
    have he₂ := he.tr hi.toIv t₂ fun b hb h => (hO b h).2.1 hb
    have ha₂ := ha.tr hi.toIv t₂ fun h => (hO a h).2.2 rfl
    refine wpAny_bind (hAs env X A s₂ u _ _ S hA hi₂ he₂ ru fun s₃ t₃ e₃ => ?_)
    have hi₃ := hi₂.tr t₃
    have ha₃ := ha₂.tr hi₂.toIv t₃ fun (h : a = env.locals) => hown (.inl h)
    refine wpAny_bind (hBd env X A s₃ a _ _ _ S hA hi₃ hX hown (by rw [List.length_append]; exact hl pre (d :: rem) hp) ha₃ e₃ fun s₄ t₄ ha₄ e₄ => wpAny_pure ⟨hq, ?_⟩)
    have hGm : ∀ j, OwnG OG₁ s' j → OwnG OG₀ s j := fun j h => h.elim (hOG j) fun h => .inr (Nat.le_trans t.gsize h)
    have tt₂ : Tr c X (fun b => b = env.locals ∨ b = a ∨ O₀ b) (OwnG OG₀ s) s s₂ := t.trans t₂ (fun x hx h => .inr (.inr ((hO x h).1.elim id fun h => absurd hx h))) (fun j _ h => hGm j h) fun j hj _ => .inr hj
    have t₃₄ : Tr c X (fun b => b = env.locals ∨ b = a) no s₂ s₄ := (t₃.mono (fun _ _ h => .inl h) fun _ h => h).then t₄
    have tt₄ : Tr c X (fun b => b = env.locals ∨ b = a ∨ O₀ b) (OwnG OG₀ s) s s₄ := tt₂.trans t₃₄ (fun x _ h => h.imp id .inl) (fun _ _ h => h.elim) fun j hj _ => .inr hj
    have stt₂ : Still s₂ (OwnG OG₀ s) OG₂ := fun j x e ho hb => by
      by_cases h : OwnG OG₁ s' j
      · exact st₂ j x e h hb
      · have hj : j < s'.gens.size := Nat.lt_of_not_le fun hn => h (.inr hn)
        have e1 : s'.gens[j]? = some s'.gens[j] := Array.getElem?_eq_getElem hj
        have e2 := t₂.gkeep j _ e1 h
        rw [e] at e2; cases e2
        exact st j _ e1 ho fun hh => h (.inl hh)
    have hO₂ : ∀ b, O₂ b → (O₀ b ∨ ¬ Is s.heap b) ∧ ¬ own env b ∧ b ≠ a := fun b hb => (h1 b hb).1.elim (hO b) fun h => ⟨.inr fun hh => h (t.there b hh), fun ho => h (hex b ho), fun hh => h (hh ▸ ha.is)⟩
    refine ih (pre ++ [d]) (by rw [hp]; simp) X O₂ OG₂ s₂ s₄ (hi₂.tr t₃₄) tt₄ (stt₂.step t₃₄) ?_ (e₄.weaken hsub) (fun b hb => t₃₄.there b (t₂.there b (hex b hb))) hO₂ (fun j hj => hGm j (h2 j hj).1) hI₂ (.refl ..) (t₃₄.mono (fun b _ h hb => h.elim (fun h => (hO₂ b hb).2.1 (.inl h)) (hO₂ b hb).2.2) fun _ h => h.elim)
    rw [List.flatMap_append, ← List.append_assoc]
    simpa using ha₄
end
end Dio

namespace Dio
set_option tactic.hygienic false
open PySem PySem.W PySem.Calls PyProof.Rows
open Sem (wp)
set_option maxRecDepth 100000

/-! X. List comprehensions -/
section
variable {c : Cx} {k : Nat} {sc : Scope} {ρ : Rho} {X : Addr → Prop} {s : Shared}

theorem comp_start {elt : Expr} {gens : List Comprehension} {scope : Scope} {pos : Pos} {depth : Nat} {g : Comprehension} {it acc : Value} {env : Env} {A : Around} {R : Result → Shared → Prop} (hg : gens[depth]? = some g) (ha : g.is_async = 0)
    (h0 : codeAny (MF c) A (.compLoop (.ListComp elt gens scope pos) depth it acc env) R s) (hs : ∀ (Q : Value → Shared → Prop) (E : Value → Shared → Prop), Q it s → wpAny (MF c) A (pyIter it) Q E s) :
    codeAny (MF c) A (.compStart (.ListComp elt gens scope pos) depth it acc env) R s := by
  refine codeAny_of_tree ?_
  rw [Around.under_of_weight (by rfl)]
  show wpAny (MF c) A ((compStart (.ListComp elt gens scope pos) depth it acc env).onRaise (fun x => do noteFrame x env; standAt theWindowsPlace)) _ _ s
  refine wpAny_notedAt ?_
  unfold compStart
  have hcl : (clausesOf (.ListComp elt gens scope pos))[depth]? = some g := hg
  rw [hcl]
  have hz : ((g.is_async != 0) : Bool) = false := by rw [ha]; rfl
  show wpAny (MF c) A (if (g.is_async != 0) = true then _ else _) _ _ s
  rw [if_neg (by rw [hz]; exact Bool.false_ne_true)]
  refine wpAny_bind (m := ask) (wpAny_askSetting (wpAny_ite ?_))
  split
  · exact wpAny_bind (wpAny_pure (wpAny_pure (And.intro rfl h0)))
  · refine wpAny_bind (wpAny_rule ?_)
    show wpAny (MF c) A (standAt g.iter.pos >>= _) _ _ s
    exact wpAny_bind (wpAny_standAt (wpAny_bind (hs _ _ (wpAny_pure (And.intro rfl h0)))))

/-- a body in each of its shapes -/
noncomputable abbrev emitB (elt : Expr) (env : Env) (acc : Value) : Sem Unit := eval elt env >>= fun x => call (.builtin "list.append") [acc, x] >>= fun _ => pure ()
theorem den_one (elt tgt iter : Expr) (scope : Scope) (pos : Pos) (it acc : Value) (env : Env) : denF (.compLoop (.ListComp elt [⟨tgt, iter, [], 0⟩] scope pos) 0 it acc env) =
    ((standAt iter.pos >>= fun _ => pyNext it >>= fun r => match r with
      | none => pure (.done .next)
      | some v => letOwnedTupleGo tgt it v >>= fun _ => assign tgt env v >>= fun _ => emitB elt env acc >>= fun _ => again (.compLoop (.ListComp elt [⟨tgt, iter, [], 0⟩] scope pos) 0 it acc env) : Sem Fin).onRaise (fun x => do noteFrame x env; theTreesLotGoes x)) := by rfl

noncomputable abbrev ifB (elt t : Expr) (env : Env) (acc : Value) : Sem Unit := isTrue t env (eval t env) >>= fun ok => if ok = true then emitB elt env acc else pure ()
theorem den_if (elt tgt iter t : Expr) (scope : Scope) (pos : Pos) (it acc : Value) (env : Env) : denF (.compLoop (.ListComp elt [⟨tgt, iter, [t], 0⟩] scope pos) 0 it acc env) =
    ((standAt iter.pos >>= fun _ => pyNext it >>= fun r => match r with
      | none => pure (.done .next)
      | some v => letOwnedTupleGo tgt it v >>= fun _ => assign tgt env v >>= fun _ => ifB elt t env acc >>= fun _ => again (.compLoop (.ListComp elt [⟨tgt, iter, [t], 0⟩] scope pos) 0 it acc env) : Sem Fin).onRaise (fun x => do noteFrame x env; theTreesLotGoes x)) := by
  show (compTurn (.ListComp elt [⟨tgt, iter, [t], 0⟩] scope pos) 0 it acc env).onRaise _ = _
  congr 1
  rw [compTurn_list]
  congr 1
  funext _
  congr 1
  funext r
  cases r with
  | none => rfl
  | some v =>
    dsimp only
    congr 1
    funext _
    congr 1
    funext _
    simp only [List.forIn_cons, List.forIn_nil, if_true, bind_assoc, pure_bind]
    congr 1
    funext ok
    cases ok <;> simp [bind_assoc]

noncomputable abbrev nestB (elt tgt iter tgt₂ iter₂ : Expr) (scope : Scope) (pos : Pos) (env : Env) (acc : Value) : Sem Unit :=
  eval iter₂ env >>= fun x => standAt iter₂.pos >>= fun _ => foldedSetIterable iter₂ env x >>= fun x => holding [x] (pyIter x) >>= fun i => runOwn (.compStart (.ListComp elt [⟨tgt, iter, [], 0⟩, ⟨tgt₂, iter₂, [], 0⟩] scope pos) 1 i acc env) env >>= fun _ => pure ()
theorem den_two (elt tgt iter tgt₂ iter₂ : Expr) (scope : Scope) (pos : Pos) (it acc : Value) (env : Env) : denF (.compLoop (.ListComp elt [⟨tgt, iter, [], 0⟩, ⟨tgt₂, iter₂, [], 0⟩] scope pos) 0 it acc env) =
    ((standAt iter.pos >>= fun _ => pyNext it >>= fun r => match r with
      | none => pure (.done .next)
      | some v => letOwnedTupleGo tgt it v >>= fun _ => assign tgt env v >>= fun _ => nestB elt tgt iter tgt₂ iter₂ scope pos env acc >>= fun _ => again (.compLoop (.ListComp elt [⟨tgt, iter, [], 0⟩, ⟨tgt₂, iter₂, [], 0⟩] scope pos) 0 it acc env) : Sem Fin).onRaise (fun x => do noteFrame x env; theTreesLotGoes x)) := by
  show (compTurn (.ListComp elt [⟨tgt, iter, [], 0⟩, ⟨tgt₂, iter₂, [], 0⟩] scope pos) 0 it acc env).onRaise _ = _
  congr 1
  unfold compTurn
  show (standAt iter.pos >>= fun _ => pyNext it >>= _) = _
  congr 1
  funext _
  congr 1
  funext r
  cases r with
  | none => rfl
  | some v =>
    show (letOwnedTupleGo tgt it v >>= fun _ => assign tgt env v >>= fun _ => _) = _
    dsimp only
    congr 1
    funext _
    congr 1
    funext _
    simp only [nestB, List.forIn_nil, pure_bind, bind_assoc, if_true]
    rfl
theorem den_in (elt tgt iter tgt₂ iter₂ : Expr) (scope : Scope) (pos : Pos) (it acc : Value) (env : Env) : denF (.compLoop (.ListComp elt [⟨tgt, iter, [], 0⟩, ⟨tgt₂, iter₂, [], 0⟩] scope pos) 1 it acc env) =
    ((standAt iter₂.pos >>= fun _ => pyNext it >>= fun r => match r with
      | none => pure (.done .next)
      | some v => letOwnedTupleGo tgt₂ it v >>= fun _ => assign tgt₂ env v >>= fun _ => emitB elt env acc >>= fun _ => again (.compLoop (.ListComp elt [⟨tgt, iter, [], 0⟩, ⟨tgt₂, iter₂, [], 0⟩] scope pos) 1 it acc env) : Sem Fin).onRaise (fun x => do noteFrame x env; theTreesLotGoes x)) := by rfl

theorem body_if {N : Nat} {elt t : Expr} {b : Bool} {d : D} {ρ : Rho} (hN : N ≤ 100000) (ht : Tst c k sc ρ t b) (h : b = true → Ev c k sc ρ elt d) : BodyOk N c k sc (ifB elt t) ρ ρ (if b then [d] else []) :=
  fun env X A s a acc Q E S hA hi hX hown hl ha he hQ => wpAny_bind (ht env X A s _ E S hA hi he fun s₁ t₁ => by
    have hi₁ := hi.tr t₁
    have ha₁ := ha.tr hi.toIv t₁ fun h => h
    have he₁ := he.step hi t₁
    cases b with
    | false =>
      refine wpAny_pure (hQ s₁ (t₁.mono (fun _ _ h => h.elim) fun _ h => h) ?_ he₁)
      rw [if_neg Bool.false_ne_true, List.append_nil]; exact ha₁
    | true => exact body_emit hN (h rfl) env X A s₁ a acc Q E S hA hi₁ hX hown hl ha₁ he₁ fun s' t' ha' he' => hQ s' ((t₁.mono (fun _ _ h => h.elim) fun _ h => h).then t') ha' he')

theorem flatMap_one {α β : Type} (f : α → β) : ∀ l : List α, (l.flatMap fun d => [f d]) = l.map f
  | [] => rfl
  | d :: l => by rw [List.flatMap_cons, List.map_cons, flatMap_one f l]; rfl
theorem body_nest {N N' : Nat} {elt tgt iter tgt₂ iter₂ : Expr} {scope : Scope} {pos : Pos} {ρ : Rho} {items : List D} {F : List D → Rho} {f : D → D} (hI : EvI c k sc ρ iter₂ items) (h₀ : Sub (F items) ρ) (hN : N + items.length ≤ N') (hN' : N' ≤ 100000)
    (hb : ∀ pre d ds, items = pre ++ d :: ds → ∃ ρ₁, Al c k sc (F (d :: ds)) tgt₂ d ρ₁ ∧ Ev c k sc ρ₁ elt (f d) ∧ Sub (F ds) ρ₁) (hfs : ∀ env x, foldedSetIterable iter₂ env x = pure x := by intro _ _; rfl) :
    BodyOk N c k sc (nestB elt tgt iter tgt₂ iter₂ scope pos) ρ (F []) (items.map f) :=
  fun env X A s a acc Q E S hA hi hX hown hl ha he hQ => wpAny_bind (wpAny_mono (hI env X A s (fun i s₁ => ∃ O₁ OG₁, Tr c X no no s s₁ ∧ (∀ b, O₁ b → ¬ Is s.heap b ∧ Is s₁.heap b) ∧ (∀ j, OG₁ j → s.gens.size ≤ j ∧ j < s₁.gens.size) ∧ It c k i items X O₁ OG₁ s₁ ∧ Sf c i X O₁ OG₁ s₁) E S hA hi he
    fun i s₁ O₁ OG₁ t h1 h2 h3 h4 => ⟨O₁, OG₁, t, h1, h2, h3, h4⟩) (fun x s' hx => wpAny_bind (wpAny_standAt (by
      rw [hfs]
      refine wpAny_bind (wpAny_pure (wpAny_bind (wpAny_holding (wpAny_mono hx (fun i s₁ hi' => ?_) fun _ _ h => h))))
      obtain ⟨O₁, OG₁, t₁, h1, h2, h3, h4⟩ := hi'
      have hi₁ := hi.tr t₁
      have ha₁ := ha.tr hi.toIv t₁ fun h => h
      have he₁ := (he.step hi t₁).weaken h₀
      refine wpAny_bind (wpAny_runOwn ?_)
      refine comp_start (g := ⟨tgt₂, iter₂, [], 0⟩) rfl rfl ?_ fun Q E hq => h4 X A s₁ Q E (.refl ..) hi₁ (.refl ..) hq
      refine comp_loop (items := items) (N := N') (s := s₁) (O₀ := O₁) (OG₀ := OG₁) (F := F) (f := fun d => [f d]) (body := emitB elt) S hA (den_in elt tgt iter tgt₂ iter₂ scope pos i (.ref a) env) (by rfl) (by rfl) (by rfl) hX hown (fun pre d ds hp => ?_) (fun pre ds hp => ?_) (fun s₂ t₂ st₂ ha₂ he₂ => ?_)
        items [] rfl X O₁ OG₁ s₁ s₁ hi₁ (.refl ..) (fun j x e ho hb => ?_) (by simpa using ha₁) he₁ (fun b hb => he₁.is hb) (fun b hb => ⟨.inl hb, fun ho => (h1 b hb).1 (he.is ho), fun hh => (h1 b hb).1 (hh ▸ ha.is)⟩) (fun j hj => .inl hj) h3 (.refl ..) (.refl ..)
      · obtain ⟨ρ₁, q1, q2, q3⟩ := hb pre d ds hp
        exact ⟨ρ₁, ρ₁, q1, body_emit hN' q2, q3⟩
      · have e1 : (pre.flatMap fun d => [f d]).length = pre.length := by rw [flatMap_one, List.length_map]
        have e2 : items.length = pre.length + ds.length := by rw [hp, List.length_append]
        rw [e1]; omega
      · refine wpAny_pure (hQ s₂ ?_ ?_ he₂)
        · have tt : Tr c X (fun b => b = env.locals ∨ b = a) (OwnG OG₁ s₁) s s₂ := (t₁.mono (fun _ _ h => h.elim) fun _ h => h.elim).trans t₂ (fun b hb h => h.elim .inl fun h => h.elim .inr fun h => absurd hb (h1 b h).1) (fun j _ h => h) (fun j _ h => h.elim id id)
          exact tt.close (fun j h => h.elim (fun h => (h2 j h).1) fun h => Nat.le_trans t₁.gsize h) st₂
        · have e1 : (items.flatMap fun d => [f d]) = items.map f := flatMap_one f items
          rw [← e1]; exact ha₂
      · exact absurd (Array.getElem?_eq_some_iff.mp e).1 fun hlt => ho.elim (fun h => hb h) fun h => absurd hlt (Nat.not_lt.mpr h)))) fun _ _ h => h)
end
end Dio

namespace Dio
set_option tactic.hygienic false
open PySem PySem.W PySem.Calls PyProof.Rows
open Sem (wp)
set_option maxRecDepth 100000

/-! Y. List comprehensions, whole -/
mutual
theorem Rep.but {c : Cx} {X : Addr → Prop} {h h' : Heap} {C : Addr} (hk : ∀ b o, b ≠ C → h.get? b = some o → h'.get? b = some o) (hC : ∀ o, h.get? C = some o → ¬ Frozen o) : ∀ {v : Value} {d : D}, Rep c X h v d → Rep c X h' v d
  | _, _, .none => .none
  | _, _, .bool b => .bool b
  | _, _, .int i t => .int i t
  | _, _, .tup a r => .tup (let ⟨n, e⟩ := a.at_; ⟨⟨n, hk _ _ (fun hh => hC _ (hh ▸ e) (.seqObj ..)) e⟩, a.notX, fun ho o eo => a.old ho o (by rw [hk _ _ (fun hh => hC _ (hh ▸ e) (.seqObj ..)) e] at eo; cases eo; exact e)⟩) (RepL.but hk hC r)
  | _, _, .list a r => .list (let ⟨n, e⟩ := a.at_; ⟨⟨n, hk _ _ (fun hh => hC _ (hh ▸ e) (.seqObj ..)) e⟩, a.notX, fun ho o eo => a.old ho o (by rw [hk _ _ (fun hh => hC _ (hh ▸ e) (.seqObj ..)) e] at eo; cases eo; exact e)⟩) (RepL.but hk hC r)
  | _, _, .obj a => .obj a
theorem RepL.but {c : Cx} {X : Addr → Prop} {h h' : Heap} {C : Addr} (hk : ∀ b o, b ≠ C → h.get? b = some o → h'.get? b = some o) (hC : ∀ o, h.get? C = some o → ¬ Frozen o) : ∀ {vs : List Value} {ds : List D}, RepL c X h vs ds → RepL c X h' vs ds
  | _, _, .nil => .nil
  | _, _, .cons r rs => .cons (Rep.but hk hC r) (RepL.but hk hC rs)
end

section
variable {c : Cx} {k : Nat} {sc : Scope} {ρ : Rho} {X : Addr → Prop} {s : Shared}

theorem ns_notFrozen {h : Heap} {C : Addr} {m : Str → Option Value} (hn : h.Ns C m) : ∀ o, h.get? C = some o → ¬ Frozen o := fun o e ⟨_, _, hf⟩ => by
  obtain ⟨o', _, _, e', hd, _⟩ := hn
  rw [e] at e'; cases e'
  rw [hd] at hf; cases hf

theorem EnvAt.but {h h' : Heap} {C : Addr} {env : Env} (he : EnvAt c X ρ env h) (hk : ∀ b o, b ≠ C → h.get? b = some o → h'.get? b = some o) (hC : ∀ o, h.get? C = some o → ¬ Frozen o) (ho : ¬ own env C) : EnvAt c X ρ env h' := by
  obtain ⟨m, cm, V, hv⟩ := he
  refine ⟨m, cm, ⟨V.ns.at fun o e => hk _ o (fun hh => ho (hh ▸ .inl rfl)) e, fun x a ha => ?_, V.apart, V.low, V.lowc, V.code⟩, fun x d hd => ?_⟩
  · obtain ⟨o, e, hd⟩ := V.cell x a ha
    exact ⟨o, hk _ _ (fun hh => ho (hh ▸ .inr ⟨x, ha⟩)) e, hd⟩
  · obtain ⟨v, r, h1⟩ := hv x d hd
    exact ⟨v, r.but hk hC, h1⟩

theorem Tr.but2 {W : Addr → Prop} {G : Nat → Prop} {s' : Shared} {h' : Heap} {C : Addr} (hi : Iv c s) (t : Tr c X W G s s') (hs : Heap.SameBut C s'.heap h') (hC : ¬ Is s.heap C) : Tr c X W G s { s' with heap := h' } where
  there := fun b hb => let ⟨o, e⟩ := t.there b hb; ⟨o, (hs.2 b fun hh => hC (hh ▸ hb)).trans e⟩
  keep := fun b o e hP hw => (hs.2 b fun hh => hC (hh ▸ ⟨o, e⟩)).trans (t.keep b o e hP hw)
  tab := fun h => (t.tab h).at (fun o e => (hs.2 _ (fun hh => hC (hh ▸ hi.is_old hi.lowC))).trans e) (fun o e => (hs.2 _ (fun hh => hC (hh ▸ hi.is_old hi.lowP))).trans e)
  gsize := t.gsize
  gkeep := t.gkeep
  gnew := t.gnew
  os := t.os

noncomputable def LoopDen (elt tgt iter : Expr) (ifs : List Expr) (rest : List Comprehension) (scope : Scope) (pos p : Pos) (body : Env → Value → Sem Unit) : Prop :=
  ∀ it acc env, denF (.compLoop (.ListComp elt (⟨tgt, iter, ifs, 0⟩ :: rest) scope pos) 0 it acc env) = ((standAt p >>= fun _ => pyNext it >>= fun r => match r with
      | none => pure (.done .next)
      | some v => letOwnedTupleGo tgt it v >>= fun _ => assign tgt env v >>= fun _ => body env acc >>= fun _ => again (.compLoop (.ListComp elt (⟨tgt, iter, ifs, 0⟩ :: rest) scope pos) 0 it acc env) : Sem Fin).onRaise (fun x => do noteFrame x env; theTreesLotGoes x))

theorem comp_core {N : Nat} {elt tgt iter : Expr} {ifs : List Expr} {rest : List Comprehension} {scope : Scope} {pos p : Pos} {use : Option (Value → Sem Unit)} {body : Env → Value → Sem Unit} {items : List D} {f : D → List D} (F : List D → Rho) {A : Around} {env : Env} {Q : Value → Shared → Prop} {E : Value → Shared → Prop}
    (H : CompSc scope sc) (hI : EvI c k sc ρ iter items) (h₀ : Sub (F items) (inner scope ρ))
    (hb : ∀ pre d ds, items = pre ++ d :: ds → ∃ ρ₁ ρ₂, Al c k (relab scope sc) (F (d :: ds)) tgt d ρ₁ ∧ BodyOk N c k (relab scope sc) body ρ₁ ρ₂ (f d) ∧ Sub (F ds) ρ₂) (hN : (items.flatMap f).length ≤ N)
    (hden : LoopDen elt tgt iter ifs rest scope pos p body)
    (S : EnvS sc env) (hA : okA k A) (hi : Ok c X s) (he : EnvAt c X ρ env s.heap) (hfs : ∀ env x, foldedSetIterable iter env x = pure x)
    (hpost : ∀ a C m s', ¬ Is s.heap C → s'.heap.Ns C m → Tr c X no no s s' → Rep c X s'.heap (.ref a) (.list (items.flatMap f)) → compPost (MF c) A E use Q (.ref a) C (.ok .next) s') :
    wpAny (MF c) A (comprehension (.ListComp elt (⟨tgt, iter, ifs, 0⟩ :: rest) scope pos) scope env (firstIterPos (⟨tgt, iter, ifs, 0⟩ :: rest) pos) (newList []) (firstAsync (⟨tgt, iter, ifs, 0⟩ :: rest)) (firstIter (⟨tgt, iter, ifs, 0⟩ :: rest) env) use) Q E s := by
  show wpAny (MF c) A (comprehension _ scope env _ (newList []) false (eval iter env) use) Q E s
  refine wpAny_comprehension_free (g := ⟨tgt, iter, ifs, 0⟩) (gs := rest) rfl (hfs env) (closure_eq H S) H.kind (fun x hx hl => by rw [← hl]; exact lookup_of_nd H.nd hx) ?_
  refine hI env X A s _ E S hA hi he fun i s₂ O₁ OG₁ t₂ h1 h2 h3 h4 => ?_
  refine wpAny_newObj_type ?_ (by size_fits)
  have hnew : ¬ Is s₂.heap s₂.heap.objs.size := not_is_size _
  have hi₂ := hi.tr t₂
  have t₃ : Tr c X no no s₂ { s₂ with heap := s₂.heap.push { cls := .type "list", data := .seq ([] : List Value).toArray } } := Tr.push (t := s₂.toks)
  have hget : (s₂.heap.push { cls := .type "list", data := .seq ([] : List Value).toArray }).get? s₂.heap.objs.size = some (seqObj "list" [] 0) := Heap.get?_push_size _ rfl
  generalize hs₃ : ({ s₂ with heap := s₂.heap.push { cls := .type "list", data := .seq ([] : List Value).toArray } } : Shared) = s₃ at t₃ ⊢
  have hget₃ : s₃.heap.get? s₂.heap.objs.size = some (seqObj "list" [] 0) := by rw [← hs₃]; exact hget
  generalize ha : s₂.heap.objs.size = a at hnew hget₃ ⊢
  have hna : ¬ Is s.heap a := fun h => hnew (t₂.there _ h)
  have hX₃ : Ext X s₂ (fun b => X b ∨ b = a) := ⟨fun _ h => .inl h, fun b hb => hb.imp id fun (hb : b = a) => by rw [hb]; exact hnew⟩
  have hi₃ : Ok c (fun b => X b ∨ b = a) s₃ := ⟨(hi₂.tr t₃).toIv, fun b hb => hb.elim (fun hb => (hi₂.tr t₃).xs b hb) fun (hb : b = a) => by rw [hb]; exact ⟨_, hget₃⟩⟩
  have t₂₃ := t₂.seq t₃
  have xs : ∀ b, X b → Is s.heap b := hi.xs
  have he₃ : EnvAt c (fun b => X b ∨ b = a) ρ env s₃.heap := ((he.step hi t₂).ext hX₃.2).tr hi₂.toIv (t₃.ext hX₃) fun _ _ h => h
  have hacc : AccAt c (fun b => X b ∨ b = a) s₃.heap a [] := ⟨[], 0, hget₃, .nil, fun ho => hnew (hi₂.toIv.is_old ho)⟩
  refine comp_frame H S hi₃ he₃ fun cenv s₄ S₄ e₄ t₄ hC hcells => ?_
  have hi₄ := hi₃.tr t₄
  have hCnew : ¬ Is s₃.heap cenv.locals := by rw [hC.1]; exact not_is_size _
  have hown : ∀ b, own { cenv with scope := relab scope sc } b → b = cenv.locals ∨ own env b := fun b hb => hb.imp id fun ⟨x, hx⟩ => hcells x b hx
  have hown_s : ∀ b, own env b → Is s.heap b := fun b hb => he.is hb
  have hna_own : ¬ own { cenv with scope := relab scope sc } a := fun hh => (hown a hh).elim (fun hh => hCnew (hh ▸ ⟨_, hget₃⟩)) fun hh => hna (hown_s a hh)
  have t₂₄ : Tr c (fun b => X b ∨ b = a) no no s₂ s₄ := (t₃.ext hX₃).seq t₄
  have hrel : relabel scope env = relab scope sc := relabel_eq S
  rw [hrel]
  have ha₄ := hacc.tr hi₃.toIv t₄ fun h => h
  refine comp_start (g := ⟨tgt, iter, ifs, 0⟩) rfl rfl ?_ fun Q E hq => h4 (fun b => X b ∨ b = a) A s₄ Q E hX₃ hi₄ (t₂₄.mono (fun _ _ h => h.elim) fun _ h => h.elim) hq
  refine comp_loop (k := k) (items := items) (N := N) (s := s₄) (X := fun b => X b ∨ b = a) (O₀ := O₁) (OG₀ := OG₁) (F := F) (f := f) (body := body) (acc₀ := []) S₄ hA (hden i (.ref a) _) (by rfl) (by rfl) (by rfl) (.inr rfl) hna_own hb (fun pre ds hp => ?_) (fun s₅ t₅ st₅ ha₅ he₅ => ?_)
    items [] rfl X O₁ OG₁ s₂ s₄ hi₄ (.refl ..) (fun j x e ho hb => ?_) (by simpa using ha₄) (e₄.weaken h₀) (fun b hb => e₄.is hb) (fun b hb => ⟨.inl hb, fun ho => ?_, fun hh => hnew (hh ▸ (h1 b hb).2)⟩) (fun j hj => .inl hj) h3 hX₃ (t₂₄.mono (fun _ _ h => h.elim) fun _ h => h.elim)
  · rw [hp, List.flatMap_append, List.length_append] at hN
    simp only [List.length_nil, Nat.zero_add]; omega
  · obtain ⟨m, cm, V₅, _⟩ := he₅
    have hCs : ¬ Is s.heap cenv.locals := fun h => hCnew (t₂₃.there _ h)
    have xsub : ∀ b, Is s.heap b → (X b ∨ b = a) → X b := fun b hb h => h.elim id fun (h : b = a) => absurd (h ▸ hb) hna
    have T : Tr c (fun b => X b ∨ b = a) no no s s₅ := by
      have q1 : Tr c (fun b => X b ∨ b = a) no no s s₄ := (t₂.monoX fun _ _ h => .inl h).seq t₂₄
      have q2 : Tr c (fun b => X b ∨ b = a) no (OwnG OG₁ s₄) s s₅ := (q1.mono (fun _ _ h => h) fun _ h => h.elim).trans t₅ (fun b hb h => h.elim (fun (h : b = cenv.locals) => absurd (h ▸ hb) hCs) fun h => h.elim (fun (h : b = a) => absurd (h ▸ hb) hna) fun h => (absurd hb (h1 b h).1)) (fun j _ h => h) fun j _ h => h.elim id id
      exact q2.close (fun j h => h.elim (fun h => (h2 j h).1) fun h => Nat.le_trans (Nat.le_trans t₂.gsize t₂₄.gsize) h) st₅
    obtain ⟨vs, n, e₅, r₅, ho₅⟩ := ha₅
    refine hpost a cenv.locals m s₅ hCs V₅.ns (T.monoX xsub) (.list ⟨⟨n, e₅⟩, fun hx => hna (xs a hx), fun ho => absurd ho ho₅⟩ (by simpa using r₅.less fun b hb => .inl hb))
  · exact absurd (Array.getElem?_eq_some_iff.mp e).1 fun hlt => ho.elim (fun h => hb h) fun h => absurd hlt (Nat.not_lt.mpr h)
  · rcases hown b ho with hh | hh
    · exact hCnew (hh ▸ t₃.there b (h1 b hb).2)
    · exact (h1 b hb).1 (hown_s b hh)

/-- a list comprehension as a value -/
theorem ev_comp {N : Nat} {elt tgt iter : Expr} {ifs : List Expr} {rest : List Comprehension} {scope : Scope} {pos p : Pos} {body : Env → Value → Sem Unit} {items : List D} {f : D → List D} (F : List D → Rho)
    (H : CompSc scope sc) (hI : EvI c k sc ρ iter items) (h₀ : Sub (F items) (inner scope ρ))
    (hb : ∀ pre d ds, items = pre ++ d :: ds → ∃ ρ₁ ρ₂, Al c k (relab scope sc) (F (d :: ds)) tgt d ρ₁ ∧ BodyOk N c k (relab scope sc) body ρ₁ ρ₂ (f d) ∧ Sub (F ds) ρ₂) (hN : (items.flatMap f).length ≤ N)
    (hden : LoopDen elt tgt iter ifs rest scope pos p body)
    (hfs : ∀ env x, foldedSetIterable iter env x = pure x := by intro _ _; rfl) : Ev c k sc ρ (.ListComp elt (⟨tgt, iter, ifs, 0⟩ :: rest) scope pos) (.list (items.flatMap f)) :=
  fun env X A s Q E S hA hi he hQ => by
    rw [eval_ListComp]
    refine comp_core F H hI h₀ hb hN hden S hA hi he hfs fun a C m s' hC hn t r => ⟨m, hn, fun h' hs' => ?_⟩
    exact hQ _ _ (t.but2 hi.toIv hs' hC) (r.but (fun b o hb e => (hs'.2 b hb).trans e) (ns_notFrozen hn))

/-- x = [...] : the store comes before the variables go -/
theorem ex_comp {N : Nat} {elt tgt iter : Expr} {ifs : List Expr} {rest : List Comprehension} {scope : Scope} {pos p pos' spos : Pos} {x : Str} {body : Env → Value → Sem Unit} {items : List D} {f : D → List D} (F : List D → Rho) {ss : List Stmt} {ρ' : Rho} {R : Out → Prop}
    (H : CompSc scope sc) (hI : EvI c k sc ρ iter items) (h₀ : Sub (F items) (inner scope ρ))
    (hb : ∀ pre d ds, items = pre ++ d :: ds → ∃ ρ₁ ρ₂, Al c k (relab scope sc) (F (d :: ds)) tgt d ρ₁ ∧ BodyOk N c k (relab scope sc) body ρ₁ ρ₂ (f d) ∧ Sub (F ds) ρ₂) (hN : (items.flatMap f).length ≤ N)
    (hden : LoopDen elt tgt iter ifs rest scope pos p body)
    (ht : As c k sc ρ (.Name x pos') (.list (items.flatMap f)) ρ') (hr : Ex c k sc ρ' ss R)
    (hsw : ∀ env, env.scope = sc → swapsWith (.ListComp elt (⟨tgt, iter, ifs, 0⟩ :: rest) scope pos) (some (.Name x pos')) spos.line env = pure true)
    (hfs : ∀ env x, foldedSetIterable iter env x = pure x := by intro _ _; rfl) : Ex c k sc ρ (.Assign [.Name x pos'] (.ListComp elt (⟨tgt, iter, ifs, 0⟩ :: rest) scope pos) spos :: ss) R :=
  fun env X A s Q E S hA hi he hQ => wpAny_execs_cons (by
    rw [exec_Assign_Name_used _ _ _ _ (hsw env S.scope)]
    refine wpAny_bind (wpAny_standAt (wpAny_bind ?_))
    show wpAny (MF c) A (comprehension _ scope env _ (newList []) _ (firstIter _ env) (some (assign (.Name x pos') env)) >>= fun _ => pure ()) _ E s
    refine wpAny_bind (comp_core F H hI h₀ hb hN hden S hA hi he hfs fun a C m s' hC hn t r => ?_)
    have hi' := hi.tr t
    have hoC : ¬ own env C := fun h => hC (he.is h)
    refine ht env X A s' (.ref a) _ E S hA hi' (he.step hi t) r fun s'' t'' e'' => ?_
    have hn'' : s''.heap.Ns C m := hn.at fun o e => t''.keep C o e (fun h => hC (h ▸ hi.toIv.is_old hi.lowP)) fun h => absurd h hoC
    refine ⟨m, hn'', fun h' hs' => wpAny_pure (wpAny_pure ?_)⟩
    have T := (t.ownL.then t'').but2 hi.toIv hs' hC
    exact hr env X A _ Q E S hA (hi.tr T) (e''.but (fun b o hb e => (hs'.2 b hb).trans e) (ns_notFrozen hn'') hoC) fun o fl s₃ t₃ hR ho => hQ o fl s₃ (T.then t₃) hR ho)
end
end Dio

namespace Dio
set_option tactic.hygienic false
open PySem PySem.W PySem.Calls PyProof.Rows
open Sem (wp)
set_option maxRecDepth 100000

/-! L. Built-ins, and the first defs -/
noncomputable def stmtAt (n : Nat) : Stmt := PySem.Challenge.pw_iy0017_01.main.body.getD n (.Pass default)
noncomputable def bodyOf : Stmt → List Stmt
  | .FunctionDef _ _ b _ _ _ _ _ _ _ => b
  | _ => []
noncomputable def bodyAt (n : Nat) : List Stmt := bodyOf (stmtAt n)

theorem mg_none {c : Cx} (G : Gnd c) {x : Str} (h1 : startupNames.contains x = false) (h2 : ((recsOf q).map (·.name)).contains x = false) : c.mg x = none :=
  G.free x (fun h => by rw [List.contains_iff_mem.mpr h] at h1; cases h1) fun h => by rw [List.contains_iff_mem.mpr h] at h2; cases h2
theorem glo_builtin {c : Cx} {sc : Scope} (G : Gnd c) {x : Str} {v : Value} (hk : sc.names.lookup x = some .globalImplicit) (hb : bootBuiltins x = some v) (h1 : startupNames.contains x = false) (h2 : ((recsOf q).map (·.name)).contains x = false)
    (hn : x ≠ "__name__") (hd : (x == ("__debug__" : Str)) = false) : Glo c sc x v :=
  ⟨hk, .inr ⟨mg_none G h1 h2, (G.builtins x hn).trans hb⟩, hd⟩

section
variable {c : Cx} {k : Nat}
theorem call_abs (i : Int) : CallOk c k (.builtin "abs") [.int i] (.int (if i < 0 then -i else i)) := fun X A s vs Q E hA hi hr hQ => by
  cases hr with
  | cons r rs =>
    cases rs
    cases r with
    | int _ t => exact lift (PyProof.Rows.call_abs_int fun u tk => hQ _ _ (.toks tk) (.int _ u))

theorem gcd_emod_r {a b : Int} (ha : 0 ≤ a) (hb : 0 ≤ b) : Int.gcd b (a % b) = Int.gcd b a := by
  obtain ⟨m, rfl⟩ := Int.eq_ofNat_of_zero_le ha
  obtain ⟨n, rfl⟩ := Int.eq_ofNat_of_zero_le hb
  show Nat.gcd n ((m : Int) % (n : Int)).natAbs = Nat.gcd n m
  rw [← Int.natCast_emod, Int.natAbs_natCast, Nat.gcd_rec n m, Nat.gcd_comm]
theorem gcd_ex (G : Gnd c) (a b : Int) : Ex c k dGcd.scope (bindR ["a", "b"] [.int a, .int b] fun _ => none) dGcd.body (fun o => o = .ret (.int (Int.gcd a b))) := by
  have gabs : Glo c dGcd.scope "abs" (.builtin "abs") := glo_builtin G (by kernel_rfl) (by kernel_rfl) (by kernel_rfl) (by kernel_rfl) (by decide) (by decide)
  rw [show dGcd.body = bodyAt 1 from by kernel_rfl]
  refine Ex.swap (d₁ := .int (if a < 0 then -a else a)) (d₂ := .int (if b < 0 then -b else b)) (by kernel_rfl) (by kernel_rfl)
    (.cons (.call G gabs (.builtin _) (.cons (.name (by rfl)) .nil) (call_abs a)) (.cons (.call G gabs (.builtin _) (.cons (.name (by rfl)) .nil) (call_abs b)) .nil)) ?_ (hw := fun env he => ?_)
  · refine Ex.while (σ := Int × Int) (fun p => upd (upd (fun _ => none) "b" (.int p.2)) "a" (.int p.1)) (fun p => 0 ≤ p.1 ∧ 0 ≤ p.2 ∧ Int.gcd p.1 p.2 = Int.gcd a b) (fun p => p.2.toNat) (fun p => p.2 != 0) (fun p hp => .name (by rfl)) (fun p hp hb => ?_) (fun p hp hb => ?_)
      (if a < 0 then -a else a, if b < 0 then -b else b) ⟨by split <;> omega, by split <;> omega, ?_⟩ (Sub.upd (by rfl) (Sub.upd (by rfl) (Sub.empty _)))
    · have hb' : p.2 ≠ 0 := by simpa using hb
      refine Ex.swap (d₁ := .int p.2) (d₂ := .int (p.1.fmod p.2)) (by kernel_rfl) (by kernel_rfl) (.cons (.name (by rfl)) (.cons (.bin (.name (by rfl)) (.name (by rfl)) (Op2.mod _ _ hb')) .nil)) (Ex.nil ⟨(p.2, p.1.fmod p.2), _, rfl, Sub.upd (by rfl) (Sub.upd (by rfl) (Sub.empty _)), ?_, ?_⟩) (hw := fun env he => by cases env; subst he; rfl)
      · have h2 : 0 < p.2 := by have := hp.2.1; omega
        rw [Int.fmod_eq_emod_of_nonneg _ hp.2.1]
        refine ⟨hp.2.1, Int.emod_nonneg _ hb', ?_⟩
        rw [← hp.2.2]
        show Int.gcd p.2 (p.1 % p.2) = _
        rw [Int.gcd_comm p.1 p.2]; exact gcd_emod_r hp.1 hp.2.1
      · show (p.1.fmod p.2).toNat < p.2.toNat
        have h2 : 0 < p.2 := by have := hp.2.1; omega
        rw [Int.fmod_eq_emod_of_nonneg _ hp.2.1]
        have := Int.emod_lt_of_pos p.1 h2
        have := Int.emod_nonneg p.1 hb'
        omega
    · refine Ex.ret (.name (by rfl)) ?_
      have hb' : p.2 = 0 := by simpa using hb
      have := hp.2.2
      rw [hb'] at this
      have h3 := Int.gcd_zero_right p.1
      rw [this] at h3
      rw [h3]
      have := hp.1
      congr 2; omega
    · have hn : ∀ x : Int, (if x < 0 then -x else x) = x.natAbs := fun x => by split <;> omega
      show Int.gcd (if a < 0 then -a else a) (if b < 0 then -b else b) = _
      rw [hn, hn]
      simp [Int.gcd]
  · cases env; subst he; rfl

theorem gcd_call (G : Gnd c) (a b : Int) : ∃ f, c.mg "_gcd" = some (.ref f) ∧ Callee c (.ref f) ∧ CallOk c (k + 1) (.ref f) [.int a, .int b] (.int (Int.gcd a b)) := by
  have := call_own (k := k) (d := dGcd) (ns := ["a", "b"]) (ds := [.int a, .int b]) (dr := .int (Int.gcd a b)) G (dd_mem ..) dGcd_sc dGcd_gen (fun pm code doc vs h => dGcd_bind pm code doc vs h) (gcd_ex G a b)
  rw [dGcd_name] at this
  exact this
end
end Dio

namespace Dio
set_option tactic.hygienic false
open PySem PySem.W PySem.Calls PyProof.Rows
open Sem (wp)
set_option maxRecDepth 100000

/-! Z. The plain recursive def, and helpers for the rest -/
noncomputable def scCheck (sc : Scope) (ns : List Str) : Bool :=
  sc.kind == .function && !sc.isCoroutine && (sc.names.all fun p => p.2 != .free) && ns.all fun x => sc.names.lookup x == some .local || sc.names.lookup x == some .cell
theorem scOk_of {sc : Scope} {ns : List Str} (h : scCheck sc ns = true) : ScOk sc ns := by
  unfold scCheck at h
  simp only [Bool.and_eq_true, beq_iff_eq, Bool.not_eq_true'] at h
  obtain ⟨⟨⟨h1, h2⟩, h3⟩, h4⟩ := h
  refine ⟨h1, h2, noFree_of h3, fun x hx => ?_⟩
  have := List.all_eq_true.mp h4 x hx
  simpa using this

theorem glo_def {c : Cx} {sc : Scope} {x : Str} {v : Value} (hk : sc.names.lookup x = some .globalImplicit) (hv : c.mg x = some v) (hd : (x == ("__debug__" : Str)) = false := by decide) : Glo c sc x v := ⟨hk, .inl hv, hd⟩
noncomputable def dEE : DefRec := dd 4 (by decide)
theorem dEE_name : dEE.name = "extended_euclid" := by kernel_rfl
theorem dEE_bind (pm code doc : Value) (vs : List Value) (h : vs.length = 2) : bindArgs (docDef dEE.name dEE.params dEE.body dEE.scope pm code doc) ⟨vs, []⟩ = pure ((["a", "b"] : List Str).zip vs) := by
  obtain ⟨u, v, rfl⟩ := len2 h
  kernel_rfl

/-- what it computes -/
noncomputable def eeF : Nat → Int → Int → Int × Int × Int
  | 0, a, _ => (1, 0, a)
  | n + 1, a, b => if b = 0 then (1, 0, a) else
    let r := eeF n b (a % b)
    (r.2.1, r.1 - a / b * r.2.1, r.2.2)
noncomputable def trio (r : Int × Int × Int) : D := .tup [.int r.1, .int r.2.1, .int r.2.2]

section
variable {c : Cx} {k : Nat}
theorem ee_call (G : Gnd c) : ∀ (n : Nat) (a b : Int), 0 ≤ a → 0 ≤ b → b < n → a ≤ 100 → b ≤ 100 →
    ∃ f, c.mg "extended_euclid" = some (.ref f) ∧ Callee c (.ref f) ∧ CallOk c (n + 1) (.ref f) [.int a, .int b] (trio (eeF n a b))
  | 0, a, b, ha, hb, hn, _, _ => by omega
  | n + 1, a, b, ha, hb, hn, ha', hb' => by
    have body : Ex c (n + 1) dEE.scope (bindR ["a", "b"] [.int a, .int b] fun _ => none) dEE.body (fun o => o = .ret (trio (eeF (n + 1) a b))) := by
      rw [show dEE.body = bodyAt 5 from by kernel_rfl]
      refine Ex.ite (Tst.cmp (.name (by rfl)) (.int 0 _ _) (Op2.eq b 0)) (fun h => ?_) fun h => ?_
      · have hb0 : b = 0 := by simpa using h
        refine Ex.ret (.tupD (.cons (.int 1 _ _) (.cons (.int 0 _ _) (.cons (.name (by rfl)) .nil)))) ?_
        unfold eeF; rw [if_pos hb0]; rfl
      · have hb0 : b ≠ 0 := by simpa using h
        have hbp : 0 < b := by omega
        have hm : a.fmod b = a % b := Int.fmod_eq_emod_of_nonneg _ hb
        have hd : a.fdiv b = a / b := Int.fdiv_eq_ediv_of_nonneg _ hb
        have h1 := Int.emod_nonneg a hb0
        have h2 := Int.emod_lt_of_pos a hbp
        obtain ⟨f, hf, hc, hcall⟩ := ee_call G n b (a % b) hb h1 (by omega) hb' (by omega)
        refine Ex.assign (d := trio (eeF n b (a % b))) (.call G (glo_def (by kernel_rfl) hf) hc (.cons (.name (by rfl)) (.cons (.bin (.name (by rfl)) (.name (by rfl)) (hm ▸ Op2.mod a b hb0)) .nil)) hcall)
          (As.tup (.cons (.name (by kernel_rfl)) (.cons (.name (by kernel_rfl)) (.cons (.name (by kernel_rfl)) .nil)))) ?_
        refine Ex.swap (d₁ := .int (eeF n b (a % b)).2.1) (d₂ := .int ((eeF n b (a % b)).1 - a / b * (eeF n b (a % b)).2.1)) (by kernel_rfl) (by kernel_rfl)
          (.cons (.name (by rfl)) (.cons (.bin (.name (by rfl)) (.bin (.bin (.name (by rfl)) (.name (by rfl)) (hd ▸ Op2.div a b hb0 (by omega) (by omega))) (.name (by rfl)) (Op2.mul _ _ ?_)) (Op2.sub _ _)) .nil)) ?_ (hw := fun env he => by cases env; subst he; rfl)
        · refine .of_left (intBits_le_64 ?_ ?_)
          · have : 0 ≤ a / b := Int.ediv_nonneg ha hb
            omega
          · have : a / b ≤ a := Int.ediv_le_self _ ha
            omega
        · refine Ex.ret (.tupD (.cons (.name (by rfl)) (.cons (.name (by rfl)) (.cons (.name (by rfl)) .nil)))) ?_
          rw [show eeF (n + 1) a b = ((eeF n b (a % b)).2.1, (eeF n b (a % b)).1 - a / b * (eeF n b (a % b)).2.1, (eeF n b (a % b)).2.2) from by show (if b = 0 then _ else _) = _; rw [if_neg hb0]]
          rfl
    have := call_own (k := n + 1) (d := dEE) (ns := ["a", "b"]) (ds := [.int a, .int b]) (dr := trio (eeF (n + 1) a b)) G (dd_mem ..) (scOk_of (by kernel_rfl)) (by kernel_rfl) (fun pm code doc vs h => dEE_bind pm code doc vs h) body
    rw [dEE_name] at this
    exact this
end

noncomputable def rngI (a b : Int) : List Int := (List.range (b - a).toNat).map fun i => a + (i : Nat)
theorem rng_eq (a b : Int) : rng a b = lsI (rngI a b) := by unfold rng lsI rngI; rw [List.map_map]; rfl
theorem mem_rngI {a b x : Int} (h : x ∈ rngI a b) : a ≤ x ∧ x < b := by
  unfold rngI at h
  obtain ⟨i, hi, rfl⟩ := List.mem_map.mp h
  have := List.mem_range.mp hi
  omega
noncomputable def tupI (l : List Int) : D := .tup (lsI l)

noncomputable def comb : Nat → Int → Int → List (List Int)
  | 0, _, _ => [[]]
  | m + 1, lo, hi => (rngI lo (hi - (m + 1) + 1)).flatMap fun f => (comb m (f + 1) hi).map (f :: ·)

set_option tactic.hygienic true in
theorem sub_fresh {ρ : Rho} {x : Str} {d : D} (h : ρ x = none) : Sub ρ (upd ρ x d) := fun y e he => by
  unfold Dio.upd
  split
  · rename_i hy; subst hy; rw [h] at he; cases he
  · exact he
theorem cut_mem {α β : Type} {g : α → β} {l : List α} {pre : List β} {d : β} {ds : List β} (h : l.map g = pre ++ d :: ds) : ∃ x ∈ l, d = g x := by
  have : d ∈ l.map g := by rw [h]; simp
  obtain ⟨x, hx, rfl⟩ := List.mem_map.mp this
  exact ⟨x, hx, rfl⟩

theorem comb_len : ∀ (m : Nat) (lo hi : Int), ∀ l ∈ comb m lo hi, l.length = m
  | 0, lo, hi, l, h => by
    have : l = [] := by simpa [comb] using h
    rw [this]; rfl
  | m + 1, lo, hi, l, h => by
    obtain ⟨f, _, hf⟩ := List.mem_flatMap.mp h
    obtain ⟨r, hr, rfl⟩ := List.mem_map.mp hf
    rw [List.length_cons, comb_len m _ _ r hr]

noncomputable def dCo : DefRec := dd 1 (by decide)
theorem dCo_name : dCo.name = "_combinations" := by kernel_rfl
theorem dCo_bind (pm code doc : Value) (vs : List Value) (h : vs.length = 3) : bindArgs (docDef dCo.name dCo.params dCo.body dCo.scope pm code doc) ⟨vs, []⟩ = pure ((["low", "high", "many"] : List Str).zip vs) := by
  obtain ⟨u, v, w, rfl⟩ := len3 h
  kernel_rfl

section
variable {c : Cx} {k : Nat}
theorem bind_plain {d : DefRec} {ns : List Str} {as : List D} (h : ∀ (pm code doc : Value) (vs : List Value), vs.length = as.length → bindArgs (docDef d.name d.params d.body d.scope pm code doc) ⟨vs, []⟩ = pure (ns.zip vs)) :
    ∀ (X : Addr → Prop) (A : Around) (s : Shared) (pm code doc : Value) (vs : List Value) (E : Value → Shared → Prop) (Q : List (Str × Value) → Shared → Prop), Ok c X s → RepL c X s.heap vs as →
      (∀ us s', Tr c X no no s s' → RepL c X s'.heap us as → Q (ns.zip us) s') → wpAny (MF c) A (bindArgs (docDef d.name d.params d.body d.scope pm code doc) ⟨vs, []⟩) Q E s :=
  fun X A s pm code doc vs E Q hi hr hQ => wpAny_of_eq (h pm code doc vs hr.length) (hQ vs s (.refl ..) hr)

theorem comb_gen (G : Gnd c) : ∀ (m : Nat) (lo hi : Int), m ≤ 100 → -1000 ≤ lo → lo ≤ 1000 → -1000 ≤ hi → hi ≤ 999 → ∃ f, c.mg "_combinations" = some (.ref f) ∧ Callee c (.ref f) ∧ GenOk c (2 * m + 2) false (.ref f) [.int lo, .int hi, .int m] ((comb m lo hi).map tupI)
  | m, lo, hi, hm, h1, h2, h3, h4 => by
    have body : Gz c (2 * m + 1) dCo.scope (bindR ["low", "high", "many"] [.int lo, .int hi, .int m] fun _ => none) dCo.body ((comb m lo hi).map tupI) (fun o => (∃ ρ, o = .next ρ) ∨ o = .ret .none) := by
      rw [show dCo.body = bodyAt 2 from by kernel_rfl]
      refine Gz.ite (Tst.cmp (.name (by rfl)) (.int 0 _ _) (Op2.eq m 0)) (fun h => ?_) fun h => ?_
      · have hm0 : m = 0 := by have : (m : Int) = 0 := by simpa using h
                               omega
        subst hm0
        exact Gz.yield (.tupD .nil (Nat.zero_le _)) (Gz.ret (.inr rfl)) (by kernel_rfl)
      · have hm0 : (m : Int) ≠ 0 := by simpa using h
        obtain ⟨m', rfl⟩ : ∃ m', m = m' + 1 := ⟨m - 1, by omega⟩
        have grange : Glo c dCo.scope "range" (.type "range") := glo_builtin G (by kernel_rfl) (by kernel_rfl) (by kernel_rfl) (by kernel_rfl) (by decide) (by decide)
        refine Gz.cast (Gz.for (ys := []) (f := fun d => match d with | .int x => (comb m' (x + 1) hi).map fun r => tupI (x :: r) | _ => []) (fun _ => bindR ["low", "high", "many"] [.int lo, .int hi, .int (m' + 1 : Nat)] fun _ => none)
          (.range2 G grange (.cons (.name (by rfl)) (.cons (.bin (.bin (.name (by rfl)) (.name (by rfl)) (Op2.sub _ _)) (.int 1 _ _) (Op2.add _ _)) .nil)) ⟨by omega, by omega⟩ ⟨by omega, by omega⟩) (Sub.refl _) (fun pre d ds hp => ?_) (Gz.nil (.inl ⟨_, rfl⟩))) ?_
        · rw [rng_eq] at hp
          obtain ⟨x, hx, rfl⟩ := cut_mem hp
          have hxr := mem_rngI hx
          obtain ⟨f, hf, hc, hgen⟩ := comb_gen G m' (x + 1) hi (by omega) (by omega) (by omega) h3 h4
          have em : ((m' + 1 : Nat) : Int) - 1 = m' := by omega
          refine ⟨_, .name (by kernel_rfl), Gz.cast (Gz.for (ys := []) (f := fun d => match d with | .tup r => [.tup (.int x :: r)] | _ => []) (fun _ => upd (bindR ["low", "high", "many"] [.int lo, .int hi, .int (m' + 1 : Nat)] fun _ => none) "first" (.int x))
            (EvI.gen (k := 2 * m' + 2) G (glo_def (by kernel_rfl) hf) hc (.cons (.bin (.name (by rfl)) (.int 1 _ _) (Op2.add _ _)) (.cons (.name (by rfl)) (.cons (.bin (.name (by rfl)) (.int 1 _ _) (em ▸ Op2.sub _ _)) .nil))) hgen) (Sub.refl _) (fun pre d ds hp => ?_) (Gz.nil ⟨_, rfl, sub_fresh (by rfl)⟩)) ?_⟩
          · obtain ⟨r, hr, rfl⟩ := cut_mem hp
            refine ⟨_, .name (by kernel_rfl), Gz.yield (.bin (.tupD (.cons (.name (by rfl)) .nil)) (.name (by rfl)) (Op2.addT _ _ ?_)) (Gz.nil ⟨_, rfl, sub_fresh (by rfl)⟩) (by kernel_rfl)⟩
            have := comb_len _ _ _ r hr
            simp [this]; omega
          · rw [List.append_nil, List.flatMap_map]
            exact flatMap_one (fun r => tupI (x :: r)) _
        · rw [List.append_nil, rng_eq]
          show ((rngI _ _).map D.int).flatMap _ = _
          rw [List.flatMap_map]
          show _ = ((rngI lo (hi - (m' + 1) + 1)).flatMap fun f => (comb m' (f + 1) hi).map (f :: ·)).map tupI
          rw [List.map_flatMap]
          simp only [List.map_map]
          rfl
    have := call_gen (k := 2 * m + 1) (d := dCo) (ns := ["low", "high", "many"]) (as := [.int lo, .int hi, .int m]) (as' := [.int lo, .int hi, .int m]) G (dd_mem ..) (scOk_of (by kernel_rfl)) (by kernel_rfl) (bind_plain fun pm code doc vs h => dCo_bind pm code doc vs h) (by omega) body
    rw [dCo_name] at this
    exact this
  termination_by m => m
end
end Dio

namespace Dio
set_option tactic.hygienic false
open PySem PySem.W PySem.Calls PyProof.Rows
open Sem (wp)
set_option maxRecDepth 100000

/-! Za. fixed_integer_vector_iter -/
section
variable {c : Cx} {k : Nat} {sc : Scope} {ρ : Rho}
theorem Gz.assign {e t : Expr} {pos : Pos} {rest : List Stmt} {d : D} {ρ' : Rho} {ys : List D} {R : Out → Prop} (h : Ev c k sc ρ e d) (ht : As c k sc ρ t d ρ') (hr : Gz c k sc ρ' rest ys R)
    (hs : ∀ env, swapsWithSole [t] e pos.line env = pure false := by intro _; rfl) (hw : ∀ env, swappedStores [t] e env = pure none := by intro _; rfl) (ha : ∀ env, assignEach [t] env = [(false, PySem.assign t env)] := by intro _; rfl) : Gz c k sc ρ (.Assign [t] e pos :: rest) ys R :=
  Gz.step (ss := [.Assign [t] e pos]) (Ex.assign h ht (Ex.nil rfl) hs hw ha) hr

theorem Gz.swap {e₁ e₂ : Expr} {a b : Str} {p₁ p₂ pt pv pos : Pos} {j l : Nat} {rest : List Stmt} {d₁ d₂ : D} {ys : List D} {R : Out → Prop} (ha : sc.names.lookup a = some .local) (hb : sc.names.lookup b = some .local)
    (h : EvL c k sc ρ [e₁, e₂] [d₁, d₂]) (hr : Gz c k sc (upd (upd ρ b d₂) a d₁) rest ys R)
    (hs : ∀ env, swapsWithSole [.Tuple [.Name a p₁, .Name b p₂] j pt] (.Tuple [e₁, e₂] l pv) pos.line env = pure false := by intro _; rfl)
    (hw : ∀ env, env.scope = sc → swappedStores [.Tuple [.Name a p₁, .Name b p₂] j pt] (.Tuple [e₁, e₂] l pv) env = pure (some [a, b])) : Gz c k sc ρ (.Assign [.Tuple [.Name a p₁, .Name b p₂] j pt] (.Tuple [e₁, e₂] l pv) pos :: rest) ys R :=
  Gz.step (ss := [.Assign [.Tuple [.Name a p₁, .Name b p₂] j pt] (.Tuple [e₁, e₂] l pv) pos]) (Ex.swap ha hb h (Ex.nil rfl) hs hw) hr
end

noncomputable def dFv : DefRec := dd 2 (by decide)
theorem dFv_name : dFv.name = "fixed_integer_vector_iter" := by kernel_rfl
theorem dFv_bind (pm code doc : Value) (vs : List Value) (h : vs.length = 2) : bindArgs (docDef dFv.name dFv.params dFv.body dFv.scope pm code doc) ⟨vs, []⟩ = pure ((["max_vector", "vector_sum"] : List Str).zip vs) := by
  obtain ⟨u, v, rfl⟩ := len2 h
  kernel_rfl

noncomputable def fiv : List Int → Int → List (List Int)
  | [], s => if s = 0 then [[]] else []
  | m :: r, s => if s ≤ (m :: r).sum then (rngI (max (m + s - (m :: r).sum) 0) (min m s + 1)).flatMap fun j => (fiv r (s - j)).map (j :: ·) else []
theorem fiv_len : ∀ (v : List Int) (s : Int), ∀ l ∈ fiv v s, l.length = v.length
  | [], s, l, h => by
    unfold fiv at h
    split at h
    · have : l = [] := by simpa using h
      rw [this]
    · cases h
  | m :: r, s, l, h => by
    unfold fiv at h
    split at h
    · obtain ⟨f, _, hf⟩ := List.mem_flatMap.mp h
      obtain ⟨t, ht, rfl⟩ := List.mem_map.mp hf
      rw [List.length_cons, List.length_cons, fiv_len r _ t ht]
    · cases h

theorem sum_bound {v : List Int} (h : ∀ x ∈ v, 0 ≤ x ∧ x ≤ 100) : 0 ≤ v.sum ∧ v.sum ≤ 100 * v.length := by
  induction v with
  | nil => simp
  | cons x v ih =>
    have h1 := h x List.mem_cons_self
    have h2 := ih fun y hy => h y (List.mem_cons_of_mem _ hy)
    rw [List.sum_cons, List.length_cons]
    omega

section
variable {c : Cx}
theorem fiv_gen (G : Gnd c) : ∀ (v : List Int) (s : Int), v.length ≤ 100 → (∀ x ∈ v, 0 ≤ x ∧ x ≤ 100) → 0 ≤ s → s ≤ 1000 → ∃ f, c.mg "fixed_integer_vector_iter" = some (.ref f) ∧ Callee c (.ref f) ∧ GenOk c (2 * v.length + 2) false (.ref f) [tupI v, .int s] ((fiv v s).map tupI)
  | v, s, hm, hv, h1, h2 => by
    have body : Gz c (2 * v.length + 1) dFv.scope (bindR ["max_vector", "vector_sum"] [tupI v, .int s] fun _ => none) dFv.body ((fiv v s).map tupI) (fun o => (∃ ρ, o = .next ρ) ∨ o = .ret .none) := by
      rw [show dFv.body = bodyAt 3 from by kernel_rfl]
      have glen : Glo c dFv.scope "len" (.builtin "len") := glo_builtin G (by kernel_rfl) (by kernel_rfl) (by kernel_rfl) (by kernel_rfl) (by decide) (by decide)
      have gsum : Glo c dFv.scope "sum" (.builtin "sum") := glo_builtin G (by kernel_rfl) (by kernel_rfl) (by kernel_rfl) (by kernel_rfl) (by decide) (by decide)
      have gmax : Glo c dFv.scope "max" (.builtin "max") := glo_builtin G (by kernel_rfl) (by kernel_rfl) (by kernel_rfl) (by kernel_rfl) (by decide) (by decide)
      have gmin : Glo c dFv.scope "min" (.builtin "min") := glo_builtin G (by kernel_rfl) (by kernel_rfl) (by kernel_rfl) (by kernel_rfl) (by decide) (by decide)
      have gtup : Glo c dFv.scope "tuple" (.type "tuple") := glo_builtin G (by kernel_rfl) (by kernel_rfl) (by kernel_rfl) (by kernel_rfl) (by decide) (by decide)
      have grange : Glo c dFv.scope "range" (.type "range") := glo_builtin G (by kernel_rfl) (by kernel_rfl) (by kernel_rfl) (by kernel_rfl) (by decide) (by decide)
      have hlen : (lsI v).length = v.length := by unfold lsI; rw [List.length_map]
      refine Gz.ite (Tst.cmp (.name (by rfl)) (.int 0 _ _) (Op2.lt s 0)) (fun h => absurd (of_decide_eq_true h) (by omega)) fun _ => ?_
      refine Gz.ite (Tst.cmp (.call G glen (.builtin _) (.cons (.name (by rfl)) .nil) (call_len (.inl rfl) (by rw [hlen]; omega))) (.int 0 _ _) (Op2.eq _ 0)) (fun h => ?_) fun h => ?_
      · have hv0 : v = [] := by
          have h' := of_decide_eq_true h
          rw [hlen] at h'
          exact List.length_eq_zero_iff.mp (by omega)
        subst hv0
        refine Gz.ite (Tst.cmp (.name (by rfl)) (.int 0 _ _) (Op2.eq s 0)) (fun h => ?_) fun h => ?_
        · have hs : s = 0 := of_decide_eq_true h
          rw [show (fiv [] s).map tupI = [tupI []] from by unfold fiv; rw [if_pos hs]; rfl]
          exact Gz.yield (.call G gtup (.type _) .nil call_tuple0) (Gz.ret (.inr rfl)) (by kernel_rfl)
        · have hs : s ≠ 0 := of_decide_eq_false h
          rw [show (fiv [] s).map tupI = [] from by unfold fiv; rw [if_neg hs]; rfl]
          exact Gz.ret (.inr rfl)
      · have h' := of_decide_eq_false h
        rw [hlen] at h'
        obtain ⟨m, r, rfl⟩ : ∃ m r, v = m :: r := by
          cases v with
          | nil => exact absurd rfl h'
          | cons m r => exact ⟨m, r, rfl⟩
        have hb := sum_bound hv
        have hmm := hv m List.mem_cons_self
        have hsumOk : ∀ j, j ≤ (m :: r).length → InLong (((m :: r).take j).sum) := fun j _ => by
          have := sum_bound (v := (m :: r).take j) fun x hx => hv x (List.mem_of_mem_take hx)
          have : ((m :: r).take j).length ≤ (m :: r).length := List.length_take_le' ..
          constructor <;> omega
        refine Gz.assign (.call G gsum (.builtin _) (.cons (.name (by rfl)) .nil) (call_sumT (m :: r) hsumOk fun x hx => by have := hv x hx; constructor <;> omega)) (.name (by kernel_rfl)) ?_
        refine Gz.ite (Tst.cmp (.name (by rfl)) (.name (by rfl)) (Op2.le s _)) (fun h => ?_) fun h => ?_
        · have hs : s ≤ (m :: r).sum := of_decide_eq_true h
          have item0 : ∀ {ρ : Rho} {e : Expr} {j : Nat} {pc pos : Pos}, Ev c (2 * (m :: r).length + 1) dFv.scope ρ e (tupI (m :: r)) → (∀ o r, letTemporaryGo e o r = pure ()) → Ev c (2 * (m :: r).length + 1) dFv.scope ρ (.Subscript e (.Constant (.int 0) j pc) pos) (.int m) := fun h hg => .item h (.inl rfl) ⟨by decide, by decide⟩ (by rfl) hg
          refine Gz.assign (.call G gmax (.builtin _) (.cons (.bin (.bin (item0 (.name (by rfl)) fun _ _ => rfl) (.name (by rfl)) (Op2.add _ _)) (.name (by rfl)) (Op2.sub _ _)) (.cons (.int 0 _ _) .nil)) (call_max2 _ _)) (.name (by kernel_rfl)) ?_
          refine Gz.assign (.call G gmin (.builtin _) (.cons (item0 (.name (by rfl)) fun _ _ => rfl) (.cons (.name (by rfl)) .nil)) (call_min2 _ _)) (.name (by kernel_rfl)) ?_
          generalize hρ : (upd (upd _ _ _) _ _ : Rho) = ρ₀
          have q1 : ρ₀ "max_vector" = some (tupI (m :: r)) := by rw [← hρ]; rfl
          have q2 : ρ₀ "vector_sum" = some (.int s) := by rw [← hρ]; rfl
          have q3 : ρ₀ "start" = some (.int (max (m + s - (m :: r).sum) 0)) := by rw [← hρ]; rfl
          have q4 : ρ₀ "end" = some (.int (min m s)) := by rw [← hρ]; rfl
          have q5 : ρ₀ "j" = none := by rw [← hρ]; rfl
          have q6 : ρ₀ "vec" = none := by rw [← hρ]; rfl
          refine Gz.cast (Gz.for (ys := []) (f := fun d => match d with | .int x => (fiv r (s - x)).map fun l => tupI (x :: l) | _ => []) (fun _ => ρ₀)
            (.range2 G grange (.cons (.name q3) (.cons (.bin (.name q4) (.int 1 _ _) (Op2.add _ _)) .nil)) ⟨by omega, by omega⟩ ⟨by omega, by omega⟩) (Sub.refl _) (fun pre d ds hp => ?_) (Gz.nil (.inl ⟨_, rfl⟩))) ?_
          · rw [rng_eq] at hp
            obtain ⟨x, hx, rfl⟩ := cut_mem hp
            have hxr := mem_rngI hx
            obtain ⟨f, hf, hc, hgen⟩ := fiv_gen G r (s - x) (by simp at hm; omega) (fun y hy => hv y (List.mem_cons_of_mem _ hy)) (by omega) (by omega)
            have u1 : upd ρ₀ "j" (.int x) "max_vector" = some (tupI (m :: r)) := q1
            have u2 : upd ρ₀ "j" (.int x) "vector_sum" = some (.int s) := q2
            have u3 : upd ρ₀ "j" (.int x) "j" = some (.int x) := rfl
            have hdrop : Ev c (2 * (m :: r).length + 1) dFv.scope (upd ρ₀ "j" (.int x)) (.Subscript (.Name "max_vector" default) (.Slice (some (.Constant (.int 1) 0 default)) none none default) default) (tupI r) :=
              .from_tup (l := lsI (m :: r)) (.name u1) (by decide) (by simp [lsI]) (by rw [hlen]; omega)
            refine ⟨_, .name (by kernel_rfl), Gz.cast (Gz.for (ys := []) (f := fun d => match d with | .tup l => [.tup (.int x :: l)] | _ => []) (fun _ => upd ρ₀ "j" (.int x))
              (EvI.gen (k := 2 * r.length + 2) (as := [tupI r, .int (s - x)]) G (glo_def (by kernel_rfl) hf) hc (.cons (.from_tup (l := lsI (m :: r)) (.name u1) (by decide) (by simp [lsI]) (by rw [hlen]; omega)) (.cons (.bin (.name u2) (.name u3) (Op2.sub _ _)) .nil)) hgen) (Sub.refl _) (fun pre d ds hp => ?_) (Gz.nil ⟨_, rfl, sub_fresh q5⟩)) ?_⟩
            · obtain ⟨l, hl, rfl⟩ := cut_mem hp
              refine ⟨_, .name (by kernel_rfl), Gz.yield (.bin (.tupD (.cons (.name (by rfl)) .nil)) (.name (by rfl)) (Op2.addT _ _ ?_)) (Gz.nil ⟨_, rfl, sub_fresh q6⟩) (by kernel_rfl)⟩
              have := fiv_len _ _ l hl
              simp at hm
              simp [lsI, this]; omega
            · rw [List.append_nil, List.flatMap_map]
              exact flatMap_one (fun l => tupI (x :: l)) _
          · rw [List.append_nil, rng_eq]
            show ((rngI _ _).map D.int).flatMap _ = _
            rw [List.flatMap_map]
            show _ = (if s ≤ (m :: r).sum then _ else _ : List (List Int)).map tupI
            rw [if_pos hs, List.map_flatMap]
            simp only [List.map_map]
            rfl
        · have hs : ¬ s ≤ (m :: r).sum := of_decide_eq_false h
          rw [show (fiv (m :: r) s).map tupI = [] from by unfold fiv; rw [if_neg hs]; rfl]
          exact Gz.nil (.inl ⟨_, rfl⟩)
    have := call_gen (k := 2 * v.length + 1) (d := dFv) (ns := ["max_vector", "vector_sum"]) (as := [tupI v, .int s]) (as' := [tupI v, .int s]) G (dd_mem ..) (scOk_of (by kernel_rfl)) (by kernel_rfl) (bind_plain fun pm code doc vs h => dFv_bind pm code doc vs h) (by omega) body
    rw [dFv_name] at this
    exact this
  termination_by v => v.length
end
end Dio

namespace Dio
set_option tactic.hygienic false
open PySem PySem.W PySem.Calls PyProof.Rows
open Sem (wp)
set_option maxRecDepth 100000

/-! Zb. while in a generator's body -/
section
variable {c : Cx} {k : Nat} {sc : Scope} {ρ : Rho}

theorem while_loop {σ : Type} {kk : Nat} {boom : Bool} {ds : List D} {B : Addr → Prop} {BG : Nat → Prop} {s : Shared} {X : Addr → Prop} {FS : List Frame} {env : Env} {test : Expr} {body : List Stmt} {ys : List D}
    (S : EnvS sc env) (F : FsOk k kk (.whileLoop test body [] env) FS) (f : σ → Rho) (I : σ → Prop) (b : σ → Bool) (nx : σ → σ) (yl total : σ → List D) (m : σ → Nat)
    (ht : ∀ x, I x → Tst c k sc (f x) test (b x))
    (hb : ∀ x, I x → b x = true → (Gz c k sc (f x) body (yl x) fun o => ∃ ρ', o = .next ρ' ∧ Sub (f (nx x)) ρ') ∧ I (nx x) ∧ m (nx x) < m x ∧ total x = yl x ++ total (nx x))
    (he : ∀ x, I x → b x = false → total x = [])
    (hend : ∀ x X' O' OG' s₀' s', I x → b x = false → Aft c X B BG s env X' O' OG' s₀' s' → EnvAt c X' (f x) env s'.heap → SegZ c kk boom (ys ++ ds) X' O' OG' s₀' (.whileLoop test body [] env) (leafOf (.ok .next)) FS s') :
    ∀ (n : Nat) (x : σ), m x ≤ n → I x → ∀ (X' O' : Addr → Prop) (OG' : Nat → Prop) (s₀' s' : Shared), Aft c X B BG s env X' O' OG' s₀' s' → HOwn O' B s₀' s' env → EnvAt c X' (f x) env s'.heap →
      SegZ c kk boom (total x ++ ys ++ ds) X' O' OG' s₀' (.whileLoop test body [] env) (denF (.whileLoop test body [] env)) FS s' := by
  intro n
  induction n with
  | zero =>
    intro x hm hI X' O' OG' s₀' s' a hown e
    have hbx : b x = false := by
      cases h : b x with
      | false => rfl
      | true => have := (hb x hI h).2.2.1; omega
    show SegZ c kk boom _ X' O' OG' s₀' _ ((whileTurn test body [] env).onRaise (fun x => do noteFrame x env; theTreesLotGoes x)) FS s'
    unfold whileTurn
    rw [Sem.onRaise_eq_wrap, Sem.bind_eq_wrap', Sem.wrap_wrap]
    refine segz_wrap (ht x hI env X' _ s' _ _ S F.ok a.now.ok e fun s₂ t₂ => ?_)
    rw [hbx, if_neg Bool.false_ne_true, he x hI hbx]
    have a₂ := a.trans (Aft.plain a.now hown t₂.ownL)
    exact hend x X' O' OG' s₀' s₂ hI hbx a₂ (e.step a.now.ok t₂)
  | succ n ih =>
    intro x hm hI X' O' OG' s₀' s' a hown e
    show SegZ c kk boom _ X' O' OG' s₀' _ ((whileTurn test body [] env).onRaise (fun x => do noteFrame x env; theTreesLotGoes x)) FS s'
    unfold whileTurn
    rw [Sem.onRaise_eq_wrap, Sem.bind_eq_wrap', Sem.wrap_wrap]
    refine segz_wrap (ht x hI env X' _ s' _ _ S F.ok a.now.ok e fun s₂ t₂ => ?_)
    have a₂ := a.trans (Aft.plain a.now hown t₂.ownL)
    have e₂ := e.step a.now.ok t₂
    cases hbx : b x with
    | false =>
      rw [if_neg Bool.false_ne_true, he x hI hbx]
      exact hend x X' O' OG' s₀' s₂ hI hbx a₂ e₂
    | true =>
      obtain ⟨hz, hI', hlt, htot⟩ := hb x hI hbx
      rw [if_pos rfl, Sem.bind_eq_wrap', Sem.wrap_wrap, htot, List.append_assoc, List.append_assoc]
      have hown₂ := (Aft.plain a.now hown t₂.ownL).hown hown
      refine hz kk boom _ X' O' OG' B BG s₀' s₂ _ FS _ _ _ _ env S F rfl a₂.now e₂ hown₂ fun o fl X'' O'' OG'' s₀'' s₄ a₄ hR ho => ?_
      obtain ⟨ρ', rfl, hs⟩ := hR
      cases ho with
      | next e₄ =>
        refine segz_again (c' := .whileLoop test body [] env) rfl ?_
        rw [← List.append_assoc]
        exact ih (nx x) (by omega) hI' X'' O'' OG'' s₀'' s₄ (a₂.trans a₄) (a₄.hown hown₂) (e₄.weaken hs)

theorem Gz.while {σ : Type} {test : Expr} {body rest : List Stmt} {pos : Pos} {ys : List D} {R : Out → Prop} (f : σ → Rho) (I : σ → Prop) (b : σ → Bool) (nx : σ → σ) (yl total : σ → List D) (m : σ → Nat)
    (ht : ∀ x, I x → Tst c k sc (f x) test (b x))
    (hb : ∀ x, I x → b x = true → (Gz c k sc (f x) body (yl x) fun o => ∃ ρ', o = .next ρ' ∧ Sub (f (nx x)) ρ') ∧ I (nx x) ∧ m (nx x) < m x ∧ total x = yl x ++ total (nx x))
    (he : ∀ x, I x → b x = false → total x = [] ∧ Gz c k sc (f x) rest ys R) (x₀ : σ) (h₀ : I x₀) (hs : Sub (f x₀) ρ) : Gz c k sc ρ (.While test body [] pos :: rest) (total x₀ ++ ys) R :=
  fun kk boom ds X O OG B BG s₀ s cd fs K H gd lv env S F hg n hen hown hK => by
    rw [execs_cons_wrap]
    refine segz_at (segz_call fun p => ?_)
    rw [hg]
    refine while_loop (s := s) (env := env) (B := B) (BG := BG) (X := X) S (F.push rfl rfl) f I b nx yl total m ht hb (fun x hI hbx => (he x hI hbx).1) (fun x X' O' OG' s₀' s' hI hbx a e => ?_) (m x₀) x₀ (Nat.le_refl _) h₀ X O OG s₀ s (Aft.plain n hown (.refl ..)) hown (hen.weaken hs)
    refine segz_leaf (.ok .next) ?_
    show SegZ c kk boom (ys ++ ds) X' O' OG' s₀' cd ((execs rest env).wrap K H gd lv) fs s'
    exact (he x hI hbx).2 kk boom ds X' O' OG' B BG s₀' s' cd fs K H gd lv env S F hg a.now e (a.hown hown) fun o fl X'' O'' OG'' s₀'' s'' a' => hK o fl X'' O'' OG'' s₀'' s'' (a.trans a')
end
end Dio

namespace Dio
set_option tactic.hygienic false
open PySem PySem.W PySem.Calls PyProof.Rows
open Sem (wp)
set_option maxRecDepth 100000

/-! Zc. base_solution_linear -/
section
variable {c : Cx} {k : Nat} {sc : Scope} {ρ : Rho}
theorem CallOk.mono {k' : Nat} {f : Value} {ds : List D} {d : D} (h : CallOk c k f ds d) (hk : k ≤ k') : CallOk c k' f ds d := fun X A s vs Q E hA hi hr hQ => h X A s vs Q E (hA.less hk) hi hr hQ

theorem Ex.aug {x : Str} {op : Operator} {e : Expr} {p pos : Pos} {rest : List Stmt} {d₁ d₂ d : D} {R : Out → Prop} (hx : ρ x = some d₁) (hk : sc.names.lookup x = some .local) (he : Ev c k sc ρ e d₂) (hop : Op2 c k (inplaceOp op) d₁ d₂ d) (hr : Ex c k sc (upd ρ x d) rest R)
    (hn : (x == ("__classdict__" : Str)) = false := by decide) : Ex c k sc ρ (.AugAssign (.Name x p) op e pos :: rest) R :=
  fun env X A s Q E S hA hi hen hQ => wpAny_execs_cons (wpAny_AugAssign_Name (hen.load S hx (fun v₁ r₁ => he env X A s _ E S hA hi hen fun v₂ s₂ t₂ r₂ =>
    hop X A s₂ v₁ v₂ _ E hA (hi.tr t₂) (r₁.tr hi.toIv t₂) r₂ fun v s₃ t₃ r₃ => by
      have hi₃ := (hi.tr t₂).tr t₃
      exact ((hen.step hi t₂).step (hi.tr t₂) t₃).storeL hi₃.toIv S hk r₃ fun s₄ t₄ e₄ => by
        have t₄' := t₄ (own env) (.inl rfl)
        exact hr env X A s₄ Q E S hA (hi₃.tr t₄') e₄ fun o fl s' t' hR ho => hQ o fl s' (((t₂.seq t₃).ownL.then t₄').then t') hR ho) hn))
theorem Op2.iadd (a b : Int) : Op2 c k (inplaceOp .Add) (.int a) (.int b) (.int (a + b)) := .ints fun A s t u Q E _ h => PySem.P.iadd_int h
theorem Op2.isub (a b : Int) : Op2 c k (inplaceOp .Sub) (.int a) (.int b) (.int (a - b)) := .ints fun A s t u Q E _ h => PySem.P.isub_int h
end

noncomputable def bsU (a b : Int) : Nat → Int → Int → List (Int × Int)
  | 0, _, _ => []
  | n + 1, x, y => if 0 ≤ y then (if 0 ≤ x then [(x, y)] else []) ++ bsU a b n (x + b) (y - a) else []
noncomputable def bsD (a b : Int) : Nat → Int → Int → List (Int × Int)
  | 0, _, _ => []
  | n + 1, x, y => if 0 ≤ x then (if 0 ≤ y then [(x, y)] else []) ++ bsD a b n (x - b) (y + a) else []
noncomputable def bs1 (a b c : Int) : List (Int × Int) :=
  if c = 0 then [(0, 0)] else
    if c % (eeF 101 a b).2.2 ≠ 0 then [] else
      if c * (eeF 101 a b).1 ≤ 0 then bsU a b (c * (eeF 101 a b).2.1 + 1).toNat (c * (eeF 101 a b).1) (c * (eeF 101 a b).2.1)
      else bsD a b (c * (eeF 101 a b).1 + 1).toNat (c * (eeF 101 a b).1) (c * (eeF 101 a b).2.1)
noncomputable def gg (a b c : Int) : Int := (Int.gcd a (Int.gcd b c) : Nat)
noncomputable def bs (a b c : Int) : List (Int × Int) := bs1 (a / gg a b c) (b / gg a b c) (c / gg a b c)
noncomputable def pr (p : Int × Int) : D := .tup [.int p.1, .int p.2]

set_option tactic.hygienic true in
theorem ee_pos : ∀ (n : Nat) (a b : Int), 0 < a → 0 ≤ b → 0 < (eeF n a b).2.2 ∧ (eeF n a b).2.2 ≤ max a b
  | 0, a, b, ha, hb => ⟨ha, by show a ≤ max a b; omega⟩
  | n + 1, a, b, ha, hb => by
    unfold eeF
    split
    · exact ⟨ha, by show a ≤ max a b; omega⟩
    · rename_i h
      have h1 := Int.emod_nonneg a h
      have h2 := Int.emod_lt_of_pos a (show 0 < b by omega)
      have := ee_pos n b (a % b) (by omega) h1
      refine ⟨this.1, ?_⟩
      have h3 := this.2
      show (eeF n b (a % b)).2.2 ≤ max a b
      omega

noncomputable def dBs : DefRec := dd 5 (by decide)
theorem dBs_name : dBs.name = "base_solution_linear" := by kernel_rfl
theorem dBs_bind (pm code doc : Value) (vs : List Value) (h : vs.length = 3) : bindArgs (docDef dBs.name dBs.params dBs.body dBs.scope pm code doc) ⟨vs, []⟩ = pure ((["a", "b", "c"] : List Str).zip vs) := by
  obtain ⟨u, v, w, rfl⟩ := len3 h
  kernel_rfl

section
variable {c : Cx}
noncomputable abbrev KB : Nat := 110
theorem bs_gen (G : Gnd c) (a b z : Int) (ha : 1 ≤ a) (ha' : a ≤ 100) (hb : 1 ≤ b) (hb' : b ≤ 100) (hz : 0 ≤ z) (hz' : z ≤ 1000) :
    ∃ f, c.mg "base_solution_linear" = some (.ref f) ∧ Callee c (.ref f) ∧ GenOk c (KB + 1) false (.ref f) [.int a, .int b, .int z] ((bs a b z).map pr) := by
  have body : Gz c KB dBs.scope (bindR ["a", "b", "c"] [.int a, .int b, .int z] fun _ => none) dBs.body ((bs a b z).map pr) (fun o => (∃ ρ, o = .next ρ) ∨ o = .ret .none) := by
    rw [show dBs.body = bodyAt 6 from by kernel_rfl]
    refine Gz.ite (Tst.or (Tst.cmp (.name (by rfl)) (.int 0 _ _) (Op2.le a 0)) fun _ => Tst.cmp (.name (by rfl)) (.int 0 _ _) (Op2.le b 0)) (fun h => ?_) fun _ => ?_
    · exfalso
      rw [Bool.or_eq_true, decide_eq_true_eq, decide_eq_true_eq] at h
      omega
    refine Gz.ite (Tst.cmp (.name (by rfl)) (.int 0 _ _) (Op2.lt z 0)) (fun h => absurd (of_decide_eq_true h) (by omega)) fun _ => ?_
    obtain ⟨fg, hfg, hcg, hg⟩ := gcd_call (k := 109) G b z
    obtain ⟨fg', hfg', _, hg'⟩ := gcd_call (k := 109) G a (Int.gcd b z)
    have hff : fg' = fg := by rw [hfg] at hfg'; cases hfg'; rfl
    subst hff
    have hgpos : 1 ≤ gg a b z := by
      have : 0 < Int.gcd a (Int.gcd b z) := Int.gcd_pos_of_ne_zero_left _ (by omega)
      unfold gg; omega
    have hdva : gg a b z ∣ a := Int.gcd_dvd_left ..
    have hdvb : gg a b z ∣ b := Int.dvd_trans (Int.gcd_dvd_right ..) (Int.gcd_dvd_left ..)
    have hdvz : gg a b z ∣ z := Int.dvd_trans (Int.gcd_dvd_right ..) (Int.gcd_dvd_right ..)
    have hga : gg a b z ≤ a := Int.le_of_dvd (by omega) hdva
    have hgb : gg a b z ≤ b := Int.le_of_dvd (by omega) hdvb
    have e1 : ∀ x : Int, x.fdiv (gg a b z) = x / gg a b z := fun x => Int.fdiv_eq_ediv_of_nonneg _ (by omega)
    have p1 : 1 ≤ a / gg a b z := Int.le_ediv_of_mul_le (by omega) (by omega)
    have p2 : 1 ≤ b / gg a b z := Int.le_ediv_of_mul_le (by omega) (by omega)
    have p3 : 0 ≤ z / gg a b z := Int.ediv_nonneg hz (by omega)
    have p4 : a / gg a b z ≤ a := Int.ediv_le_self _ (by omega)
    have p5 : b / gg a b z ≤ b := Int.ediv_le_self _ (by omega)
    have p6 : z / gg a b z ≤ z := Int.ediv_le_self _ (by omega)
    refine Gz.assign (d := .int (gg a b z)) (.call G (glo_def (by kernel_rfl) hfg) hcg (.cons (.name (by rfl)) (.cons (.call G (glo_def (by kernel_rfl) hfg) hcg (.cons (.name (by rfl)) (.cons (.name (by rfl)) .nil)) hg) .nil)) hg') (.name (by kernel_rfl)) ?_
    refine Gz.assign (.bin (.name (by rfl)) (.name (by rfl)) (Op2.div a (gg a b z) (by omega) (by omega) (by omega))) (.name (by kernel_rfl)) ?_
    refine Gz.assign (.bin (.name (by rfl)) (.name (by rfl)) (Op2.div b (gg a b z) (by omega) (by omega) (by omega))) (.name (by kernel_rfl)) ?_
    refine Gz.assign (.bin (.name (by rfl)) (.name (by rfl)) (Op2.div z (gg a b z) (by omega) (by omega) (by omega))) (.name (by kernel_rfl)) ?_
    rw [e1, e1, e1]
    unfold bs
    generalize hA : a / gg a b z = a₁ at *
    generalize hB : b / gg a b z = b₁ at *
    generalize hC : z / gg a b z = z₁ at *
    unfold bs1
    refine Gz.ite (Tst.cmp (.name (by rfl)) (.int 0 _ _) (Op2.eq z₁ 0)) (fun h => ?_) fun h => ?_
    · have h0 : z₁ = 0 := of_decide_eq_true h
      rw [if_pos h0]
      exact Gz.yield (.tupD (.cons (.int 0 _ _) (.cons (.int 0 _ _) .nil))) (Gz.nil (.inl ⟨_, rfl⟩)) (by kernel_rfl)
    · have h0 : z₁ ≠ 0 := of_decide_eq_false h
      rw [if_neg h0]
      obtain ⟨fe, hfe, hce, hee⟩ := ee_call G 101 a₁ b₁ (by omega) (by omega) (by omega) (by omega) (by omega)
      have hpos := ee_pos 101 a₁ b₁ (by omega) (by omega)
      generalize hr : eeF 101 a₁ b₁ = r at *
      refine Gz.assign (d := trio r) (.call G (glo_def (by kernel_rfl) hfe) hce (.cons (.name (by rfl)) (.cons (.name (by rfl)) .nil)) (hee.mono (by decide))) (As.tup (.cons (.name (by kernel_rfl)) (.cons (.name (by kernel_rfl)) (.cons (.name (by kernel_rfl)) .nil)))) ?_
      have e2 : z₁.fmod r.2.2 = z₁ % r.2.2 := Int.fmod_eq_emod_of_nonneg _ (by omega)
      refine Gz.ite (Tst.cmp (.bin (.name (by rfl)) (.name (by rfl)) (e2 ▸ Op2.mod z₁ r.2.2 (by omega))) (.int 0 _ _) (Op2.ne (z₁ % r.2.2) 0)) (fun h => ?_) fun h => ?_
      · rw [if_pos (of_decide_eq_true h)]
        exact Gz.ret (.inr rfl)
      · rw [if_neg (of_decide_eq_false h)]
        refine Gz.swap (d₁ := .int (z₁ * r.1)) (d₂ := .int (z₁ * r.2.1)) (by kernel_rfl) (by kernel_rfl) (.cons (.bin (.name (by rfl)) (.name (by rfl)) (Op2.mul _ _ (.of_left (intBits_le_64 (by omega) (by omega)))))
          (.cons (.bin (.name (by rfl)) (.name (by rfl)) (Op2.mul _ _ (.of_left (intBits_le_64 (by omega) (by omega))))) .nil)) ?_ (hw := fun env he => by cases env; subst he; rfl)
        have hF : ∀ p : Int × Int × Nat, ∀ d : Int × Int, True := fun _ _ => trivial
        refine Gz.ite (Tst.cmp (.name (by rfl)) (.int 0 _ _) (Op2.le (z₁ * r.1) 0)) (fun h => ?_) fun h => ?_
        · rw [if_pos (of_decide_eq_true h)]
          refine Gz.cast (Gz.while (σ := Int × Int × Nat) (ys := []) (fun p => upd (upd (upd (upd (fun _ => none) "y" (.int p.2.1)) "x" (.int p.1)) "b" (.int b₁)) "a" (.int a₁)) (fun p => p.2.1 < p.2.2) (fun p => decide (0 ≤ p.2.1)) (fun p => (p.1 + b₁, p.2.1 - a₁, p.2.2 - 1)) (fun p => if 0 ≤ p.1 then [pr (p.1, p.2.1)] else [])
            (fun p => (bsU a₁ b₁ p.2.2 p.1 p.2.1).map pr) (fun p => p.2.2) (fun p hp => Tst.cmp (.name (by rfl)) (.int 0 _ _) (Op2.ge p.2.1 0)) (fun p hp hbp => ?_) (fun p hp hbp => ⟨?_, Gz.nil (.inl ⟨_, rfl⟩)⟩) (z₁ * r.1, z₁ * r.2.1, (z₁ * r.2.1 + 1).toNat) (by show z₁ * r.2.1 < ((z₁ * r.2.1 + 1).toNat : Int); omega) (Sub.upd (by rfl) (Sub.upd (by rfl) (Sub.upd (by rfl) (Sub.upd (by rfl) (Sub.empty _)))))) (by rw [List.append_nil])
          · have h0 : 0 ≤ p.2.1 := of_decide_eq_true hbp
            obtain ⟨x, y, n⟩ := p
            obtain ⟨n', rfl⟩ : ∃ n', n = n' + 1 := ⟨n - 1, by simp at hp h0; omega⟩
            simp only at hp h0
            refine ⟨?_, by show y - a₁ < ((n' + 1 - 1 : Nat) : Int); omega, by show n' + 1 - 1 < n' + 1; omega, ?_⟩
            · refine Gz.ite (Tst.cmp (.name (by rfl)) (.int 0 _ _) (Op2.ge x 0)) (fun h => ?_) fun h => ?_
              · rw [if_pos (of_decide_eq_true h)]
                exact Gz.yield (.tupD (.cons (.name (by rfl)) (.cons (.name (by rfl)) .nil))) (Gz.step (rest := []) (Ex.aug (by rfl) (by kernel_rfl) (.name (by rfl)) (Op2.iadd _ _) (Ex.aug (by rfl) (by kernel_rfl) (.name (by rfl)) (Op2.isub _ _) (Ex.nil rfl))) (Gz.nil ⟨_, rfl, Sub.upd (by rfl) (Sub.upd (by rfl) (Sub.upd (by rfl) (Sub.upd (by rfl) (Sub.empty _))))⟩)) (by kernel_rfl)
              · rw [if_neg (of_decide_eq_false h)]
                exact Gz.step (rest := []) (Ex.aug (by rfl) (by kernel_rfl) (.name (by rfl)) (Op2.iadd _ _) (Ex.aug (by rfl) (by kernel_rfl) (.name (by rfl)) (Op2.isub _ _) (Ex.nil rfl))) (Gz.nil ⟨_, rfl, Sub.upd (by rfl) (Sub.upd (by rfl) (Sub.upd (by rfl) (Sub.upd (by rfl) (Sub.empty _))))⟩)
            · show (if 0 ≤ y then (if 0 ≤ x then [(x, y)] else []) ++ bsU a₁ b₁ n' (x + b₁) (y - a₁) else []).map pr = _
              rw [if_pos h0, List.map_append]
              congr 1
              split <;> rfl
          · have h0 : ¬ 0 ≤ p.2.1 := of_decide_eq_false hbp
            obtain ⟨x, y, n⟩ := p
            cases n with
            | zero => rfl
            | succ n => show (if 0 ≤ y then _ else _ : List (Int × Int)).map pr = []; rw [if_neg h0]; rfl
        · rw [if_neg (of_decide_eq_false h)]
          refine Gz.cast (Gz.while (σ := Int × Int × Nat) (ys := []) (fun p => upd (upd (upd (upd (fun _ => none) "y" (.int p.2.1)) "x" (.int p.1)) "b" (.int b₁)) "a" (.int a₁)) (fun p => p.1 < p.2.2) (fun p => decide (0 ≤ p.1)) (fun p => (p.1 - b₁, p.2.1 + a₁, p.2.2 - 1)) (fun p => if 0 ≤ p.2.1 then [pr (p.1, p.2.1)] else [])
            (fun p => (bsD a₁ b₁ p.2.2 p.1 p.2.1).map pr) (fun p => p.2.2) (fun p hp => Tst.cmp (.name (by rfl)) (.int 0 _ _) (Op2.ge p.1 0)) (fun p hp hbp => ?_) (fun p hp hbp => ⟨?_, Gz.nil (.inl ⟨_, rfl⟩)⟩) (z₁ * r.1, z₁ * r.2.1, (z₁ * r.1 + 1).toNat) (by show z₁ * r.1 < ((z₁ * r.1 + 1).toNat : Int); omega) (Sub.upd (by rfl) (Sub.upd (by rfl) (Sub.upd (by rfl) (Sub.upd (by rfl) (Sub.empty _)))))) (by rw [List.append_nil])
          · have h0 : 0 ≤ p.1 := of_decide_eq_true hbp
            obtain ⟨x, y, n⟩ := p
            obtain ⟨n', rfl⟩ : ∃ n', n = n' + 1 := ⟨n - 1, by simp at hp h0; omega⟩
            simp only at hp h0
            refine ⟨?_, by show x - b₁ < ((n' + 1 - 1 : Nat) : Int); omega, by show n' + 1 - 1 < n' + 1; omega, ?_⟩
            · refine Gz.ite (Tst.cmp (.name (by rfl)) (.int 0 _ _) (Op2.ge y 0)) (fun h => ?_) fun h => ?_
              · rw [if_pos (of_decide_eq_true h)]
                exact Gz.yield (.tupD (.cons (.name (by rfl)) (.cons (.name (by rfl)) .nil))) (Gz.step (rest := []) (Ex.aug (by rfl) (by kernel_rfl) (.name (by rfl)) (Op2.isub _ _) (Ex.aug (by rfl) (by kernel_rfl) (.name (by rfl)) (Op2.iadd _ _) (Ex.nil rfl))) (Gz.nil ⟨_, rfl, Sub.upd (by rfl) (Sub.upd (by rfl) (Sub.upd (by rfl) (Sub.upd (by rfl) (Sub.empty _))))⟩)) (by kernel_rfl)
              · rw [if_neg (of_decide_eq_false h)]
                exact Gz.step (rest := []) (Ex.aug (by rfl) (by kernel_rfl) (.name (by rfl)) (Op2.isub _ _) (Ex.aug (by rfl) (by kernel_rfl) (.name (by rfl)) (Op2.iadd _ _) (Ex.nil rfl))) (Gz.nil ⟨_, rfl, Sub.upd (by rfl) (Sub.upd (by rfl) (Sub.upd (by rfl) (Sub.upd (by rfl) (Sub.empty _))))⟩)
            · show (if 0 ≤ x then (if 0 ≤ y then [(x, y)] else []) ++ bsD a₁ b₁ n' (x - b₁) (y + a₁) else []).map pr = _
              rw [if_pos h0, List.map_append]
              congr 1
              split <;> rfl
          · have h0 : ¬ 0 ≤ p.1 := of_decide_eq_false hbp
            obtain ⟨x, y, n⟩ := p
            cases n with
            | zero => rfl
            | succ n => show (if 0 ≤ x then _ else _ : List (Int × Int)).map pr = []; rw [if_neg h0]; rfl
  have := call_gen (k := KB) (d := dBs) (ns := ["a", "b", "c"]) (as := [.int a, .int b, .int z]) (as' := [.int a, .int b, .int z]) G (dd_mem ..) (scOk_of (by kernel_rfl)) (by kernel_rfl) (bind_plain fun pm code doc vs h => dBs_bind pm code doc vs h) (by decide) body
  rw [dBs_name] at this
  exact this
end
end Dio

namespace Dio
set_option tactic.hygienic false
open PySem PySem.W PySem.Calls PyProof.Rows
set_option maxRecDepth 100000

/-! Ma. The numbers: extended_euclid and base_solution_linear -/
set_option tactic.hygienic true in
theorem ee_spec : ∀ (n : Nat) (a b : Int), 0 < a → 0 ≤ b → b < n → a * (eeF n a b).1 + b * (eeF n a b).2.1 = (eeF n a b).2.2 ∧ (eeF n a b).2.2 = Int.gcd a b
  | 0, a, b, _, hb, hn => by omega
  | n + 1, a, b, ha, hb, hn => by
    unfold eeF
    split
    · rename_i h
      subst h
      refine ⟨by simp, ?_⟩
      rw [Int.gcd_zero_right]
      show a = (a.natAbs : Int)
      omega
    · rename_i h
      have h1 := Int.emod_nonneg a h
      have h2 := Int.emod_lt_of_pos a (show 0 < b by omega)
      obtain ⟨e1, e2⟩ := ee_spec n b (a % b) (by omega) h1 (by omega)
      refine ⟨?_, ?_⟩
      · show a * (eeF n b (a % b)).2.1 + b * ((eeF n b (a % b)).1 - a / b * (eeF n b (a % b)).2.1) = (eeF n b (a % b)).2.2
        rw [← e1]
        have h3 : b * (a / b) + a % b = a := Int.mul_ediv_add_emod a b
        generalize (eeF n b (a % b)).1 = u
        generalize (eeF n b (a % b)).2.1 = v
        have h4 : a * v = b * (a / b) * v + a % b * v := by rw [← Int.add_mul, h3]
        rw [h4, Int.mul_sub, ← Int.mul_assoc]
        omega
      · show (eeF n b (a % b)).2.2 = _
        rw [e2, Int.gcd_comm a b]
        congr 1
        exact gcd_emod_r (by omega) hb

set_option tactic.hygienic true in
theorem bsU_mem {a b : Int} : ∀ (n : Nat) (x y : Int) (p : Int × Int), p ∈ bsU a b n x y → 0 ≤ p.1 ∧ 0 ≤ p.2 ∧ a * p.1 + b * p.2 = a * x + b * y
  | 0, x, y, p, h => by cases h
  | n + 1, x, y, p, h => by
    unfold bsU at h
    split at h
    · rename_i hy
      rcases List.mem_append.mp h with h | h
      · split at h
        · rename_i hx
          have : p = (x, y) := by simpa using h
          subst this
          exact ⟨hx, hy, rfl⟩
        · cases h
      · obtain ⟨h1, h2, h3⟩ := bsU_mem n _ _ p h
        refine ⟨h1, h2, ?_⟩
        rw [h3, Int.mul_add, Int.mul_sub, Int.mul_comm b a]
        omega
    · cases h
set_option tactic.hygienic true in
theorem bsD_mem {a b : Int} : ∀ (n : Nat) (x y : Int) (p : Int × Int), p ∈ bsD a b n x y → 0 ≤ p.1 ∧ 0 ≤ p.2 ∧ a * p.1 + b * p.2 = a * x + b * y
  | 0, x, y, p, h => by cases h
  | n + 1, x, y, p, h => by
    unfold bsD at h
    split at h
    · rename_i hx
      rcases List.mem_append.mp h with h | h
      · split at h
        · rename_i hy
          have : p = (x, y) := by simpa using h
          subst this
          exact ⟨hx, hy, rfl⟩
        · cases h
      · obtain ⟨h1, h2, h3⟩ := bsD_mem n _ _ p h
        refine ⟨h1, h2, ?_⟩
        rw [h3, Int.mul_add, Int.mul_sub, Int.mul_comm b a]
        omega
    · cases h

/-- what is divided out leaves nothing in common -/
theorem gg_one {a b z : Int} (ha : 1 ≤ a) : Int.gcd (a / gg a b z) (Int.gcd (b / gg a b z) (z / gg a b z)) = 1 := by
  have hpos : 0 < Int.gcd a (Int.gcd b z) := Int.gcd_pos_of_ne_zero_left _ (by omega)
  have hg : gg a b z = (Int.gcd a (Int.gcd b z) : Int) := rfl
  have hgp : 0 < gg a b z := by rw [hg]; omega
  have hdva : gg a b z ∣ a := Int.gcd_dvd_left ..
  have hdvb : gg a b z ∣ b := Int.dvd_trans (Int.gcd_dvd_right ..) (Int.gcd_dvd_left ..)
  have hdvz : gg a b z ∣ z := Int.dvd_trans (Int.gcd_dvd_right ..) (Int.gcd_dvd_right ..)
  generalize hd : Int.gcd (a / gg a b z) (Int.gcd (b / gg a b z) (z / gg a b z)) = d
  have d1 : (d : Int) ∣ a / gg a b z := hd ▸ Int.gcd_dvd_left ..
  have d23 : (d : Int) ∣ (Int.gcd (b / gg a b z) (z / gg a b z) : Int) := hd ▸ Int.gcd_dvd_right ..
  have d2 : (d : Int) ∣ b / gg a b z := Int.dvd_trans d23 (Int.gcd_dvd_left ..)
  have d3 : (d : Int) ∣ z / gg a b z := Int.dvd_trans d23 (Int.gcd_dvd_right ..)
  have up : ∀ x : Int, gg a b z ∣ x → (d : Int) ∣ x / gg a b z → gg a b z * d ∣ x := fun x h1 h2 => by
    have := Int.mul_dvd_mul_left (gg a b z) h2
    rwa [Int.mul_ediv_cancel' h1] at this
  have ua := up a hdva d1
  have ubz : gg a b z * d ∣ (Int.gcd b z : Int) := Int.dvd_coe_gcd (up b hdvb d2) (up z hdvz d3)
  have uu : gg a b z * d ∣ gg a b z := by
    have := Int.dvd_coe_gcd ua ubz
    exact this
  have hle := Int.le_of_dvd hgp uu
  have hdp : 0 < d := by
    rw [← hd]
    refine Int.gcd_pos_of_ne_zero_left _ ?_
    have : 1 ≤ a / gg a b z := Int.le_ediv_of_mul_le hgp (by have := Int.le_of_dvd (by omega) hdva; omega)
    omega
  have : ¬ 1 < d := fun h => by
    have : gg a b z * 2 ≤ gg a b z * d := Int.mul_le_mul_of_nonneg_left (by omega) (by omega)
    omega
  omega

set_option tactic.hygienic true in
theorem bs1_mem {a b z : Int} (ha : 1 ≤ a) (hb : 1 ≤ b) (hb' : b ≤ 100) (hz : 0 ≤ z) (h1 : Int.gcd a (Int.gcd b z) = 1) : ∀ p ∈ bs1 a b z, 0 ≤ p.1 ∧ 0 ≤ p.2 ∧ a * p.1 + b * p.2 = z := by
  intro p hp
  unfold bs1 at hp
  split at hp
  · rename_i h0
    have : p = (0, 0) := by simpa using hp
    subst this
    simp [h0]
  · split at hp
    · cases hp
    · rename_i h0 hm
      obtain ⟨e1, e2⟩ := ee_spec 101 a b (by omega) (by omega) (by omega)
      have hdv : (eeF 101 a b).2.2 ∣ z := Int.dvd_of_emod_eq_zero (by simpa using hm)
      have hone : (eeF 101 a b).2.2 = 1 := by
        rw [e2] at hdv ⊢
        have q1 : (Int.gcd a b : Int) ∣ a := Int.gcd_dvd_left ..
        have q2 : (Int.gcd a b : Int) ∣ (Int.gcd b z : Int) := Int.dvd_coe_gcd (Int.gcd_dvd_right ..) hdv
        have q3 : (Int.gcd a b : Int) ∣ (Int.gcd a (Int.gcd b z) : Int) := Int.dvd_coe_gcd q1 q2
        rw [h1] at q3
        have := Int.le_of_dvd (by decide) q3
        have hp0 : 0 < Int.gcd a b := Int.gcd_pos_of_ne_zero_left _ (by omega)
        omega
      rw [hone] at e1
      have key : a * (z * (eeF 101 a b).1) + b * (z * (eeF 101 a b).2.1) = z := by
        have := congrArg (z * ·) e1
        simp only [Int.mul_add, Int.mul_one] at this
        rw [Int.mul_left_comm a, Int.mul_left_comm b]
        exact this
      split at hp
      · have := bsU_mem _ _ _ p hp
        rw [key] at this
        exact this
      · have := bsD_mem _ _ _ p hp
        rw [key] at this
        exact this

theorem bs_mem {a b z : Int} (ha : 1 ≤ a) (hb : 1 ≤ b) (hb' : b ≤ 100) (hz : 0 ≤ z) : ∀ p ∈ bs a b z, 0 ≤ p.1 ∧ 0 ≤ p.2 ∧ a * p.1 + b * p.2 = z := by
  intro p hp
  have hpos : 0 < Int.gcd a (Int.gcd b z) := Int.gcd_pos_of_ne_zero_left _ (by omega)
  have hgp : 0 < gg a b z := by unfold gg; omega
  have hdva : gg a b z ∣ a := Int.gcd_dvd_left ..
  have hdvb : gg a b z ∣ b := Int.dvd_trans (Int.gcd_dvd_right ..) (Int.gcd_dvd_left ..)
  have hdvz : gg a b z ∣ z := Int.dvd_trans (Int.gcd_dvd_right ..) (Int.gcd_dvd_right ..)
  have p1 : 1 ≤ a / gg a b z := Int.le_ediv_of_mul_le hgp (by have := Int.le_of_dvd (by omega) hdva; omega)
  have p2 : 1 ≤ b / gg a b z := Int.le_ediv_of_mul_le hgp (by have := Int.le_of_dvd (by omega) hdvb; omega)
  have p3 : 0 ≤ z / gg a b z := Int.ediv_nonneg hz (by omega)
  have p5 : b / gg a b z ≤ b := Int.ediv_le_self _ (by omega)
  obtain ⟨h1, h2, h3⟩ := bs1_mem p1 p2 (by omega) p3 (gg_one ha) p hp
  refine ⟨h1, h2, ?_⟩
  have := congrArg (gg a b z * ·) h3
  simp only [Int.mul_add] at this
  rw [← Int.mul_assoc, ← Int.mul_assoc, Int.mul_ediv_cancel' hdva, Int.mul_ediv_cancel' hdvb, Int.mul_ediv_cancel' hdvz] at this
  exact this
end Dio

namespace Dio
set_option tactic.hygienic false
open PySem PySem.W PySem.Calls PyProof.Rows
open Sem (wp)
set_option maxRecDepth 100000

/-! Zd. More room is no harm; star calls -/
section
variable {c : Cx} {k k' : Nat} {boom : Bool} {sc : Scope} {ρ : Rho}
theorem woken_mono (hk : k ≤ k') {Γ : Ctx} (h : Γ.Woken (Ak k')) : Γ.Woken (Ak k) := by
  obtain ⟨⟨h1, h2, h3, h4, h5⟩, h6⟩ := h
  refine ⟨⟨h1, ?_, ?_, ?_, ?_⟩, h6⟩
  · have : frameCount Γ.below ≤ 900 - k' := h2
    show frameCount Γ.below ≤ 900 - k
    omega
  · intro l hl; cases hl
  · intro g hg; cases hg
  · have : unitsOf Γ.below ≤ 9000 - 8 * k' := h5
    show unitsOf Γ.below ≤ 9000 - 8 * k
    omega
theorem SegZ.mono (hk : k ≤ k') : ∀ {ds : List D} {X O : Addr → Prop} {OG : Nat → Prop} {s₀ : Shared} {cd : Code} {t : Sem Fin} {fs : List Frame} {s : Shared}, SegZ c k boom ds X O OG s₀ cd t fs s → SegZ c k' boom ds X O OG s₀ cd t fs s := by
  intro ds
  induction ds with
  | nil => exact fun h Γ p hc hΓ => h Γ p hc (woken_mono hk hΓ)
  | cons d ds ih =>
    intro X O OG s₀ cd t fs s h Γ p hc hΓ
    obtain ⟨e, s', hr, v, l, kk, cd', p', fs', he, hg, ht, hrep, hn⟩ := h Γ p hc (woken_mono hk hΓ)
    exact ⟨e, s', hr, v, l, kk, cd', p', fs', he, hg, ht, hrep, fun X' s'' hx hi t' => ih (hn X' s'' hx hi t')⟩
theorem GoZ.mono (hk : k ≤ k') {ds : List D} {X O : Addr → Prop} {OG : Nat → Prop} {s : Shared} {gs : GenState} (h : GoZ c k boom ds X O OG s gs) : GoZ c k' boom ds X O OG s gs := by
  cases gs with
  | fresh cd => exact SegZ.mono hk h
  | suspended => exact SegZ.mono hk h
  | running => exact h
  | finished => exact h
theorem GS.mono (hk : k ≤ k') {g : Nat} {ds : List D} {X O : Addr → Prop} {OG : Nat → Prop} {s : Shared} (h : GS c k boom g ds X O OG s) : GS c k' boom g ds X O OG s :=
  ⟨h.lt, h.ng, h.is, h.ig, fun X' s' hx hi ht => let ⟨gs, h1, h2, h3⟩ := h.go X' s' hx hi ht; ⟨gs, h1, h2, h3.mono hk⟩⟩
theorem Src.mono (hk : k ≤ k') {v : Value} {ds : List D} {X O : Addr → Prop} {OG : Nat → Prop} {s : Shared} (h : Src c k boom v ds X O OG s) : Src c k' boom v ds X O OG s :=
  let ⟨a, g, h1, h2, h3, h4, h5⟩ := h; ⟨a, g, h1, h2, h3, h4, h5.mono hk⟩
theorem GenOk.mono (hk : k ≤ k') {f : Value} {as ds : List D} (h : GenOk c k boom f as ds) : GenOk c k' boom f as ds :=
  fun X A s vs Q E hA hi hr hQ => h X A s vs Q E hA hi hr fun v s' O OG t h1 h2 h3 hs => hQ v s' O OG t h1 h2 h3 (hs.mono hk)

/-- f(e, *x) -/
theorem wp_call_star {nm : Str} {p pos sp : Pos} {e x : Expr} {d : D} {l : List D} {f : Value} {env : Env} {X : Addr → Prop} {A : Around} {s : Shared} {Q : Value → Shared → Prop} {E : Value → Shared → Prop} (G : Gnd c) (g : Glo c sc nm f) (hc : Callee c f) (he₁ : Ev c k sc ρ e d) (hx : Ev c k sc ρ x (.list l)) (hl : l.length ≤ 100000)
    (S : EnvS sc env) (hA : okA k A) (hi : Ok c X s) (he : EnvAt c X ρ env s.heap) (h : ∀ vs s₁, Tr c X no no s s₁ → RepL c X s₁.heap vs (d :: l) → wpAny (MF c) A (call f vs []) Q E s₁)
    (hst : ∀ env, starEach [e, .Starred x sp] env = [(false, eval e env), (true, eval x env)] := by intro _; rfl) :
    wpAny (MF c) A (eval (.Call (.Name nm p) [e, .Starred x sp] [] pos) env) Q E s := by
  refine wpAny_Call_NameR (g.eval G S hi.toIv ?_)
  refine callWith_of G hc ?_
  rw [hst]
  refine Calls.evalArgs_plain (Calls.spliced_cons (he₁ env X A s _ E S hA hi he fun v s₁ t₁ r₁ => ?_))
  have hi₁ := hi.tr t₁
  show wpAny (MF c) A ((eval x env >>= fun v => standAt pos >>= fun _ => pure v) >>= fun v => _) _ E s₁
  refine wpAny_bind (wpAny_bind (hx env X A s₁ _ E S hA hi₁ (he.step hi t₁) fun w s₂ t₂ r₂ => wpAny_bind (wpAny_standAt (wpAny_pure ?_))))
  have hi₂ := hi₁.tr t₂
  cases r₂ with
  | @list a vs _ ha hv =>
    obtain ⟨n, eo⟩ := ha.at_
    rw [if_pos rfl]
    refine wpAny_bind ?_
    unfold notIterableAtAll
    refine wpAny_bind (wpAny_specialOf (T := "list") ⟨_, eo, rfl⟩ slot_list_iter.lookup ?_)
    show wpAny (MF c) A (pure false) _ E s₂
    refine wpAny_pure ?_
    show wpAny (MF c) A (collect (.ref a) >>= fun here => holding here (spliced []) >>= fun r => pure (here ++ r)) _ E s₂
    refine wpAny_bind ?_
    refine lift (wpAny_collect_seq a (.inl rfl) (items := vs.toArray) eo rfl rfl (fun h' hk => ?_) (by have := hv.length; simp; rw [this]; exact line_le hl))
    have t₃ : Tr c X no no s₂ { s₂ with heap := h' } := Tr.grow (t := s₂.toks) hk
    refine wpAny_bind (wpAny_holding (wpAny_pure (wpAny_pure ?_)))
    have r₃ : RepL c X h' vs l := hv.tr hi₂.toIv t₃
    have r₁' := (r₁.tr hi₁.toIv t₂).tr hi₂.toIv t₃
    refine ⟨(hi₂.tr t₃).toIv, rfl, ?_⟩
    have e2 : v :: (vs.toArray.toList ++ []) = v :: vs := by simp
    show wpAny (MF c) A (call f (v :: (vs.toArray.toList ++ [])) []) Q E _
    rw [e2]
    exact h (v :: vs) _ ((t₁.seq t₂).seq t₃) (.cons r₁' r₃)

theorem EvI.genStar {nm : Str} {p pos sp : Pos} {e x : Expr} {d : D} {l ys : List D} {f : Value} (G : Gnd c) (g : Glo c sc nm f) (hc : Callee c f) (he₁ : Ev c (k + 1) sc ρ e d) (hx : Ev c (k + 1) sc ρ x (.list l)) (hl : l.length ≤ 100000) (h : GenOk c k false f (d :: l) ys)
    (hst : ∀ env, starEach [e, .Starred x sp] env = [(false, eval e env), (true, eval x env)] := by intro _; rfl) :
    EvI c (k + 1) sc ρ (.Call (.Name nm p) [e, .Starred x sp] [] pos) ys := fun env X A s Q E S hA hi he hQ => by
  refine wp_call_star G g hc he₁ hx hl S hA hi he (fun vs s₁ t₁ r₁ => ?_) hst
  refine h X A s₁ vs _ E (hA.less (by omega)) (hi.tr t₁) r₁ fun v s₂ O OG t₂ hO hOG hg hs => ?_
  exact iter_src G hi (t₁.seq t₂) (fun b hb => ⟨fun h => (hO b hb).1 (t₁.there b h), (hO b hb).2⟩) (fun i hi => Nat.le_trans t₁.gsize (hOG i hi)) (fun a g ha hg' => Nat.le_trans t₁.gsize (hg a g ha hg')) hs hQ
end
end Dio

namespace Dio
set_option tactic.hygienic false
open PySem PySem.W PySem.Calls PyProof.Rows
open Sem (wp)
set_option maxRecDepth 100000

/-! Ze. solve_linear_diop -/
noncomputable def gl (g : Int) (l : List Int) : Int := l.foldl (fun g x => (Int.gcd g x : Int)) g
theorem gl_snoc (g : Int) (l : List Int) (x : Int) : gl g (l ++ [x]) = (Int.gcd (gl g l) x : Int) := by unfold gl; rw [List.foldl_append]; rfl
theorem gl_dvd : ∀ (l : List Int) (g : Int), gl g l ∣ g ∧ ∀ x ∈ l, gl g l ∣ x
  | [], g => ⟨Int.dvd_refl g, fun _ h => nomatch h⟩
  | x :: l, g => by
    obtain ⟨h1, h2⟩ := gl_dvd l (Int.gcd g x : Int)
    refine ⟨Int.dvd_trans h1 (Int.gcd_dvd_left ..), fun y hy => ?_⟩
    rcases List.mem_cons.mp hy with rfl | hy
    · exact Int.dvd_trans h1 (Int.gcd_dvd_right ..)
    · exact h2 y hy
theorem gl_pos : ∀ (l : List Int) (g : Int), 0 < g → 0 < gl g l
  | [], g, h => h
  | x :: l, g, h => gl_pos l _ (by
    have := Int.gcd_pos_of_ne_zero_left (a := g) x (by omega)
    show 0 < ((Int.gcd g x : Nat) : Int)
    omega)

noncomputable def g3 : List Int → Int
  | b :: z :: r => gl (Int.gcd b z) r
  | _ => 0
noncomputable def solF : Nat → Int → List Int → List (List Int)
  | _, t, [] => if t = 0 then [[]] else []
  | _, t, [a] => if t % a = 0 then [[t / a]] else []
  | _, t, [a, b] => (bs a b t).map fun p => [p.1, p.2]
  | 0, _, _ => []
  | n + 1, t, a :: b :: z :: r => (bs a (g3 (b :: z :: r)) t).flatMap fun p => (solF n p.2 ((b :: z :: r).map (· / g3 (b :: z :: r)))).map (p.1 :: ·)

theorem solF_s (n : Nat) (t a b z : Int) (r : List Int) : solF (n + 1) t (a :: b :: z :: r) = (bs a (g3 (b :: z :: r)) t).flatMap fun p => (solF n p.2 ((b :: z :: r).map (· / g3 (b :: z :: r)))).map (p.1 :: ·) := by rw [solF]
theorem solF_len : ∀ (n : Nat) (t : Int) (cs : List Int), ∀ l ∈ solF n t cs, l.length = cs.length
  | 0, t, [], l, h => by
    unfold solF at h; split at h
    · have : l = [] := by simpa using h
      rw [this]
    · cases h
  | n + 1, t, [], l, h => by
    unfold solF at h; split at h
    · have : l = [] := by simpa using h
      rw [this]
    · cases h
  | 0, t, [a], l, h => by
    unfold solF at h; split at h
    · have : l = [t / a] := by simpa using h
      rw [this]; rfl
    · cases h
  | n + 1, t, [a], l, h => by
    unfold solF at h; split at h
    · have : l = [t / a] := by simpa using h
      rw [this]; rfl
    · cases h
  | 0, t, [a, b], l, h => by
    unfold solF at h
    obtain ⟨p, _, rfl⟩ := List.mem_map.mp h; rfl
  | n + 1, t, [a, b], l, h => by
    unfold solF at h
    obtain ⟨p, _, rfl⟩ := List.mem_map.mp h; rfl
  | 0, t, a :: b :: z :: r, l, h => by
    unfold solF at h; cases h
  | n + 1, t, a :: b :: z :: r, l, h => by
    unfold solF at h
    obtain ⟨p, _, hp⟩ := List.mem_flatMap.mp h
    obtain ⟨m, hm, rfl⟩ := List.mem_map.mp hp
    rw [List.length_cons, solF_len n _ _ m hm, List.length_map, List.length_cons, List.length_cons]; rfl

theorem g3_dvd {b z : Int} {r : List Int} : ∀ x ∈ b :: z :: r, g3 (b :: z :: r) ∣ x := by
  obtain ⟨h1, h2⟩ := gl_dvd r (Int.gcd b z : Int)
  intro x hx
  rcases List.mem_cons.mp hx with rfl | hx
  · exact Int.dvd_trans h1 (Int.gcd_dvd_left ..)
  · rcases List.mem_cons.mp hx with rfl | hx
    · exact Int.dvd_trans h1 (Int.gcd_dvd_right ..)
    · exact h2 x hx
theorem g3_pos {b z : Int} {r : List Int} (h : 0 < b) : 0 < g3 (b :: z :: r) := gl_pos r _ (by
  have := Int.gcd_pos_of_ne_zero_left (a := b) z (by omega)
  show 0 < ((Int.gcd b z : Nat) : Int)
  omega)

theorem sub_loop {ρ : Rho} {x t : Str} {v v' d : D} (ht : ρ t = none) (hne : t ≠ x) : Sub (upd ρ x v') (upd (upd (upd ρ x v) t d) x v') := fun y e he => by
  unfold upd at he ⊢
  by_cases hy : y = x
  · rw [if_pos hy] at he ⊢; exact he
  · rw [if_neg hy] at he ⊢
    by_cases hz : y = t
    · rw [hz, ht] at he; cases he
    · rw [if_neg hz, if_neg hy]; exact he

noncomputable def dSo : DefRec := dd 6 (by decide)
theorem dSo_name : dSo.name = "solve_linear_diop" := by kernel_rfl
theorem dSo_bind (pm code doc : Value) (u : Value) : ∀ (vs : List Value), vs.length ≤ 5 → bindArgs (docDef dSo.name dSo.params dSo.body dSo.scope pm code doc) ⟨u :: vs, []⟩ = (newTuple vs >>= fun t => pure ((["total", "coeffs"] : List Str).zip [u, t]))
  | [], _ => by kernel_rfl
  | [a], _ => by kernel_rfl
  | [a, b], _ => by kernel_rfl
  | [a, b, d], _ => by kernel_rfl
  | [a, b, d, e], _ => by kernel_rfl
  | [a, b, d, e, f], _ => by kernel_rfl
  | a :: b :: d :: e :: f :: g :: r, h => by simp at h

noncomputable def scN : Scope := { kind := ScopeKind.function, names := [ (Str.ofString ".0", NameKind.local), (Str.ofString "c", NameKind.local), (Str.ofString "remainder_gcd", NameKind.free)], isGenerator := false, isCoroutine := false }
theorem scN_ok : CompSc scN dSo.scope := ⟨rfl, by decide, fun x hx hf => by
  simp only [scN, List.mem_cons, List.not_mem_nil, or_false] at hx
  rcases hx with rfl | rfl | rfl
  · cases hf
  · cases hf
  · kernel_rfl, by decide, rfl⟩

section
variable {c : Cx}
theorem sol_gen (G : Gnd c) : ∀ (n : Nat) (cs : List Int) (t : Int), n ≤ 20 → cs.length ≤ n + 2 → cs.length ≤ 5 → (∀ x ∈ cs, 1 ≤ x ∧ x ≤ 100) → 0 ≤ t → t ≤ 1000 →
    ∃ f, c.mg "solve_linear_diop" = some (.ref f) ∧ Callee c (.ref f) ∧ GenOk c (2 * n + 121) false (.ref f) (.int t :: lsI cs) ((solF n t cs).map tupI)
  | n, cs, t, h20, hn, h5, hv, h1, h2 => by
    have hlen : (lsI cs).length = cs.length := by unfold lsI; rw [List.length_map]
    have body : Gz c (2 * n + 120) dSo.scope (bindR ["total", "coeffs"] [.int t, tupI cs] fun _ => none) dSo.body ((solF n t cs).map tupI) (fun o => (∃ ρ, o = .next ρ) ∨ o = .ret .none) := by
      rw [show dSo.body = bodyAt 7 from by kernel_rfl]
      have glen : Glo c dSo.scope "len" (.builtin "len") := glo_builtin G (by kernel_rfl) (by kernel_rfl) (by kernel_rfl) (by kernel_rfl) (by decide) (by decide)
      have gtup : Glo c dSo.scope "tuple" (.type "tuple") := glo_builtin G (by kernel_rfl) (by kernel_rfl) (by kernel_rfl) (by kernel_rfl) (by decide) (by decide)
      have item : ∀ {k : Nat} {ρ : Rho} {e : Expr} {i : Int} {j : Nat} {pc pos : Pos} {x : Int}, Ev c k dSo.scope ρ e (tupI cs) → 0 ≤ i ∧ i < 1000 → cs[i.toNat]? = some x → (∀ o r, letTemporaryGo e o r = pure ()) → Ev c k dSo.scope ρ (.Subscript e (.Constant (.int i) j pc) pos) (.int x) :=
        fun h hi hx hg => .item h (.inl rfl) hi (by unfold lsI; rw [List.getElem?_map, hx]; rfl) hg
      refine Gz.ite (Tst.cmp (.call G glen (.builtin _) (.cons (.name (by rfl)) .nil) (call_len (.inl rfl) (by rw [hlen]; omega))) (.int 0 _ _) (Op2.eq _ 0)) (fun h => ?_) fun h => ?_
      · have hc0 : cs = [] := by
          have h' := of_decide_eq_true h
          rw [hlen] at h'
          exact List.length_eq_zero_iff.mp (by omega)
        subst hc0
        unfold solF
        refine Gz.ite (Tst.cmp (.name (by rfl)) (.int 0 _ _) (Op2.eq t 0)) (fun h => ?_) fun h => ?_
        · rw [if_pos (of_decide_eq_true h)]
          exact Gz.yield (.call G gtup (.type _) .nil call_tuple0) (Gz.ret (.inr rfl)) (by kernel_rfl)
        · rw [if_neg (of_decide_eq_false h)]
          exact Gz.ret (.inr rfl)
      have h0 := of_decide_eq_false h
      rw [hlen] at h0
      refine Gz.ite (Tst.cmp (.call G glen (.builtin _) (.cons (.name (by rfl)) .nil) (call_len (.inl rfl) (by rw [hlen]; omega))) (.int 1 _ _) (Op2.eq _ 1)) (fun h => ?_) fun h => ?_
      · have h' := of_decide_eq_true h
        rw [hlen] at h'
        obtain ⟨a, rfl⟩ := len1 (show cs.length = 1 by omega)
        have ha := hv a (by simp)
        have e1 : t.fmod a = t % a := Int.fmod_eq_emod_of_nonneg _ (by omega)
        have e2 : t.fdiv a = t / a := Int.fdiv_eq_ediv_of_nonneg _ (by omega)
        unfold solF
        refine Gz.ite (Tst.cmp (.bin (.name (by rfl)) (item (i := 0) (x := a) (.name (by rfl)) ⟨by decide, by decide⟩ rfl fun _ _ => rfl) (e1 ▸ Op2.mod t a (by omega))) (.int 0 _ _) (Op2.eq _ 0)) (fun h => ?_) fun h => ?_
        · rw [if_pos (of_decide_eq_true h)]
          exact Gz.yield (.tupD (.cons (.bin (.name (by rfl)) (item (i := 0) (x := a) (.name (by rfl)) ⟨by decide, by decide⟩ rfl fun _ _ => rfl) (e2 ▸ Op2.div t a (by omega) (by omega) (by omega))) .nil) (by show 1 ≤ 100000; decide)) (Gz.ret (.inr rfl)) (by kernel_rfl)
        · rw [if_neg (of_decide_eq_false h)]
          exact Gz.ret (.inr rfl)
      have h1' := of_decide_eq_false h
      rw [hlen] at h1'
      refine Gz.ite (Tst.cmp (.call G glen (.builtin _) (.cons (.name (by rfl)) .nil) (call_len (.inl rfl) (by rw [hlen]; omega))) (.int 2 _ _) (Op2.eq _ 2)) (fun h => ?_) fun h => ?_
      · have h' := of_decide_eq_true h
        rw [hlen] at h'
        obtain ⟨a, b, rfl⟩ := len2 (show cs.length = 2 by omega)
        have ha := hv a (by simp)
        have hb := hv b (by simp)
        obtain ⟨f, hf, hc, hgen⟩ := bs_gen G a b t ha.1 ha.2 hb.1 hb.2 h1 h2
        have e3 : (solF n t [a, b]).map tupI = (bs a b t).map pr ++ [] := by
          unfold solF
          rw [List.map_map, List.append_nil]; rfl
        rw [e3]
        exact Gz.yfrom (k := 2 * n + 118) G (glo_def (by kernel_rfl) hf) hc (.cons (item (i := 0) (x := a) (.name (by rfl)) ⟨by decide, by decide⟩ rfl fun _ _ => rfl) (.cons (item (i := 1) (x := b) (.name (by rfl)) ⟨by decide, by decide⟩ rfl fun _ _ => rfl) (.cons (.name (by rfl)) .nil))) (hgen.mono (by show 110 + 1 ≤ _; omega)) (Gz.ret (.inr rfl))
      have h2' := of_decide_eq_false h
      rw [hlen] at h2'
      obtain ⟨a, b, z, r, rfl⟩ : ∃ a b z r, cs = a :: b :: z :: r := by
        match cs with
        | a :: b :: z :: r => exact ⟨a, b, z, r, rfl⟩
        | [] => simp at h0
        | [a] => simp at h1'
        | [a, b] => simp at h2'
      obtain ⟨n, rfl⟩ : ∃ n', n = n' + 1 := ⟨n - 1, by simp at hn; omega⟩
      have hk : 2 * (n + 1) + 120 = 2 * n + 121 + 1 := by omega
      rw [hk]
      have ha := hv a (by simp)
      have hb := hv b (by simp)
      have hz := hv z (by simp)
      have hgp : 0 < g3 (b :: z :: r) := g3_pos (by omega)
      have hgd := g3_dvd (b := b) (z := z) (r := r)
      have hgb : g3 (b :: z :: r) ≤ b := Int.le_of_dvd (by omega) (hgd b (by simp))
      obtain ⟨fg, hfg, hcg, hg⟩ := gcd_call (k := 2 * n + 121) G b z
      have gall : ∀ x y : Int, CallOk c (2 * n + 121 + 1) (.ref fg) [.int x, .int y] (.int (Int.gcd x y)) := fun x y => by
        obtain ⟨fg', hfg', _, hg'⟩ := gcd_call (k := 2 * n + 121) G x y
        have : fg' = fg := by rw [hfg] at hfg'; cases hfg'; rfl
        subst this
        exact hg'.mono (by omega)
      have gg : Glo c dSo.scope "_gcd" (.ref fg) := glo_def (by kernel_rfl) hfg
      refine Gz.assign (d := .int (Int.gcd b z)) (.call G gg hcg (.cons (item (i := 1) (x := b) (.name (by rfl)) ⟨by decide, by decide⟩ rfl fun _ _ => rfl) (.cons (item (i := 2) (x := z) (.name (by rfl)) ⟨by decide, by decide⟩ rfl fun _ _ => rfl) .nil)) (gall b z)) (.nameC (by kernel_rfl)) ?_
      generalize hρ : bindR ["total", "coeffs"] [.int t, tupI (a :: b :: z :: r)] (fun _ => none) = ρ₀
      have q1 : ρ₀ "total" = some (.int t) := by rw [← hρ]; rfl
      have q2 : ρ₀ "coeffs" = some (tupI (a :: b :: z :: r)) := by rw [← hρ]; rfl
      have q3 : ρ₀ "coeff" = none := by rw [← hρ]; rfl
      have q4 : ρ₀ "coeff0_solution" = none ∧ ρ₀ "remainder_gcd_solution" = none ∧ ρ₀ "new_coeffs" = none ∧ ρ₀ "remainder_solution" = none := by rw [← hρ]; exact ⟨rfl, rfl, rfl, rfl⟩
      clear hρ
      -- the gcd of the rest
      refine Gz.cast (Gz.for (items := lsI r) (f := fun _ => []) (fun rem => upd ρ₀ "remainder_gcd" (.int (gl (Int.gcd b z) (r.take (r.length - rem.length)))))
        (.val (d := tupI r) (.from_tup (l := lsI (a :: b :: z :: r)) (.name q2) (by decide) (by simp [lsI]) (by rw [hlen]; omega)) (.inl rfl)) ?_ (fun pre d ds hp => ?_) (ys := (solF (n + 1) t (a :: b :: z :: r)).map tupI) ?_) ?_
      · have : r.length - (lsI r).length = 0 := by simp [lsI]
        rw [this]; exact Sub.refl _
      · obtain ⟨x, hx, rfl⟩ := cut_mem hp
        have hp' : r.length = pre.length + (ds.length + 1) := by
          have := congrArg List.length hp
          simpa [lsI] using this
        have e1 : r.length - (D.int x :: ds).length = pre.length := by rw [List.length_cons]; omega
        have e2 : r.length - ds.length = pre.length + 1 := by omega
        have e3 : r.take (pre.length + 1) = r.take pre.length ++ [x] := by
          have hlt : pre.length < r.length := by omega
          rw [List.take_succ_eq_append_getElem hlt]
          congr 2
          have h3 : (lsI r)[pre.length]? = some (.int x) := by rw [hp]; simp
          unfold lsI at h3
          rw [List.getElem?_map, List.getElem?_eq_getElem hlt] at h3
          have := Option.some.inj h3
          cases this; rfl
        refine ⟨_, .name (by kernel_rfl), Gz.assign (d := .int (gl (Int.gcd b z) (r.take (pre.length + 1)))) (.call G gg hcg (.cons (.name (by rfl)) (.cons (.name (by rfl)) .nil)) ?_) (.nameC (by kernel_rfl)) (Gz.nil ⟨_, rfl, ?_⟩)⟩
        · rw [e1, e3, gl_snoc]; exact gall _ _
        · rw [e2]; exact sub_loop q3 (by decide)
      · have e4 : r.length - ([] : List D).length = r.length := rfl
        rw [e4, List.take_length]
        have hgl : gl (Int.gcd b z) r = g3 (b :: z :: r) := rfl
        rw [hgl]
        generalize hgv : g3 (b :: z :: r) = g at *
        obtain ⟨f, hf, hc, hgen⟩ := bs_gen G a g t ha.1 ha.2 (by omega) (by omega) h1 h2
        have hmem := bs_mem (a := a) (b := g) (z := t) ha.1 (by omega) (by omega) h1
        refine Gz.cast (Gz.for (ys := []) (items := (bs a g t).map pr) (f := fun d => match d with | .tup [.int x, .int y] => ((solF n y ((b :: z :: r).map (· / g))).map fun l => tupI (x :: l)) | _ => []) (fun _ => upd ρ₀ "remainder_gcd" (.int g))
          (EvI.gen (k := 2 * n + 121) G (glo_def (by kernel_rfl) hf) hc (.cons (item (i := 0) (x := a) (.name q2) ⟨by decide, by decide⟩ rfl fun _ _ => rfl) (.cons (.name (by rfl)) (.cons (.name q1) .nil))) (hgen.mono (by show 110 + 1 ≤ _; omega))) (Sub.refl _) (fun pre d ds hp => ?_) (Gz.nil (.inl ⟨_, rfl⟩))) ?_
        · obtain ⟨p, hp', rfl⟩ := cut_mem hp
          obtain ⟨m1, m2, m3⟩ := hmem p hp'
          obtain ⟨x, y⟩ := p
          simp only at m1 m2 m3
          have hy : y ≤ t := by
            have h3 : y ≤ g * y := by
              have := Int.mul_le_mul_of_nonneg_right (show (1 : Int) ≤ g by omega) m2
              omega
            have h4 : 0 ≤ a * x := Int.mul_nonneg (by omega) m1
            omega
          have hcs : ∀ w ∈ (b :: z :: r).map (· / g), 1 ≤ w ∧ w ≤ 100 := fun w hw => by
            obtain ⟨u, hu, rfl⟩ := List.mem_map.mp hw
            have hu' := hv u (List.mem_cons_of_mem _ hu)
            have hdu := hgd u hu
            have hle := Int.le_of_dvd (by omega) hdu
            refine ⟨Int.le_ediv_of_mul_le hgp (by omega), ?_⟩
            have := Int.ediv_le_self g (show 0 ≤ u by omega)
            have : u / g ≤ u := Int.ediv_le_self _ (by omega)
            omega
          obtain ⟨fs, hfs, hcs', hgs⟩ := sol_gen G n ((b :: z :: r).map (· / g)) y (by omega) (by simp at hn ⊢; omega) (by simp at h5 ⊢; omega) hcs m2 (by omega)
          refine ⟨_, As.tup (.cons (.name (by kernel_rfl)) (.cons (.name (by kernel_rfl)) .nil)), ?_⟩
          have hflat : ((lsI (b :: z :: r)).flatMap fun d => match d with | .int u => [D.int (u / g)] | _ => []) = lsI ((b :: z :: r).map (· / g)) := by
            unfold lsI
            rw [List.flatMap_map, List.map_map]
            exact flatMap_one (fun u => D.int (u / g)) _
          refine Gz.step (ss := [_]) (ρ' := upd (upd (upd (upd ρ₀ "remainder_gcd" (.int g)) "coeff0_solution" (.int x)) "remainder_gcd_solution" (.int y)) "new_coeffs" (.list (lsI ((b :: z :: r).map (· / g)))))
            (ex_comp (N := 1000) (scope := scN) (items := lsI (b :: z :: r)) (f := fun d => match d with | .int u => [.int (u / g)] | _ => []) (fun _ => inner scN (upd (upd (upd ρ₀ "remainder_gcd" (.int g)) "coeff0_solution" (.int x)) "remainder_gcd_solution" (.int y))) scN_ok
              (.val (d := tupI (b :: z :: r)) (.from_tup (l := lsI (a :: b :: z :: r)) (.name q2) (by decide) (by simp [lsI]) (by rw [hlen]; omega)) (.inl rfl)) (Sub.refl _) (fun pre d ds hp => ?_) ?_ (den_one _ _ _ _ _) (As.name (by kernel_rfl)) (Ex.nil ?_) (fun env he => by cases env; subst he; rfl)) ?_
          · obtain ⟨u, hu, rfl⟩ := cut_mem hp
            have hu' := hv u (List.mem_cons_of_mem _ hu)
            have e5 : u.fdiv g = u / g := Int.fdiv_eq_ediv_of_nonneg _ (by omega)
            exact ⟨_, _, .name (by kernel_rfl), body_emit (by decide) (.bin (.name (by rfl)) (.name (by rfl)) (e5 ▸ Op2.div u g (by omega) (by omega) (by omega))), sub_fresh (by rfl)⟩
          · rw [hflat]
            simp [lsI] at h5 ⊢
            omega
          · rw [hflat]
          · refine Gz.cast (Gz.for (ys := []) (items := (solF n y ((b :: z :: r).map (· / g))).map tupI) (f := fun d => match d with | .tup l => [.tup (.int x :: l)] | _ => []) (fun _ => upd (upd (upd (upd ρ₀ "remainder_gcd" (.int g)) "coeff0_solution" (.int x)) "remainder_gcd_solution" (.int y)) "new_coeffs" (.list (lsI ((b :: z :: r).map (· / g)))))
              (EvI.genStar (k := 2 * n + 121) G (glo_def (by kernel_rfl) hfs) hcs' (.name (by rfl)) (.name (by rfl)) (by simp [lsI] at h5 ⊢; omega) hgs) (Sub.refl _) (fun pre d ds hp => ?_) (Gz.nil ⟨_, rfl, ?_⟩)) ?_
            · obtain ⟨l, hl, rfl⟩ := cut_mem hp
              refine ⟨_, .name (by kernel_rfl), Gz.yield (.bin (.tupD (.cons (.name (by rfl)) .nil)) (.name (by rfl)) (Op2.addT _ _ ?_)) (Gz.nil ⟨_, rfl, sub_fresh q4.2.2.2⟩) (by kernel_rfl)⟩
              have := solF_len _ _ _ l hl
              simp at h5
              simp [lsI, this]; omega
            · exact Sub.trans (sub_fresh (x := "coeff0_solution") q4.1) (Sub.trans (sub_fresh (x := "remainder_gcd_solution") q4.2.1) (sub_fresh (x := "new_coeffs") q4.2.2.1))
            · rw [List.append_nil, List.flatMap_map]
              exact flatMap_one (fun l => tupI (x :: l)) _
        · rw [List.append_nil, List.flatMap_map]
          rw [solF_s, hgv, List.map_flatMap]
          congr 1
          funext p
          rw [List.map_map]
          rfl
      · rw [show ((lsI r).flatMap fun _ => ([] : List D)) = [] from by simp]; rfl
    have hbind : ∀ (X : Addr → Prop) (A : Around) (s : Shared) (pm code doc : Value) (vs : List Value) (E : Value → Shared → Prop) (Q : List (Str × Value) → Shared → Prop), Ok c X s → RepL c X s.heap vs (.int t :: lsI cs) →
      (∀ us s', Tr c X no no s s' → RepL c X s'.heap us [.int t, tupI cs] → Q ((["total", "coeffs"] : List Str).zip us) s') → wpAny (MF c) A (bindArgs (docDef dSo.name dSo.params dSo.body dSo.scope pm code doc) ⟨vs, []⟩) Q E s := fun X A s pm code doc vs E Q hi hr hQ => by
      cases hr with
      | @cons u _ us _ r rs =>
        rw [dSo_bind pm code doc u us (by rw [rs.length, hlen]; exact h5)]
        refine wpAny_bind (wpAny_newObj_type (wpAny_pure ?_) (by show us.toArray.size ≤ sizeLine; simp; rw [rs.length, hlen]; exact line_le (by omega)))
        exact hQ [u, _] _ (Tr.push (t := s.toks)) (.cons (r.tr hi.toIv (Tr.push (t := s.toks) (W := no) (G := no))) (.cons (rep_push hi rs) .nil))
    have := call_gen (k := 2 * n + 120) (d := dSo) (ns := ["total", "coeffs"]) (as := [.int t, tupI cs]) (as' := .int t :: lsI cs) G (dd_mem ..) (scOk_of (by kernel_rfl)) (by kernel_rfl) hbind (by omega) body
    rw [dSo_name] at this
    exact this
  termination_by n => n
end
end Dio

namespace Dio
set_option tactic.hygienic false
open PySem PySem.W PySem.Calls PyProof.Rows
open Sem (wp)
set_option maxRecDepth 100000

/-! Zf. for over a zip of two lists -/
mutual
theorem Rep.butP {c : Cx} {X P : Addr → Prop} {h h' : Heap} (hk : ∀ b o, ¬ P b → h.get? b = some o → h'.get? b = some o) (hC : ∀ b, P b → X b ∨ ∀ o, h.get? b = some o → ¬ Frozen o) : ∀ {v : Value} {d : D}, Rep c X h v d → Rep c X h' v d
  | _, _, .none => .none
  | _, _, .bool b => .bool b
  | _, _, .int i t => .int i t
  | _, _, .tup (a := a) s r => .tup (let ⟨n, e⟩ := s.at_; have hn : ¬ P a := fun hp => (hC a hp).elim s.notX fun hf => hf _ e (.seqObj ..); ⟨⟨n, hk _ _ hn e⟩, s.notX, fun ho o eo => s.old ho o (by rw [hk _ _ hn e] at eo; cases eo; exact e)⟩) (RepL.butP hk hC r)
  | _, _, .list (a := a) s r => .list (let ⟨n, e⟩ := s.at_; have hn : ¬ P a := fun hp => (hC a hp).elim s.notX fun hf => hf _ e (.seqObj ..); ⟨⟨n, hk _ _ hn e⟩, s.notX, fun ho o eo => s.old ho o (by rw [hk _ _ hn e] at eo; cases eo; exact e)⟩) (RepL.butP hk hC r)
  | _, _, .obj a => .obj a
theorem RepL.butP {c : Cx} {X P : Addr → Prop} {h h' : Heap} (hk : ∀ b o, ¬ P b → h.get? b = some o → h'.get? b = some o) (hC : ∀ b, P b → X b ∨ ∀ o, h.get? b = some o → ¬ Frozen o) : ∀ {vs : List Value} {ds : List D}, RepL c X h vs ds → RepL c X h' vs ds
  | _, _, .nil => .nil
  | _, _, .cons r rs => .cons (Rep.butP hk hC r) (RepL.butP hk hC rs)
end

section
variable {c : Cx} {k : Nat} {sc : Scope} {ρ : Rho} {X : Addr → Prop} {s : Shared}
theorem SeqAt.butP {P : Addr → Prop} {h h' : Heap} {a : Addr} {cls : String} {vs : List Value} (q : SeqAt c X h a cls vs) (hk : ∀ b o, ¬ P b → h.get? b = some o → h'.get? b = some o) (hC : ∀ b, P b → X b ∨ ∀ o, h.get? b = some o → ¬ Frozen o) : SeqAt c X h' a cls vs := by
  obtain ⟨n, e⟩ := q.at_
  have hn : ¬ P a := fun hp => (hC a hp).elim q.notX fun hf => hf _ e (.seqObj ..)
  exact ⟨⟨n, hk _ _ hn e⟩, q.notX, fun ho o eo => q.old ho o (by rw [hk _ _ hn e] at eo; cases eo; exact e)⟩
theorem EnvAt.butP {P : Addr → Prop} {h h' : Heap} {env : Env} (he : EnvAt c X ρ env h) (hk : ∀ b o, ¬ P b → h.get? b = some o → h'.get? b = some o) (hC : ∀ b, P b → X b ∨ ∀ o, h.get? b = some o → ¬ Frozen o) (ho : ∀ b, own env b → ¬ P b) : EnvAt c X ρ env h' := by
  obtain ⟨m, cm, V, hv⟩ := he
  refine ⟨m, cm, ⟨V.ns.at fun o e => hk _ o (ho _ (.inl rfl)) e, fun x a ha => ?_, V.apart, V.low, V.lowc, V.code⟩, fun x d hd => ?_⟩
  · obtain ⟨o, e, hd⟩ := V.cell x a ha
    exact ⟨o, hk _ _ (ho _ (.inr ⟨x, ha⟩)) e, hd⟩
  · obtain ⟨v, r, h1⟩ := hv x d hd
    exact ⟨v, r.butP hk hC, h1⟩
theorem Tr.butP {P W : Addr → Prop} {G : Nat → Prop} {s' : Shared} {h' : Heap} {tk : Nat} (hi : Iv c s) (t : Tr c X W G s s') (hk : ∀ b o, ¬ P b → s'.heap.get? b = some o → h'.get? b = some o) (hP : ∀ b, P b → ¬ Is s.heap b) : Tr c X W G s { s' with heap := h', toks := tk } where
  there := fun b hb => let ⟨o, e⟩ := t.there b hb; ⟨o, hk b o (fun hp => hP b hp hb) e⟩
  keep := fun b o e hp hw => hk b o (fun h => hP b h ⟨o, e⟩) (t.keep b o e hp hw)
  tab := fun h => (t.tab h).at (fun o e => hk _ _ (fun hp => hP _ hp (hi.is_old hi.lowC)) e) (fun o e => hk _ _ (fun hp => hP _ hp (hi.is_old hi.lowP)) e)
  gsize := t.gsize
  gkeep := t.gkeep
  gnew := t.gnew
  os := t.os

structure ZipSt (z TI TO i1 i2 l1 l2 : Addr) (i : Nat) (h : Heap) : Prop where
  z : IsZip h z TI TO .none
  ti : IsPair h TI (.ref i1) (.ref i2)
  to : ∃ a b, IsPair h TO a b
  h1 : h.IsListIter i1 l1 i
  h2 : h.IsListIter i2 l2 i
noncomputable def zipP (z TO i1 i2 : Addr) : Addr → Prop := fun b => b = z ∨ b = TO ∨ b = i1 ∨ b = i2
theorem ZipSt.at {z TI TO i1 i2 l1 l2 : Addr} {i : Nat} {h h' : Heap} (q : ZipSt z TI TO i1 i2 l1 l2 i h) (hk : ∀ b, b = z ∨ b = TI ∨ b = TO ∨ b = i1 ∨ b = i2 → ∀ o, h.get? b = some o → h'.get? b = some o) : ZipSt z TI TO i1 i2 l1 l2 i h' :=
  ⟨hk z (by simp) _ q.z, hk TI (by simp) _ q.ti, let ⟨a, b, e⟩ := q.to; ⟨a, b, hk TO (by simp) _ e⟩, q.h1.at fun o e => hk i1 (by simp) o e, q.h2.at fun o e => hk i2 (by simp) o e⟩
theorem ZipSt.soft {z TI TO i1 i2 l1 l2 : Addr} {i : Nat} {h : Heap} (q : ZipSt z TI TO i1 i2 l1 l2 i h) {X : Addr → Prop} (hX : X TO) : ∀ b, zipP z TO i1 i2 b → X b ∨ ∀ o, h.get? b = some o → ¬ Frozen o := by
  have it : ∀ (i l : Addr) (n : Nat), h.IsListIter i l n → ∀ o, h.get? i = some o → ¬ Frozen o := fun i l n q o e ⟨_, _, hf⟩ => by
    obtain ⟨o', e', _, hd⟩ := q
    rw [e] at e'; cases e'
    rw [hd] at hf; cases hf
  rintro b (rfl | rfl | rfl | rfl)
  · exact .inr fun o e ⟨_, _, hf⟩ => by rw [q.z] at e; cases e; cases hf
  · exact .inl hX
  · exact .inr (it _ _ _ q.h1)
  · exact .inr (it _ _ _ q.h2)

theorem zip_loop {A : Around} {R : Result → Shared → Prop} {env : Env} {ts : List Expr} {j : Nat} {tp : Pos} {body : List Stmt} {z TI TO i1 i2 a1 a2 : Addr} {v1 v2 : List Value} {l1 l2 : List D} {F : Nat → Rho} (S : EnvS sc env) (hA : okA k A) (AP : ZipApart z TI TO i1 i2 a1 a2)
    (hlen : l1.length = l2.length) (hX : X TO) (hi0 : Ok c (fun b => X b ∧ b ≠ TO) s) (hTI : ¬ Is s.heap TI) (hP : ∀ b, zipP z TO i1 i2 b → ¬ Is s.heap b) (ho : ∀ b, own env b → Is s.heap b)
    (hb : ∀ i d e, l1[i]? = some d → l2[i]? = some e → ∃ ρ₁, As c k sc (F i) (.Tuple ts j tp) (.tup [d, e]) ρ₁ ∧ Ex c k sc ρ₁ body fun o => ∃ ρ', o = .next ρ' ∧ Sub (F (i + 1)) ρ')
    (hR : ∀ s', Tr c X (own env) no s s' → EnvAt c X (F l1.length) env s'.heap → R (.ok .next) s') :
    ∀ (n i : Nat) (s' : Shared), l1.length = i + n → Ok c X s' → Tr c X (own env) no s s' → ZipSt z TI TO i1 i2 a1 a2 i s'.heap → SeqAt c X s'.heap a1 "list" v1 → RepL c X s'.heap v1 l1 → SeqAt c X s'.heap a2 "list" v2 → RepL c X s'.heap v2 l2 → EnvAt c X (F i) env s'.heap →
      codeAny (MF c) A (.forLoop (.Tuple ts j tp) (.ref z) body [] env) R s' := by
  have hiv : Iv c s := hi0.toIv
  have hown : ∀ b, own env b → ¬ zipP z TO i1 i2 b := fun b hb hp => hP b hp (ho b hb)
  intro n
  induction n with
  | zero =>
    intro i s' hn hi t Z q1 r1 q2 r2 he
    refine codeAny_of_tree ?_
    rw [Around.under_of_weight (by rfl)]
    show wpAny (MF c) A ((forTurn (.Tuple ts j tp) (.ref z) body [] env).onRaise (fun x => do noteFrame x env; theTreesLotGoes x)) _ _ s'
    refine wpAny_noted ?_
    simp only [forTurn]
    obtain ⟨p, q, hTO⟩ := Z.to
    obtain ⟨n1, e1⟩ := q1.at_
    obtain ⟨n2, e2⟩ := q2.at_
    refine wpAny_bind (wpAny_standAt (wpAny_bind (wpAny_onRaise (lift (wpAny_pyNext_zip_end (xs := v1.toArray) (ys := v2.toArray) hA.1 AP Z.z Z.ti hTO Z.h1 Z.h2 ⟨_, e1, rfl, n1, rfl⟩ ⟨_, e2, rfl, n2, rfl⟩ (.inl (by have := r1.length; simp; omega)) fun h' hk => ?_)))))
    refine wpAny_pure ⟨rfl, codeAny_of_tree ?_⟩
    rw [Around.under_of_weight (by rfl)]
    show wpAny (MF c) A (pure (Fin.done Flow.next)) _ _ _
    have hkP : ∀ b o, ¬ zipP z TO i1 i2 b → s'.heap.get? b = some o → h'.get? b = some o := fun b o hp e => hk b o (fun h => hp (.inl h)) (fun h => hp (.inr (.inl h))) (fun h => hp (.inr (.inr (.inl h)))) (fun h => hp (.inr (.inr (.inr h)))) e
    refine wpAny_pure (hR _ (t.butP (tk := s'.toks) hiv hkP hP) ?_)
    have hl : i = l1.length := by omega
    rw [← hl]
    exact he.butP hkP (Z.soft hX) hown
  | succ n ih =>
    intro i s' hn hi t Z q1 r1 q2 r2 he
    have h1 : i < l1.length := by omega
    have h2 : i < l2.length := by omega
    obtain ⟨ρ₁, hAs, hEx⟩ := hb i l1[i] l2[i] (List.getElem?_eq_getElem h1) (List.getElem?_eq_getElem h2)
    obtain ⟨x, hx, rx⟩ := r1.get (List.getElem?_eq_getElem h1)
    obtain ⟨y, hy, ry⟩ := r2.get (List.getElem?_eq_getElem h2)
    refine codeAny_of_tree ?_
    rw [Around.under_of_weight (by rfl)]
    show wpAny (MF c) A ((forTurn (.Tuple ts j tp) (.ref z) body [] env).onRaise (fun x => do noteFrame x env; theTreesLotGoes x)) _ _ s'
    refine wpAny_noted ?_
    simp only [forTurn]
    obtain ⟨p, q, hTO⟩ := Z.to
    obtain ⟨n1, e1⟩ := q1.at_
    obtain ⟨n2, e2⟩ := q2.at_
    refine wpAny_bind (wpAny_standAt (wpAny_bind (wpAny_onRaise (lift (wpAny_pyNext_zip_item (xs := v1.toArray) (ys := v2.toArray) (x := x) (y := y) AP Z.z Z.ti hTO Z.h1 Z.h2 ⟨_, e1, rfl, n1, rfl⟩ ⟨_, e2, rfl, n2, rfl⟩ (by simpa using hx) (by simpa using hy) fun h' z1 z2 z3 z4 z5 z6 hk => ?_)))))
    have hkP : ∀ b o, ¬ zipP z TO i1 i2 b → s'.heap.get? b = some o → h'.get? b = some o := fun b o hp e => hk b o (fun h => hp (.inl h)) (fun h => hp (.inr (.inl h))) (fun h => hp (.inr (.inr (.inl h)))) (fun h => hp (.inr (.inr (.inr h)))) e
    have soft := Z.soft hX
    have TIn : ¬ zipP z TO i1 i2 TI := fun hp => hp.elim AP.TIz fun hp => hp.elim AP.TITO fun hp => hp.elim AP.TIi1 AP.TIi2
    refine wpAny_bind (lift (wpAny_letOwnedTupleGo_zip z1 fun h₂ hz₂ hs₂ => ?_))
    have hk₂ : ∀ b o, ¬ zipP z TO i1 i2 b → s'.heap.get? b = some o → h₂.get? b = some o := fun b o hp e => (hs₂.2 b fun h => hp (.inl h)).trans (hkP b o hp e)
    have tup : h₂.get? s'.heap.objs.size = some (seqObj "tuple" [x, y] 0) := by
      have hne : s'.heap.objs.size ≠ z := fun h => Nat.ne_of_gt (Heap.lt_size Z.z) h
      exact (hs₂.2 _ hne).trans z5
    have hnz : ∀ b, b ≠ z → ∀ o, h'.get? b = some o → h₂.get? b = some o := fun b hb o e => (hs₂.2 b hb).trans e
    have Z₂ : ZipSt z TI TO i1 i2 a1 a2 (i + 1) h₂ := ⟨hz₂, hk₂ TI _ TIn Z.ti, ⟨_, _, hnz TO AP.TOz _ z2⟩, z3.at fun o e => hnz i1 AP.i1z o e, z4.at fun o e => hnz i2 AP.i2z o e⟩
    have T₂ : Tr c X (own env) no s { s' with heap := h₂, toks := s'.toks } := t.butP hiv hk₂ hP
    have hi₂ : Ok c X { s' with heap := h₂ } := ⟨hiv.tr T₂, fun b hb => by
      by_cases hbt : b = TO
      · subst hbt; obtain ⟨_, _, e⟩ := Z₂.to; exact ⟨_, e⟩
      · exact T₂.there b (hi0.xs b ⟨hb, hbt⟩)⟩
    have he₂ := he.butP hk₂ soft hown
    have rep : Rep c X h₂ (.ref s'.heap.objs.size) (.tup [l1[i], l2[i]]) := by
      refine .tup ⟨⟨0, tup⟩, fun hx => ?_, fun ho => absurd (hi.toIv.is_old ho) (not_is_size _)⟩ (.cons (rx.butP hk₂ soft) (.cons (ry.butP hk₂ soft) .nil))
      exact not_is_size _ (hi.xs _ hx)
    refine wpAny_bind (hAs env X A _ _ _ _ S hA hi₂ he₂ rep fun s₃ t₃ e₃ => ?_)
    have hi₃ := hi₂.tr t₃
    refine wpAny_bind (hEx env X A s₃ _ _ S hA hi₃ e₃ fun o fl s₄ t₄ hRo hoo => ?_)
    obtain ⟨ρ', rfl, hsub⟩ := hRo
    cases hoo with
    | next e₄ =>
      have t₂₄ := t₃.then t₄
      refine wpAny_pure ⟨rfl, ?_⟩
      have hnold : ∀ b, ¬ Is s.heap b → b ≠ c.P := fun b hb h => hb (h ▸ hiv.is_old hiv.lowP)
      have Z₄ : ZipSt z TI TO i1 i2 a1 a2 (i + 1) s₄.heap := Z₂.at fun b hb o e => by
        have hbs : ¬ Is s.heap b := by
          rcases hb with rfl | rfl | rfl | rfl | rfl
          · exact hP _ (.inl rfl)
          · exact hTI
          · exact hP _ (.inr (.inl rfl))
          · exact hP _ (.inr (.inr (.inl rfl)))
          · exact hP _ (.inr (.inr (.inr rfl)))
        exact t₂₄.keep b o e (hnold b hbs) fun h => absurd (ho b h) hbs
      have hi₂' := hi₂.toIv
      exact ih (i + 1) s₄ (by omega) (hi₂.tr t₂₄) (T₂.then t₂₄) Z₄ ((q1.butP hk₂ soft).tr hi₂' t₂₄) ((r1.butP hk₂ soft).tr hi₂' t₂₄) ((q2.butP hk₂ soft).tr hi₂' t₂₄) ((r2.butP hk₂ soft).tr hi₂' t₂₄) (e₄.weaken hsub)

theorem zip_apart (m a1 a2 : Nat) (h1 : a1 < m) (h2 : a2 < m) : ZipApart (m + 4) (m + 2) (m + 3) m (m + 1) a1 a2 := by
  constructor <;> (show (_ : Nat) ≠ _; omega)

theorem Ex.forZip {e₁ e₂ : Expr} {ts : List Expr} {j : Nat} {tp np pc pos : Pos} {body rest : List Stmt} {l1 l2 : List D} {F : Nat → Rho} {R : Out → Prop} (G : Gnd c) (g : Glo c sc "zip" (.type "zip")) (h₁ : EvL c k sc ρ [e₁, e₂] [.list l1, .list l2]) (hlen : l1.length = l2.length) (h₀ : Sub (F 0) ρ)
    (hb : ∀ i d e, l1[i]? = some d → l2[i]? = some e → ∃ ρ₁, As c k sc (F i) (.Tuple ts j tp) (.tup [d, e]) ρ₁ ∧ Ex c k sc ρ₁ body fun o => ∃ ρ', o = .next ρ' ∧ Sub (F (i + 1)) ρ')
    (hr : Ex c k sc (F l1.length) rest R) (hst : NoStar [e₁, e₂] := by intro _ _; rfl) : Ex c k sc ρ (.For (.Tuple ts j tp) (.Call (.Name "zip" np) [e₁, e₂] [] pc) body [] pos :: rest) R :=
  fun env X A s Q E S hA hi he hQ => wpAny_execs_cons (PySem.wpAny_For (by
    refine wp_call G g (.type _) h₁ S hA hi he (fun vs s₁ t₁ r₁ => ?_) hst
    obtain ⟨u, v, rfl, q₁, q₂⟩ := r₁.two
    have hi₁ := hi.tr t₁
    cases q₁ with
    | @list a1 v1 _ b1 c1 => cases q₂ with
      | @list a2 v2 _ b2 c2 =>
        obtain ⟨n1, e1⟩ := b1.at_
        obtain ⟨n2, e2⟩ := b2.at_
        refine lift (call_zip_2 (xs := v1.toArray) (ys := v2.toArray) ⟨_, e1, rfl, n1, rfl⟩ ⟨_, e2, rfl, n2, rfl⟩ fun h' z1 z2 z3 z4 z5 z6 hk => lift (wpAny_pyIter_zip z1 ?_))
        have t₂ : Tr c X no no s₁ { s₁ with heap := h' } := Tr.grow (t := s₁.toks) hk
        have AP : ZipApart (s₁.heap.objs.size + 4) (s₁.heap.objs.size + 2) (s₁.heap.objs.size + 3) s₁.heap.objs.size (s₁.heap.objs.size + 1) a1 a2 := zip_apart _ _ _ (Heap.lt_size e1) (Heap.lt_size e2)
        have new : ∀ n : Nat, ¬ Is s₁.heap (s₁.heap.objs.size + n) := fun n h => absurd h.lt (Nat.not_lt.mpr (Nat.le_add_right _ _))
        have hX₂ : Ext X s₁ (fun b => X b ∨ b = s₁.heap.objs.size + 3) := ⟨fun _ h => .inl h, fun b hb => hb.imp id fun (hb : b = s₁.heap.objs.size + 3) => by rw [hb]; exact new 3⟩
        have hi₂ : Ok c (fun b => X b ∨ b = s₁.heap.objs.size + 3) { s₁ with heap := h' } := ⟨(hi₁.tr t₂).toIv, fun b hb => hb.elim (fun hb => (hi₁.tr t₂).xs b hb) fun (hb : b = s₁.heap.objs.size + 3) => by rw [hb]; exact ⟨_, z3⟩⟩
        have he₂ : EnvAt c (fun b => X b ∨ b = s₁.heap.objs.size + 3) ρ env h' := ((he.step hi t₁).ext hX₂.2).tr (s' := { s₁ with heap := h' }) hi₁.toIv (t₂.ext hX₂) fun _ _ h => h
        have b1' : SeqAt c (fun b => X b ∨ b = s₁.heap.objs.size + 3) h' a1 "list" v1 := (b1.ext hX₂.2).tr (s' := { s₁ with heap := h' }) hi₁.toIv (t₂.ext hX₂)
        have b2' : SeqAt c (fun b => X b ∨ b = s₁.heap.objs.size + 3) h' a2 "list" v2 := (b2.ext hX₂.2).tr (s' := { s₁ with heap := h' }) hi₁.toIv (t₂.ext hX₂)
        have c1' : RepL c (fun b => X b ∨ b = s₁.heap.objs.size + 3) h' v1 l1 := (c1.ext hX₂.2).tr (s' := { s₁ with heap := h' }) hi₁.toIv (t₂.ext hX₂)
        have c2' : RepL c (fun b => X b ∨ b = s₁.heap.objs.size + 3) h' v2 l2 := (c2.ext hX₂.2).tr (s' := { s₁ with heap := h' }) hi₁.toIv (t₂.ext hX₂)
        have xs₁ : ∀ b, X b → b ≠ s₁.heap.objs.size + 3 := fun b hb h => new 3 (h ▸ hi₁.xs b hb)
        refine zip_loop (s := s₁) (X := fun b => X b ∨ b = s₁.heap.objs.size + 3) (F := F) (l1 := l1) (l2 := l2) S hA AP hlen (.inr rfl) ⟨hi₁.toIv, fun b hb => hb.1.elim (hi₁.xs b) fun h => absurd h hb.2⟩ (new 2) (fun b hb => ?_) (fun b hb => (he.step hi t₁).is hb) hb (fun s₃ t₃ e₃ => ?_)
          l1.length 0 { s₁ with heap := h' } (by omega) hi₂ (Tr.grow (t := s₁.toks) hk) ⟨z1, z2, ⟨_, _, z3⟩, z4, z5⟩ b1' c1' b2' c2' (he₂.weaken h₀)
        · rcases hb with rfl | rfl | rfl | rfl
          · exact new 4
          · exact new 3
          · exact new 0
          · exact new 1
        · have t₃' : Tr c X (own env) no s₁ s₃ := t₃.monoX fun b hb h => h.elim id fun (h : b = s₁.heap.objs.size + 3) => absurd (h ▸ hb) (new 3)
          have e₃' : EnvAt c X (F l1.length) env s₃.heap := e₃.ext fun b hb => .inl (.inl hb)
          have T := t₁.ownL.then t₃'
          exact hr env X A s₃ Q E S hA (hi.tr T) e₃' fun o fl s' t' hR ho => hQ o fl s' (T.then t') hR ho) (by intro _; rfl))
end
end Dio

namespace Dio
set_option tactic.hygienic false
open PySem PySem.W PySem.Calls PyProof.Rows
open Sem (wp)
set_option maxRecDepth 100000

/-! Zg. _law_sums -/
noncomputable abbrev Row : Type := List Int × Int
noncomputable def rowD (p : Row) : D := .tup [tupI p.1, .int p.2]
noncomputable def stepRow (total step bound : Int) (p : Row) : List Row := (rngI 0 (min bound ((total - p.2) / step) + 1)).map fun k => (p.1 ++ [k], p.2 + k * step)
noncomputable def stepRows (total : Int) (sb : Int × Int) (rows : List Row) : List Row := rows.flatMap (stepRow total sb.1 sb.2)
noncomputable def rowsF (total : Int) (sbs : List (Int × Int)) : List Row := sbs.foldl (fun rows sb => stepRows total sb rows) [([], 0)]
noncomputable def sumsF (total : Int) (steps bounds : List Int) : List (List Int) := ((rowsF total (steps.zip bounds)).filter fun p => decide (p.2 = total)).map (·.1)

theorem rowsF_snoc (total : Int) (sbs : List (Int × Int)) (sb : Int × Int) : rowsF total (sbs ++ [sb]) = stepRows total sb (rowsF total sbs) := by unfold rowsF; rw [List.foldl_append]; rfl
theorem rowsF_inv {total : Int} (ht : 0 ≤ total) : ∀ (n : Nat) (sbs : List (Int × Int)), sbs.length = n → (∀ p ∈ sbs, 1 ≤ p.1) → ∀ p ∈ rowsF total sbs, 0 ≤ p.2 ∧ p.2 ≤ total ∧ p.1.length = n
  | 0, sbs, hl, _, p, hp => by
    have : sbs = [] := List.length_eq_zero_iff.mp hl
    subst this
    have : p = ([], 0) := by simpa [rowsF] using hp
    subst this
    exact ⟨by simp, by simpa using ht, rfl⟩
  | n + 1, sbs, hl, h1, p, hp => by
    have hne : sbs ≠ [] := fun h => by rw [h] at hl; cases hl
    have e := List.dropLast_concat_getLast hne
    rw [← e, rowsF_snoc] at hp
    obtain ⟨q, hq, hq'⟩ := List.mem_flatMap.mp hp
    obtain ⟨k, hk, rfl⟩ := List.mem_map.mp hq'
    have hlast := h1 _ (List.getLast_mem hne)
    obtain ⟨i1, i2, i3⟩ := rowsF_inv ht n sbs.dropLast (by rw [List.length_dropLast, hl]; rfl) (fun p hp => h1 p ((List.dropLast_sublist sbs).subset hp)) q hq
    have hr := mem_rngI hk
    have hk' : k ≤ (total - q.2) / (sbs.getLast hne).1 := by omega
    have hm : k * (sbs.getLast hne).1 ≤ total - q.2 := (Int.le_ediv_iff_mul_le (by omega)).mp hk'
    have hn : 0 ≤ k * (sbs.getLast hne).1 := Int.mul_nonneg hr.1 (by omega)
    refine ⟨?_, ?_, ?_⟩
    · show 0 ≤ q.2 + k * (sbs.getLast hne).1; omega
    · show q.2 + k * (sbs.getLast hne).1 ≤ total; omega
    · show (q.1 ++ [k]).length = n + 1
      rw [List.length_append, i3]; rfl

noncomputable def dSu : DefRec := dd 7 (by decide)
theorem dSu_name : dSu.name = "_law_sums" := by kernel_rfl
theorem dSu_bind (pm code doc : Value) (vs : List Value) (h : vs.length = 3) : bindArgs (docDef dSu.name dSu.params dSu.body dSu.scope pm code doc) ⟨vs, []⟩ = pure ((["total", "steps", "bounds"] : List Str).zip vs) := by
  obtain ⟨u, v, w, rfl⟩ := len3 h
  kernel_rfl

noncomputable def scS1 : Scope := { kind := ScopeKind.function, names := [ (Str.ofString ".0", NameKind.local), (Str.ofString "row", NameKind.local), (Str.ofString "spent", NameKind.local), (Str.ofString "k", NameKind.local), (Str.ofString "range", NameKind.globalImplicit), (Str.ofString "min", NameKind.globalImplicit), (Str.ofString "bound", NameKind.free), (Str.ofString "step", NameKind.free), (Str.ofString "total", NameKind.free)], isGenerator := false, isCoroutine := false }
noncomputable def scS2 : Scope := { kind := ScopeKind.function, names := [ (Str.ofString ".0", NameKind.local), (Str.ofString "row", NameKind.local), (Str.ofString "spent", NameKind.local), (Str.ofString "total", NameKind.free)], isGenerator := false, isCoroutine := false }
noncomputable def freeIn (scope sc : Scope) : Bool := scope.names.all fun x => x.2 != .free || sc.names.lookup x.1 == some .cell
theorem compSc_of {scope sc : Scope} (h1 : scope.kind = .function) (h2 : (scope.names.all fun x => x.2 != .cell) = true) (h3 : freeIn scope sc = true) (h4 : (scope.names.map (·.1)).Nodup) (h5 : scope.isGenerator = false := by rfl) : CompSc scope sc :=
  ⟨h1, fun x hx => by have := List.all_eq_true.mp h2 x hx; simpa using this, fun x hx hf => by
    have := List.all_eq_true.mp h3 x hx
    rw [hf] at this
    simpa using this, h4, h5⟩
theorem scS1_ok : CompSc scS1 dSu.scope := compSc_of rfl (by decide) (by kernel_rfl) (by decide)
theorem scS2_ok : CompSc scS2 dSu.scope := compSc_of rfl (by decide) (by kernel_rfl) (by decide)

theorem sub_loop3 {ρ : Rho} {x a b : Str} {v v' d e : D} (ha : ρ a = none) (hb : ρ b = none) (h1 : a ≠ x) (h2 : b ≠ x) : Sub (upd ρ x v') (upd (upd (upd (upd ρ x v) a d) b e) x v') := fun y w he => by
  unfold upd at he ⊢
  by_cases hy : y = x
  · rw [if_pos hy] at he ⊢; exact he
  · rw [if_neg hy] at he ⊢
    by_cases hz : y = b
    · rw [hz, hb] at he; cases he
    · rw [if_neg hz]
      by_cases hw : y = a
      · rw [hw, ha] at he; cases he
      · rw [if_neg hw, if_neg hy]; exact he

section
variable {c : Cx} {k : Nat}
theorem sums_call (G : Gnd c) (total : Int) (steps bounds : List Int) (ht : 0 ≤ total) (ht' : total ≤ 1000) (hlen : steps.length = bounds.length) (hl5 : steps.length ≤ 10) (hs : ∀ x ∈ steps, 1 ≤ x ∧ x ≤ 1000) (hbd : ∀ x ∈ bounds, 0 ≤ x ∧ x ≤ 1000)
    (hcount : ∀ i, i ≤ steps.length → (rowsF total ((steps.zip bounds).take i)).length ≤ 40000) :
    ∃ f, c.mg "_law_sums" = some (.ref f) ∧ Callee c (.ref f) ∧ CallOk c (k + 1) (.ref f) [.int total, .list (lsI steps), .list (lsI bounds)] (.list ((sumsF total steps bounds).map tupI)) := by
  have hz : (steps.zip bounds).length = steps.length := by rw [List.length_zip]; omega
  have hz1 : ∀ p ∈ steps.zip bounds, 1 ≤ p.1 := fun p hp => (hs p.1 (List.of_mem_zip (a := p.1) (b := p.2) hp).1).1
  have body : Ex c k dSu.scope (bindR ["total", "steps", "bounds"] [.int total, .list (lsI steps), .list (lsI bounds)] fun _ => none) dSu.body (fun o => o = .ret (.list ((sumsF total steps bounds).map tupI))) := by
    rw [show dSu.body = bodyAt 9 from by kernel_rfl]
    have gzip : Glo c dSu.scope "zip" (.type "zip") := glo_builtin G (by kernel_rfl) (by kernel_rfl) (by kernel_rfl) (by kernel_rfl) (by decide) (by decide)
    have grange : Glo c (relab scS1 dSu.scope) "range" (.type "range") := glo_builtin G (by kernel_rfl) (by kernel_rfl) (by kernel_rfl) (by kernel_rfl) (by decide) (by decide)
    have gmin : Glo c (relab scS1 dSu.scope) "min" (.builtin "min") := glo_builtin G (by kernel_rfl) (by kernel_rfl) (by kernel_rfl) (by kernel_rfl) (by decide) (by decide)
    refine Ex.assign (d := .list [rowD ([], 0)]) (.listD (.cons (.tupD (.cons (.tupD .nil (Nat.zero_le _)) (.cons (.int 0 _ _) .nil)) (by show 2 ≤ 100000; decide)) .nil) (by show 1 ≤ 100000; decide)) (.name (by kernel_rfl)) ?_
    generalize hρ : bindR ["total", "steps", "bounds"] [.int total, .list (lsI steps), .list (lsI bounds)] (fun _ => none) = ρ₀
    have q1 : ρ₀ "total" = some (.int total) := by rw [← hρ]; rfl
    have q2 : ρ₀ "steps" = some (.list (lsI steps)) := by rw [← hρ]; rfl
    have q3 : ρ₀ "bounds" = some (.list (lsI bounds)) := by rw [← hρ]; rfl
    have q4 : ρ₀ "step" = none := by rw [← hρ]; rfl
    have q5 : ρ₀ "bound" = none := by rw [← hρ]; rfl
    clear hρ
    refine Ex.forZip (l1 := lsI steps) (l2 := lsI bounds) (F := fun i => upd ρ₀ "rows" (.list ((rowsF total ((steps.zip bounds).take i)).map rowD))) G gzip (.cons (.name q2) (.cons (.name q3) .nil)) (by simp [lsI, hlen]) (Sub.refl _) (fun i d e hd he => ?_) ?_
    · have hi : i < steps.length := by
        have := (List.getElem?_eq_some_iff.mp hd).1
        simpa [lsI] using this
      have hi' : i < bounds.length := by omega
      have ed : d = .int steps[i] := by
        unfold lsI at hd
        rw [List.getElem?_map, List.getElem?_eq_getElem hi] at hd
        exact (Option.some.inj hd).symm
      have ee : e = .int bounds[i] := by
        unfold lsI at he
        rw [List.getElem?_map, List.getElem?_eq_getElem hi'] at he
        exact (Option.some.inj he).symm
      subst ed ee
      have hsi := hs steps[i] (List.getElem_mem hi)
      have hbi := hbd bounds[i] (List.getElem_mem hi')
      have ez : (steps.zip bounds).take (i + 1) = (steps.zip bounds).take i ++ [(steps[i], bounds[i])] := by
        rw [List.take_succ_eq_append_getElem (by omega), List.getElem_zip]
      have einv := rowsF_inv ht i ((steps.zip bounds).take i) (by rw [List.length_take]; omega) fun p hp => hz1 p (List.mem_of_mem_take hp)
      refine ⟨_, As.tup (.cons (.nameC (by kernel_rfl)) (.cons (.nameC (by kernel_rfl)) .nil)), ?_⟩
      have hnext : ((rowsF total ((steps.zip bounds).take i)).map rowD).flatMap (fun d => match d with | .tup [.tup r, .int sp] => (rngI 0 (min bounds[i] ((total - sp) / steps[i]) + 1)).map (fun k => D.tup [.tup (r ++ [.int k]), .int (sp + k * steps[i])]) | _ => []) = (rowsF total ((steps.zip bounds).take (i + 1))).map rowD := by
        rw [ez, rowsF_snoc]
        unfold stepRows
        rw [List.flatMap_map, List.map_flatMap]
        congr 1
        funext p
        unfold stepRow
        rw [List.map_map]
        show (rngI 0 (min bounds[i] ((total - p.2) / steps[i]) + 1)).map _ = _
        apply List.map_congr_left
        intro k _
        show D.tup [.tup (lsI p.1 ++ [.int k]), .int (p.2 + k * steps[i])] = .tup [.tup (lsI (p.1 ++ [k])), .int (p.2 + k * steps[i])]
        unfold lsI
        rw [List.map_append]; rfl
      refine ex_comp (N := 40000) (scope := scS1) (items := (rowsF total ((steps.zip bounds).take i)).map rowD) (f := fun d => match d with | .tup [.tup r, .int sp] => (rngI 0 (min bounds[i] ((total - sp) / steps[i]) + 1)).map (fun k => D.tup [.tup (r ++ [.int k]), .int (sp + k * steps[i])]) | _ => [])
        (fun _ => inner scS1 (upd (upd (upd ρ₀ "rows" (.list ((rowsF total ((steps.zip bounds).take i)).map rowD))) "step" (.int steps[i])) "bound" (.int bounds[i]))) scS1_ok (.val (.name (by rfl)) (.inr rfl)) (Sub.refl _) (fun pre d ds hp => ?_) ?_ (den_two _ _ _ _ _ _ _) (.name (by kernel_rfl)) (Ex.nil ⟨_, rfl, ?_⟩) (fun env he => by cases env; subst he; rfl)
      · obtain ⟨p, hp', rfl⟩ := cut_mem hp
        obtain ⟨j1, j2, j3⟩ := einv p hp'
        obtain ⟨r, sp⟩ := p
        simp only at j1 j2 j3
        generalize hρc : inner scS1 (upd (upd (upd ρ₀ "rows" (.list ((rowsF total ((steps.zip bounds).take i)).map rowD))) "step" (.int steps[i])) "bound" (.int bounds[i])) = ρc
        have w1 : ρc "total" = some (.int total) := by rw [← hρc]; exact q1
        have w2 : ρc "step" = some (.int steps[i]) := by rw [← hρc]; rfl
        have w3 : ρc "bound" = some (.int bounds[i]) := by rw [← hρc]; rfl
        have w4 : ρc "row" = none ∧ ρc "spent" = none ∧ ρc "k" = none := by rw [← hρc]; exact ⟨rfl, rfl, rfl⟩
        clear hρc
        have ediv : (total - sp).fdiv steps[i] = (total - sp) / steps[i] := Int.fdiv_eq_ediv_of_nonneg _ (by omega)
        have dle : (total - sp) / steps[i] ≤ total - sp := Int.ediv_le_self _ (by omega)
        have dge : 0 ≤ (total - sp) / steps[i] := Int.ediv_nonneg (by omega) (by omega)
        refine ⟨upd (upd ρc "row" (tupI r)) "spent" (.int sp), upd (upd ρc "row" (tupI r)) "spent" (.int sp), Al.tup (.cons (.name (by kernel_rfl)) (.cons (.name (by kernel_rfl)) .nil)), ?_, ?_⟩
        · show BodyOk 40000 c k (relab scS1 dSu.scope) _ (upd (upd ρc "row" (tupI r)) "spent" (.int sp)) (upd (upd ρc "row" (tupI r)) "spent" (.int sp)) ((rngI 0 (min bounds[i] ((total - sp) / steps[i]) + 1)).map (fun k => D.tup [.tup (lsI r ++ [.int k]), .int (sp + k * steps[i])]))
          have hrl : (rng 0 (min bounds[i] ((total - sp) / steps[i]) + 1)).length ≤ 1001 := by
            unfold rng
            rw [List.length_map, List.length_range]
            omega
          have e9 : ((rng 0 (min bounds[i] ((total - sp) / steps[i]) + 1)).map fun d => match d with | .int k => D.tup [.tup (lsI r ++ [.int k]), .int (sp + k * steps[i])] | _ => .none) = (rngI 0 (min bounds[i] ((total - sp) / steps[i]) + 1)).map (fun k => D.tup [.tup (lsI r ++ [.int k]), .int (sp + k * steps[i])]) := by
            rw [rng_eq]; unfold lsI; rw [List.map_map]; rfl
          rw [← e9]
          refine body_nest (N' := 50000) (F := fun _ => upd (upd ρc "row" (tupI r)) "spent" (.int sp))
            (EvI.range1 G grange (.cons (.bin (.call G gmin (.builtin _) (.cons (.name w3) (.cons (.bin (.bin (.name w1) (.name (by rfl)) (Op2.sub _ _)) (.name w2) (ediv ▸ Op2.div (total - sp) steps[i] (by omega) (by omega) (by omega))) .nil)) (call_min2 _ _)) (.int 1 _ _) (Op2.add _ _)) .nil) ⟨by omega, by omega⟩) (Sub.refl _) (by omega) (by decide) (fun pre d ds hp => ?_)
          rw [rng_eq] at hp
          obtain ⟨x, hx, rfl⟩ := cut_mem hp
          have hxr := mem_rngI hx
          exact ⟨_, .name (by kernel_rfl), .tupD (.cons (.bin (.name (by rfl)) (.tupD (.cons (.name (by rfl)) .nil)) (Op2.addT _ _ (by simp [lsI]; omega))) (.cons (.bin (.name (by rfl)) (.bin (.name (by rfl)) (.name w2) (Op2.mul _ _ (.of_left (intBits_le_64 (by omega) (by omega))))) (Op2.add _ _)) .nil)) (by show 2 ≤ 100000; decide), sub_fresh w4.2.2⟩
        · exact Sub.trans (sub_fresh (x := "row") w4.1) (sub_fresh (x := "spent") w4.2.1)
      · rw [hnext, List.length_map]
        exact hcount (i + 1) (by omega)
      · rw [hnext]
        exact sub_loop3 q4 q5 (by decide) (by decide)
    · have el : (lsI steps).length = steps.length := by unfold lsI; rw [List.length_map]
      have et : (steps.zip bounds).take steps.length = steps.zip bounds := List.take_of_length_le (by omega)
      rw [el, et]
      have hsum : ((rowsF total (steps.zip bounds)).map rowD).flatMap (fun d => match d with | .tup [.tup r, .int sp] => (if decide (sp = total) then [D.tup r] else []) | _ => []) = (sumsF total steps bounds).map tupI := by
        unfold sumsF
        generalize rowsF total (steps.zip bounds) = rows
        induction rows with
        | nil => rfl
        | cons p rows ih =>
          rw [List.map_cons, List.flatMap_cons, ih]
          show (if decide (p.2 = total) = true then [D.tup (lsI p.1)] else []) ++ _ = _
          rw [List.filter_cons]
          split <;> rfl
      refine Ex.ret (d := .list ((sumsF total steps bounds).map tupI)) (Ev.cast (ev_comp (N := 40000) (scope := scS2) (items := (rowsF total (steps.zip bounds)).map rowD) (f := fun d => match d with | .tup [.tup r, .int sp] => (if decide (sp = total) then [D.tup r] else []) | _ => [])
        (fun _ => inner scS2 (upd ρ₀ "rows" (.list ((rowsF total (steps.zip bounds)).map rowD)))) scS2_ok (.val (.name (by rfl)) (.inr rfl)) (Sub.refl _) (fun pre d ds hp => ?_) ?_ (den_if _ _ _ _ _ _)) (by rw [hsum])) rfl
      · obtain ⟨p, hp', rfl⟩ := cut_mem hp
        obtain ⟨r, sp⟩ := p
        have w1 : inner scS2 (upd ρ₀ "rows" (.list ((rowsF total (steps.zip bounds)).map rowD))) "total" = some (.int total) := q1
        refine ⟨_, _, Al.tup (.cons (.name (by kernel_rfl)) (.cons (.name (by kernel_rfl)) .nil)), body_if (by decide) (Tst.cmp (.name (by rfl)) (.name w1) (Op2.eq sp total)) (fun _ => .name (by rfl)), ?_⟩
        exact Sub.trans (sub_fresh (x := "row") (by rfl)) (sub_fresh (x := "spent") (by rfl))
      · rw [hsum, List.length_map]
        unfold sumsF
        rw [List.length_map]
        have h2 := hcount steps.length (Nat.le_refl _)
        rw [et] at h2
        exact Nat.le_trans (List.length_filter_le ..) h2
  have := call_own (k := k) (d := dSu) (ns := ["total", "steps", "bounds"]) (ds := [.int total, .list (lsI steps), .list (lsI bounds)]) (dr := .list ((sumsF total steps bounds).map tupI)) G (dd_mem ..) (scOk_of (by kernel_rfl)) (by kernel_rfl) (fun pm code doc vs h => dSu_bind pm code doc vs h) body
  rw [dSu_name] at this
  exact this
end
end Dio

namespace Dio
set_option tactic.hygienic false
open PySem PySem.W PySem.Calls PyProof.Rows
open Sem (wp)
set_option maxRecDepth 100000

/-! Zh. A comprehension over an iterator that was there before -/
section
variable {c : Cx} {k : Nat} {sc : Scope} {ρ : Rho} {X : Addr → Prop} {s : Shared}

theorem comp_coreG {N : Nat} {elt tgt iter : Expr} {ifs : List Expr} {rest : List Comprehension} {scope : Scope} {pos p : Pos} {use : Option (Value → Sem Unit)} {body : Env → Value → Sem Unit} {items : List D} {f : D → List D} (F : List D → Rho) {A : Around} {env : Env} {Q : Value → Shared → Prop} {E : Value → Shared → Prop} {W : Addr → Prop} {G : Nat → Prop}
    (H : CompSc scope sc)
    (hI : ∀ (Q' : Value → Shared → Prop), (∀ it s', Tr c X no no s s' → It c k it items X W G s' → Sf c it X W G s' → Q' it s') → wpAny (MF c) A (eval iter env) (fun x s₁ => wpAny (MF c) A (pyIter x) Q' E s₁) E s)
    (hWs : ∀ b, W b → Is s.heap b) (hGs : ∀ j, G j → j < s.gens.size) (hWo : ∀ b, own env b → ¬ W b)
    (h₀ : Sub (F items) (inner scope ρ))
    (hb : ∀ pre d ds, items = pre ++ d :: ds → ∃ ρ₁ ρ₂, Al c k (relab scope sc) (F (d :: ds)) tgt d ρ₁ ∧ BodyOk N c k (relab scope sc) body ρ₁ ρ₂ (f d) ∧ Sub (F ds) ρ₂) (hN : (items.flatMap f).length ≤ N)
    (hden : LoopDen elt tgt iter ifs rest scope pos p body)
    (S : EnvS sc env) (hA : okA k A) (hi : Ok c X s) (he : EnvAt c X ρ env s.heap) (hfs : ∀ env x, foldedSetIterable iter env x = pure x)
    (hpost : ∀ a C m s', ¬ Is s.heap C → s'.heap.Ns C m → Tr c X W (OwnG G s) s s' → Still s' (OwnG G s) no → Rep c X s'.heap (.ref a) (.list (items.flatMap f)) → compPost (MF c) A E use Q (.ref a) C (.ok .next) s') :
    wpAny (MF c) A (comprehension (.ListComp elt (⟨tgt, iter, ifs, 0⟩ :: rest) scope pos) scope env (firstIterPos (⟨tgt, iter, ifs, 0⟩ :: rest) pos) (newList []) (firstAsync (⟨tgt, iter, ifs, 0⟩ :: rest)) (firstIter (⟨tgt, iter, ifs, 0⟩ :: rest) env) use) Q E s := by
  show wpAny (MF c) A (comprehension _ scope env _ (newList []) false (eval iter env) use) Q E s
  refine wpAny_comprehension_free (g := ⟨tgt, iter, ifs, 0⟩) (gs := rest) rfl (hfs env) (closure_eq H S) H.kind (fun x hx hl => by rw [← hl]; exact lookup_of_nd H.nd hx) ?_
  refine hI _ fun i s₂ t₂ h3 h4 => ?_
  refine wpAny_newObj_type ?_ (by size_fits)
  have hnew : ¬ Is s₂.heap s₂.heap.objs.size := not_is_size _
  have hi₂ := hi.tr t₂
  have t₃ : Tr c X no no s₂ { s₂ with heap := s₂.heap.push { cls := .type "list", data := .seq ([] : List Value).toArray } } := Tr.push (t := s₂.toks)
  have hget : (s₂.heap.push { cls := .type "list", data := .seq ([] : List Value).toArray }).get? s₂.heap.objs.size = some (seqObj "list" [] 0) := Heap.get?_push_size _ rfl
  generalize hs₃ : ({ s₂ with heap := s₂.heap.push { cls := .type "list", data := .seq ([] : List Value).toArray } } : Shared) = s₃ at t₃ ⊢
  have hget₃ : s₃.heap.get? s₂.heap.objs.size = some (seqObj "list" [] 0) := by rw [← hs₃]; exact hget
  generalize ha : s₂.heap.objs.size = a at hnew hget₃ ⊢
  have hna : ¬ Is s.heap a := fun h => hnew (t₂.there _ h)
  have hX₃ : Ext X s₂ (fun b => X b ∨ b = a) := ⟨fun _ h => .inl h, fun b hb => hb.imp id fun (hb : b = a) => by rw [hb]; exact hnew⟩
  have hi₃ : Ok c (fun b => X b ∨ b = a) s₃ := ⟨(hi₂.tr t₃).toIv, fun b hb => hb.elim (fun hb => (hi₂.tr t₃).xs b hb) fun (hb : b = a) => by rw [hb]; exact ⟨_, hget₃⟩⟩
  have t₂₃ := t₂.seq t₃
  have xs : ∀ b, X b → Is s.heap b := hi.xs
  have he₃ : EnvAt c (fun b => X b ∨ b = a) ρ env s₃.heap := ((he.step hi t₂).ext hX₃.2).tr hi₂.toIv (t₃.ext hX₃) fun _ _ h => h
  have hacc : AccAt c (fun b => X b ∨ b = a) s₃.heap a [] := ⟨[], 0, hget₃, .nil, fun ho => hnew (hi₂.toIv.is_old ho)⟩
  refine comp_frame H S hi₃ he₃ fun cenv s₄ S₄ e₄ t₄ hC hcells => ?_
  have hi₄ := hi₃.tr t₄
  have hCnew : ¬ Is s₃.heap cenv.locals := by rw [hC.1]; exact not_is_size _
  have hown : ∀ b, own { cenv with scope := relab scope sc } b → b = cenv.locals ∨ own env b := fun b hb => hb.imp id fun ⟨x, hx⟩ => hcells x b hx
  have hown_s : ∀ b, own env b → Is s.heap b := fun b hb => he.is hb
  have hna_own : ¬ own { cenv with scope := relab scope sc } a := fun hh => (hown a hh).elim (fun hh => hCnew (hh ▸ ⟨_, hget₃⟩)) fun hh => hna (hown_s a hh)
  have t₂₄ : Tr c (fun b => X b ∨ b = a) no no s₂ s₄ := (t₃.ext hX₃).seq t₄
  have t₀₄ : Tr c (fun b => X b ∨ b = a) no no s s₄ := (t₂.monoX fun _ _ h => .inl h).seq t₂₄
  have hrel : relabel scope env = relab scope sc := relabel_eq S
  rw [hrel]
  have ha₄ := hacc.tr hi₃.toIv t₄ fun h => h
  refine comp_start (g := ⟨tgt, iter, ifs, 0⟩) rfl rfl ?_ fun Q E hq => h4 (fun b => X b ∨ b = a) A s₄ Q E hX₃ hi₄ (t₂₄.mono (fun _ _ h => h.elim) fun _ h => h.elim) hq
  refine comp_loop (k := k) (items := items) (N := N) (s := s₄) (X := fun b => X b ∨ b = a) (O₀ := W) (OG₀ := G) (F := F) (f := f) (body := body) (acc₀ := []) S₄ hA (hden i (.ref a) _) (by rfl) (by rfl) (by rfl) (.inr rfl) hna_own hb (fun pre ds hp => ?_) (fun s₅ t₅ st₅ ha₅ he₅ => ?_)
    items [] rfl X W G s₂ s₄ hi₄ (.refl ..) (fun j x e ho hb => ?_) (by simpa using ha₄) (e₄.weaken h₀) (fun b hb => e₄.is hb) (fun b hb => ⟨.inl hb, fun ho => ?_, fun hh => hna (hh ▸ hWs b hb)⟩) (fun j hj => .inl hj) h3 hX₃ (t₂₄.mono (fun _ _ h => h.elim) fun _ h => h.elim)
  · rw [hp, List.flatMap_append, List.length_append] at hN
    simp only [List.length_nil, Nat.zero_add]; omega
  · obtain ⟨m, cm, V₅, _⟩ := he₅
    have hCs : ¬ Is s.heap cenv.locals := fun h => hCnew (t₂₃.there _ h)
    have xsub : ∀ b, Is s.heap b → (X b ∨ b = a) → X b := fun b hb h => h.elim id fun (h : b = a) => absurd (h ▸ hb) hna
    have hG4 : ∀ j, OwnG G s₄ j → OwnG G s j := fun j h => h.imp id fun h => Nat.le_trans t₀₄.gsize h
    have T : Tr c (fun b => X b ∨ b = a) W (OwnG G s) s s₅ :=
      (t₀₄.mono (fun _ _ h => h.elim) fun _ h => h.elim).trans t₅ (fun b hb h => h.elim (fun (h : b = cenv.locals) => absurd (h ▸ hb) hCs) fun h => h.elim (fun (h : b = a) => absurd (h ▸ hb) hna) id) (fun j _ h => hG4 j h) fun j hj _ => .inr hj
    have ST : Still s₅ (OwnG G s) no := fun j x e ho _ => by
      by_cases h : OwnG G s₄ j
      · exact st₅ j x e h fun h => h
      · have hj : j < s₄.gens.size := Nat.lt_of_not_le fun hn => h (.inr hn)
        have e1 : s₄.gens[j]? = some s₄.gens[j] := Array.getElem?_eq_getElem hj
        have e2 := t₅.gkeep j _ e1 h
        rw [e] at e2; cases e2
        rcases ho with ho | ho
        · exact absurd (.inl ho) h
        · exact t₀₄.gnew j _ e1 ho fun h => h
    obtain ⟨vs, n, e₅, r₅, ho₅⟩ := ha₅
    refine hpost a cenv.locals m s₅ hCs V₅.ns (T.monoX xsub) ST (.list ⟨⟨n, e₅⟩, fun hx => hna (xs a hx), fun ho => absurd ho ho₅⟩ (by simpa using r₅.less fun b hb => .inl hb))
  · exact absurd (Array.getElem?_eq_some_iff.mp e).1 fun hlt => ho.elim (fun h => hb h) fun h => absurd hlt (Nat.not_lt.mpr h)
  · rcases hown b ho with hh | hh
    · exact hCnew (hh ▸ t₂₃.there b (hWs b hb))
    · exact hWo b hh hb
end

noncomputable def dTo : DefRec := dd 8 (by decide)
theorem dTo_name : dTo.name = "_law_told" := by kernel_rfl
theorem dTo_bind (pm code doc : Value) (vs : List Value) (h : vs.length = 1) : bindArgs (docDef dTo.name dTo.params dTo.body dTo.scope pm code doc) ⟨vs, []⟩ = pure ((["made"] : List Str).zip vs) := by
  obtain ⟨u, rfl⟩ := len1 h
  kernel_rfl
noncomputable def scT : Scope := { kind := ScopeKind.function, names := [(Str.ofString ".0", NameKind.local), (Str.ofString "row", NameKind.local)], isGenerator := false, isCoroutine := false }
theorem scT_ok : CompSc scT dTo.scope := compSc_of rfl (by decide) (by decide) (by decide)

theorem tryF {M : Model} {A : Around} {E : Value → Shared → Prop} {s : Shared} {env : Env} {body orelse : List Stmt} {h₀ : ExceptHandler} {hs : List ExceptHandler} {pos : Pos} {Q : Flow → Shared → Prop}
    (h : wpAny M A (execs body env) (fun f s₁ => match f with | .next => wpAny M A (execs orelse env) Q E s₁ | f => Q f s₁)
      (fun e s₁ => wpAny M A (noteFrame e env) (fun _ s₂ => wpAny M A (setFlight e none) (fun _ s₃ => wpAny M A (handleBy e env (h₀ :: hs)) Q E s₃) E s₂) E s₁) s) :
    wpAny M A (exec (.Try body (h₀ :: hs) orelse [] pos) env) Q E s := by
  rw [arm_exec_Try]
  exact wpAny_bind (wpAny_standAt (wpAny_tryStmt_except h))
end Dio

namespace Dio
set_option tactic.hygienic false
open PySem PySem.W PySem.Calls PyProof.Rows
open Sem (wp)
set_option maxRecDepth 100000

/-! Zi. _law_told, where nothing is raised -/
section
variable {c : Cx} {k : Nat} {sc : Scope} {ρ : Rho}
theorem It.later {it : Value} {ds : List D} {X O : Addr → Prop} {OG : Nat → Prop} {s₁ s₂ : Shared} (h : It c k it ds X O OG s₁) (t : Tr c X (fun b => ¬ O b) (fun i => ¬ OG i) s₁ s₂) : It c k it ds X O OG s₂ := by
  cases ds with
  | nil => exact fun X' A s Q E hx hA hi ht hQ => h X' A s Q E (hx.later t.there) hA hi ((t.ext hx).then ht) hQ
  | cons d ds => exact fun X' A s Q E hx hA hi ht hQ => h X' A s Q E (hx.later t.there) hA hi ((t.ext hx).then ht) hQ
theorem Sf.later {it : Value} {X O : Addr → Prop} {OG : Nat → Prop} {s₁ s₂ : Shared} (h : Sf c it X O OG s₁) (t : Tr c X (fun b => ¬ O b) (fun i => ¬ OG i) s₁ s₂) : Sf c it X O OG s₂ :=
  fun X' A s Q E hx hi ht hQ => h X' A s Q E (hx.later t.there) hi ((t.ext hx).then ht) hQ

theorem told_ok (G : Gnd c) : ∃ f, c.mg "_law_told" = some (.ref f) ∧ Callee c (.ref f) ∧ ∀ (X : Addr → Prop) (A : Around) (s : Shared) (v : Value) (ys : List D) (O : Addr → Prop) (OG : Nat → Prop) (Q : Value → Shared → Prop) (E : Value → Shared → Prop), okA (k + 2) A → Ok c X s → ys.length ≤ 50000 → Src c k false v ys X O OG s →
    (∀ u s', Tr c X (fun b => O b ∨ v = .ref b) (fun i => OG i ∨ (∀ a g, v = .ref a → GenAt s.heap a g → i = g) ∨ s.gens.size ≤ i) s s' → Still s' (fun i => OG i ∨ (∀ a g, v = .ref a → GenAt s.heap a g → i = g) ∨ s.gens.size ≤ i) no → Rep c X s'.heap u (.list ys) → Q u s') → wpAny (MF c) A (call (.ref f) [v] []) Q E s := by
  obtain ⟨f, o, pm, code, doc, h1, h2, h3, h4⟩ := G.fn dTo (dd_mem ..)
  rw [dTo_name] at h1
  refine ⟨f, h1, .fn h2 h3, fun X A s v ys O OG Q E hA hi hys hs hQ => wpAny_call (codeAny_of_tree ?_)⟩
  obtain ⟨a, g, rfl, hgen, hit, hsf, hO, hOG, hg⟩ := hs.it G hi.toIv
  have hgu : ∀ i, (∀ a' g', Value.ref a = .ref a' → GenAt s.heap a' g' → i = g') → i = g := fun i h => h a g rfl hgen
  have hug : ∀ i, i = g → ∀ a' g', Value.ref a = .ref a' → GenAt s.heap a' g' → i = g' := fun i hi' a' g' ha hg' => by
    cases ha
    obtain ⟨o1, _, _, e1, _, d1, _⟩ := hgen
    obtain ⟨o2, _, _, e2, _, d2, _⟩ := hg'
    have e3 : some o1 = some o2 := e1.symm.trans e2
    cases e3
    rw [d1] at d2
    have := congrArg (fun x => match x with | Data.fields vs => vs[0]? | _ => none) d2
    simp at this
    omega
  have ho := hi.toIv.get G h2 (by rw [h3]; intro z; cases z)
  show wpAny _ A.in1 (callAny (.ref f) ⟨[.ref a], []⟩) _ _ s
  simp only [callAny]
  refine wpAny_bind (wpAny_load ho ?_)
  obtain ⟨cc, oc, fs, tq, hc, hoc, hdc, hq⟩ := hi.toIv.code G h4
  have hco : (docDef dTo.name dTo.params dTo.body dTo.scope pm code doc).scope.isCoroutine = false := by kernel_rfl
  have hgn : (docDef dTo.name dTo.params dTo.body dTo.scope pm code doc).scope.isGenerator = false := by kernel_rfl
  have hcode : (docDef dTo.name dTo.params dTo.body dTo.scope pm code doc).code = .ref cc := hc
  simp only [h3, callFunction, hco, hgn, hcode]
  refine wpAny_bind (m := field (.ref cc) 1) (wpAny_field hoc hdc hq (wpAny_bind (wpAny_pure ?_)))
  refine wpAny_bind (wpAny_of_eq (dTo_bind pm code doc [.ref a] rfl) ?_)
  have H : ScOk dTo.scope ["made"] := scOk_of (by kernel_rfl)
  refine wpAny_bind (frame_ok (ds := [.obj a]) H hi (.cons (.obj a) .nil) (fun hw => hcode ▸ G.wfn dTo (dd_mem ..) hw f o _ (by rw [dTo_name]; exact h1) h2 h3) fun env s₁ S he t₁ hown _ _ _ => ?_)
  have hi₁ := hi.tr t₁
  refine wpAny_bind (wpAny_enterFrame (hi₁.toIv.nolimit G) hA.depth (wpAny_pure (And.intro rfl (codeF_func ?_))))
  have hbody : (docDef dTo.name dTo.params dTo.body dTo.scope pm code doc).body = .stmts (bodyAt 10) := by kernel_rfl
  show wpAny (MF c) (A.deeper env) (execs dTo.body env) _ _ s₁
  rw [show dTo.body = bodyAt 10 from by kernel_rfl]
  have tW : Tr c X (fun b => ¬ (O b ∨ b = a)) (fun i => ¬ (OG i ∨ i = g)) s s₁ := t₁.mono (fun _ _ h => h.elim) fun _ h => h.elim
  have hWo : ∀ b, own env b → ¬ (O b ∨ b = a) := fun b hb h => hown b hb (h.elim (hO b) fun (h : b = a) => h ▸ hgen.is)
  refine wpAny_execs_cons (tryF ?_)
  refine wpAny_execs_cons (wpAny_Return_some ?_)
  rw [eval_ListComp]
  refine comp_coreG (k := k + 1) (N := 50000) (ρ := bindR ["made"] [.obj a] fun _ => none) (W := fun b => O b ∨ b = a) (G := fun i => OG i ∨ i = g) (items := ys) (f := fun d => [d]) (body := emitB (.Name "row" _)) (scope := scT) (fun _ => fun _ => none) scT_ok (fun Q' hQ' => ?_)
    (fun b hb => t₁.there b (hb.elim (hO b) fun (h : b = a) => h ▸ hgen.is)) (fun j hj => Nat.lt_of_lt_of_le (hj.elim (hOG j) fun (h : j = g) => h ▸ hg) t₁.gsize) hWo (Sub.empty _)
    (fun pre d ds hp => ⟨_, _, .name (by kernel_rfl), body_emit (by decide) (.name (by rfl)), Sub.empty _⟩) (by rw [flatMap_one, List.length_map]; exact hys) (den_one _ _ _ _ _) S hA.deeper hi₁ he (fun _ _ => rfl) fun a' C m s' hC hn t st r => ⟨m, hn, fun h' hs' => ?_⟩
  · refine wpAny_Name (he.load S (x := "made") (d := .obj a) (by rfl) fun v hv => ?_) (by decide)
    cases hv
    exact hsf.later tW X _ s₁ Q' _ (.refl ..) hi₁ (.refl ..) (hQ' _ s₁ (.refl ..) (hit.later tW) (hsf.later tW))
  · have hG : ∀ j, OwnG (fun i => OG i ∨ i = g) s₁ j → OG j ∨ (∀ a' g', Value.ref a = .ref a' → GenAt s.heap a' g' → j = g') ∨ s.gens.size ≤ j := fun j h => h.elim (fun h => h.imp id fun h => .inl (hug j h)) fun h => .inr (.inr (Nat.le_trans t₁.gsize h))
    have T : Tr c X (fun b => O b ∨ Value.ref a = .ref b) (fun i => OG i ∨ (∀ a' g', Value.ref a = .ref a' → GenAt s.heap a' g' → i = g') ∨ s.gens.size ≤ i) s s' :=
      (t₁.mono (fun _ _ h => h.elim) fun _ h => h.elim).trans t (fun b hb h => h.imp id fun (h : b = a) => by rw [h]) (fun j _ h => hG j h) fun j hj _ => .inr (.inr hj)
    have ST : Still s' (fun i => OG i ∨ (∀ a' g', Value.ref a = .ref a' → GenAt s.heap a' g' → i = g') ∨ s.gens.size ≤ i) no := fun j x e ho _ => by
      by_cases h : OwnG (fun i => OG i ∨ i = g) s₁ j
      · exact st j x e h fun h => h
      · have hj : j < s₁.gens.size := Nat.lt_of_not_le fun hn => h (.inr hn)
        have e1 : s₁.gens[j]? = some s₁.gens[j] := Array.getElem?_eq_getElem hj
        have e2 := t.gkeep j _ e1 h
        rw [e] at e2; cases e2
        rcases ho with ho | ho | ho
        · exact absurd (.inl (.inl ho)) h
        · exact absurd (.inl (.inr (hgu j ho))) h
        · exact t₁.gnew j _ e1 ho fun h => h
    have hC0 : ¬ Is s.heap C := fun h => hC (t₁.there _ h)
    refine hQ _ _ (T.but2 hi.toIv hs' hC0) (fun j x e ho hb => ST j x e ho hb) ?_
    have r' := r.but (fun b o hb e => (hs'.2 b hb).trans e) (ns_notFrozen hn)
    rw [flatMap_one, List.map_id'] at r'
    exact r'
end
end Dio

namespace Dio
set_option tactic.hygienic false
open PySem PySem.W PySem.Calls PyProof.Rows
open Sem (wp)
set_option maxRecDepth 100000

/-! Zj. _law_told(...) as a value; _law_solved -/
noncomputable def EvSrc (c : Cx) (k : Nat) (kg : Nat) (sc : Scope) (ρ : Rho) (e : Expr) (ys : List D) : Prop :=
  ∀ (env : Env) (X : Addr → Prop) (A : Around) (s : Shared) (Q : Value → Shared → Prop) (E : Value → Shared → Prop), EnvS sc env → okA k A → Ok c X s → EnvAt c X ρ env s.heap →
    (∀ v s' O OG, Tr c X no no s s' → (∀ b, O b ∨ v = .ref b → ¬ Is s.heap b ∧ Is s'.heap b) → (∀ i, OG i → s.gens.size ≤ i) → (∀ a g, v = .ref a → GenAt s'.heap a g → s.gens.size ≤ g) → Src c kg false v ys X O OG s' → Q v s') → wpAny (MF c) A (eval e env) Q E s

section
variable {c : Cx} {k kg : Nat} {sc : Scope} {ρ : Rho}
theorem EvSrc.call {nm : Str} {p pos : Pos} {es : List Expr} {as ys : List D} {f : Value} (G : Gnd c) (g : Glo c sc nm f) (hc : Callee c f) (ha : EvL c k sc ρ es as) (h : GenOk c kg false f as ys) (hk : 1 ≤ k) (hst : NoStar es := by intro _ _; rfl) :
    EvSrc c k kg sc ρ (.Call (.Name nm p) es [] pos) ys := fun env X A s Q E S hA hi he hQ => by
  refine wp_call G g hc ha S hA hi he (fun vs s₁ t₁ r₁ => ?_) hst
  refine h X A s₁ vs _ E (hA.less hk) (hi.tr t₁) r₁ fun v s₂ O OG t₂ hO hOG hg hs => ?_
  exact hQ v s₂ O OG (t₁.seq t₂) (fun b hb => ⟨fun h => (hO b hb).1 (t₁.there b h), (hO b hb).2⟩) (fun i hi => Nat.le_trans t₁.gsize (hOG i hi)) (fun a g ha hg' => Nat.le_trans t₁.gsize (hg a g ha hg')) hs

theorem ev_told {p pos : Pos} {e : Expr} {ys : List D} (G : Gnd c) (hk : sc.names.lookup ("_law_told" : Str) = some NameKind.globalImplicit) (h : EvSrc c (k + 2) k sc ρ e ys) (hys : ys.length ≤ 50000) (hst : ∀ env, starEach [e] env = [(false, eval e env)] := by intro _; rfl) :
    Ev c (k + 2) sc ρ (.Call (.Name "_law_told" p) [e] [] pos) (.list ys) := fun env X A s Q E S hA hi he hQ => by
  obtain ⟨f, hf, hc, hcall⟩ := told_ok (k := k) G
  refine wpAny_Call_NameR ((glo_def hk hf).eval G S hi.toIv ?_)
  refine callWith_of G hc ?_
  rw [hst]
  refine Calls.evalArgs_plain (Calls.spliced_cons (h env X A s _ E S hA hi he fun v s₁ O OG t₁ hO hOG hg hs => Calls.spliced_nil ⟨(hi.tr t₁).toIv, rfl, ?_⟩))
  obtain ⟨a, g, rfl, hgen, hOa, hold, hS⟩ := id hs
  refine hcall X A s₁ (.ref a) ys O OG Q E hA (hi.tr t₁) hys hs fun u s₂ t₂ st₂ r₂ => hQ u s₂ ?_ r₂
  have hG : ∀ i, (OG i ∨ (∀ a' g', Value.ref a = .ref a' → GenAt s₁.heap a' g' → i = g') ∨ s₁.gens.size ≤ i) → s.gens.size ≤ i := fun i h => h.elim (hOG i) fun h => h.elim (fun h => by rw [h a g rfl hgen]; exact hg a g rfl hgen) fun h => Nat.le_trans t₁.gsize h
  have T : Tr c X no (fun i => OG i ∨ (∀ a' g', Value.ref a = .ref a' → GenAt s₁.heap a' g' → i = g') ∨ s₁.gens.size ≤ i) s s₂ :=
    (t₁.mono (fun _ _ h => h) fun _ h => h.elim).trans t₂ (fun b hb h => (hO b h).1 hb) (fun _ _ h => h) fun j _ h => h.elim id id
  exact T.close hG st₂

/-- a plain def whose result is a generator -/
noncomputable def ExG (c : Cx) (k : Nat) (kg : Nat) (sc : Scope) (ρ : Rho) (ss : List Stmt) (ys : List D) : Prop :=
  ∀ (env : Env) (X : Addr → Prop) (A : Around) (s : Shared) (Q : Flow → Shared → Prop) (E : Value → Shared → Prop), EnvS sc env → okA k A → Ok c X s → EnvAt c X ρ env s.heap →
    (∀ v s' O OG, Tr c X no no s s' → (∀ b, O b ∨ v = .ref b → ¬ Is s.heap b ∧ Is s'.heap b) → (∀ i, OG i → s.gens.size ≤ i) → (∀ a g, v = .ref a → GenAt s'.heap a g → s.gens.size ≤ g) → Src c kg false v ys X O OG s' → Q (.ret v) s') → wpAny (MF c) A (execs ss env) Q E s
theorem ExG.ret {e : Expr} {pos : Pos} {rest : List Stmt} {ys : List D} (h : EvSrc c k kg sc ρ e ys) : ExG c k kg sc ρ (.Return (some e) pos :: rest) ys :=
  fun env X A s Q E S hA hi he hQ => wpAny_execs_cons (wpAny_Return_some (h env X A s _ E S hA hi he fun v s' O OG t h1 h2 h3 h4 => hQ v s' O OG t h1 h2 h3 h4))
theorem ExG.ite {t : Expr} {body orelse rest : List Stmt} {pos : Pos} {x : Bool} {ys : List D} (ht : Tst c k sc ρ t x) (hb : x = true → ExG c k kg sc ρ (body ++ rest) ys) (ho : x = false → ExG c k kg sc ρ (orelse ++ rest) ys) :
    ExG c k kg sc ρ (.If t body orelse pos :: rest) ys := fun env X A s Q E S hA hi he hQ => by
  rw [execs_If]
  refine wpAny_bind (wpAny_standAt (wpAny_bind (ht env X A s _ E S hA hi he fun s₁ t₁ => ?_)))
  have go : ∀ v s' (O : Addr → Prop) (OG : Nat → Prop), Tr c X no no s₁ s' → (∀ b, O b ∨ v = .ref b → ¬ Is s₁.heap b ∧ Is s'.heap b) → (∀ i, OG i → s₁.gens.size ≤ i) → (∀ a g, v = .ref a → GenAt s'.heap a g → s₁.gens.size ≤ g) → Src c kg false v ys X O OG s' → Q (.ret v) s' :=
    fun v s' O OG t₂ h1 h2 h3 h4 => hQ v s' O OG (t₁.seq t₂) (fun b hb => ⟨fun h => (h1 b hb).1 (t₁.there b h), (h1 b hb).2⟩) (fun i hi => Nat.le_trans t₁.gsize (h2 i hi)) (fun a g ha hg => Nat.le_trans t₁.gsize (h3 a g ha hg)) h4
  cases x with
  | true => exact hb rfl env X A s₁ Q E S hA (hi.tr t₁) (he.step hi t₁) go
  | false => exact ho rfl env X A s₁ Q E S hA (hi.tr t₁) (he.step hi t₁) go

noncomputable def dSd : DefRec := dd 9 (by decide)
theorem dSd_name : dSd.name = "_law_solved" := by kernel_rfl
theorem dSd_bind (pm code doc : Value) (vs : List Value) (h : vs.length = 2) : bindArgs (docDef dSd.name dSd.params dSd.body dSd.scope pm code doc) ⟨vs, []⟩ = pure ((["total", "steps"] : List Str).zip vs) := by
  obtain ⟨u, v, rfl⟩ := len2 h
  kernel_rfl

theorem call_ownG {d : DefRec} {ns : List Str} {ds ys : List D} (G : Gnd c) (hd : d ∈ recsOf q) (H : ScOk d.scope ns) (hgen : d.scope.isGenerator = false)
    (hbind : ∀ (pm code doc : Value) (vs : List Value), vs.length = ds.length → bindArgs (docDef d.name d.params d.body d.scope pm code doc) ⟨vs, []⟩ = pure (ns.zip vs))
    (hex : ExG c k kg d.scope (bindR ns ds fun _ => none) d.body ys) : ∃ a, c.mg d.name = some (.ref a) ∧ Callee c (.ref a) ∧
      ∀ (X : Addr → Prop) (A : Around) (s : Shared) (vs : List Value) (Q : Value → Shared → Prop) (E : Value → Shared → Prop), okA (k + 1) A → Ok c X s → RepL c X s.heap vs ds →
        (∀ v s' O OG, Tr c X no no s s' → (∀ b, O b ∨ v = .ref b → ¬ Is s.heap b ∧ Is s'.heap b) → (∀ i, OG i → s.gens.size ≤ i) → (∀ a g, v = .ref a → GenAt s'.heap a g → s.gens.size ≤ g) → Src c kg false v ys X O OG s' → Q v s') → wpAny (MF c) A (call (.ref a) vs []) Q E s := by
  obtain ⟨a, o, pm, code, doc, h1, h2, h3, h4⟩ := G.fn d hd
  refine ⟨a, h1, .fn h2 h3, fun X A s vs Q E hA hi hr hQ => wpAny_call (codeAny_of_tree ?_)⟩
  have ho := hi.toIv.get G h2 (by rw [h3]; intro z; cases z)
  show wpAny _ A.in1 (callAny (.ref a) ⟨vs, []⟩) _ _ s
  simp only [callAny]
  refine wpAny_bind (wpAny_load ho ?_)
  obtain ⟨cc, oc, fs, tq, hc, hoc, hdc, hq⟩ := hi.toIv.code G h4
  have hco : (docDef d.name d.params d.body d.scope pm code doc).scope.isCoroutine = false := H.co
  have hgn : (docDef d.name d.params d.body d.scope pm code doc).scope.isGenerator = false := hgen
  have hcode : (docDef d.name d.params d.body d.scope pm code doc).code = .ref cc := hc
  simp only [h3, callFunction, hco, hgn, hcode]
  refine wpAny_bind (m := field (.ref cc) 1) (wpAny_field hoc hdc hq (wpAny_bind (wpAny_pure ?_)))
  refine wpAny_bind (wpAny_of_eq (hbind pm code doc vs hr.length) ?_)
  refine wpAny_bind (frame_ok H hi hr (fun hw => hcode ▸ G.wfn d hd hw a o _ h1 h2 h3) fun env s₁ S he t₁ hown _ _ _ => ?_)
  have hi₁ := hi.tr t₁
  refine wpAny_bind (wpAny_enterFrame (hi₁.toIv.nolimit G) hA.depth (wpAny_pure (And.intro rfl (codeF_func ?_))))
  refine hex env X (A.deeper env) s₁ _ _ S hA.deeper hi₁ he fun v s₂ O OG t₂ g1 g2 g3 g4 => ?_
  exact hQ v s₂ O OG (t₁.seq t₂) (fun b hb => ⟨fun h => (g1 b hb).1 (t₁.there b h), (g1 b hb).2⟩) (fun i hi => Nat.le_trans t₁.gsize (g2 i hi)) (fun a g ha hg => Nat.le_trans t₁.gsize (g3 a g ha hg)) g4

theorem solved_call (G : Gnd c) (t : Int) (cs : List Int) (hl : cs.length ≤ 5) (hv : ∀ x ∈ cs, 1 ≤ x ∧ x ≤ 100) (h1 : 0 ≤ t) (h2 : t ≤ 1000) : ∃ a, c.mg "_law_solved" = some (.ref a) ∧ Callee c (.ref a) ∧
      ∀ (X : Addr → Prop) (A : Around) (s : Shared) (vs : List Value) (Q : Value → Shared → Prop) (E : Value → Shared → Prop), okA 3 A → Ok c X s → RepL c X s.heap vs [.int t, .list (lsI cs)] →
        (∀ v s' O OG, Tr c X no no s s' → (∀ b, O b ∨ v = .ref b → ¬ Is s.heap b ∧ Is s'.heap b) → (∀ i, OG i → s.gens.size ≤ i) → (∀ a g, v = .ref a → GenAt s'.heap a g → s.gens.size ≤ g) → Src c 131 false v ((solF 5 t cs).map tupI) X O OG s' → Q v s') → wpAny (MF c) A (call (.ref a) vs []) Q E s := by
  obtain ⟨fs, hfs, hcs, hgs⟩ := sol_gen G 5 cs t (by decide) (by omega) hl hv h1 h2
  have hlen : (lsI cs).length = cs.length := by unfold lsI; rw [List.length_map]
  have body : ExG c 2 131 dSd.scope (bindR ["total", "steps"] [.int t, .list (lsI cs)] fun _ => none) dSd.body ((solF 5 t cs).map tupI) := by
    rw [show dSd.body = bodyAt 11 from by kernel_rfl]
    have glen : Glo c dSd.scope "len" (.builtin "len") := glo_builtin G (by kernel_rfl) (by kernel_rfl) (by kernel_rfl) (by kernel_rfl) (by decide) (by decide)
    have gs : Glo c dSd.scope "solve_linear_diop" (.ref fs) := glo_def (by kernel_rfl) hfs
    have tst : ∀ (n : Int) (p1 p2 p3 p4 p5 : Pos) (j : Nat), Tst c 2 dSd.scope (bindR ["total", "steps"] [.int t, .list (lsI cs)] fun _ => none) (.Compare (.Call (.Name "len" p1) [.Name "steps" p2] [] p3) [.Eq] [.Constant (.int n) j p4] p5) (decide ((cs.length : Int) = n)) := fun n p1 p2 p3 p4 p5 j =>
      hlen ▸ Tst.cmp (.call G glen (.builtin _) (.cons (.name (by rfl)) .nil) (call_len (.inr rfl) (by rw [hlen]; omega))) (.int n _ _) (Op2.eq _ n)
    have item : ∀ {i : Int} {j : Nat} {p pc pos : Pos} {x : Int}, 0 ≤ i ∧ i < 1000 → cs[i.toNat]? = some x → Ev c 2 dSd.scope (bindR ["total", "steps"] [.int t, .list (lsI cs)] fun _ => none) (.Subscript (.Name "steps" p) (.Constant (.int i) j pc) pos) (.int x) :=
      fun hi hx => .item (.name (by rfl)) (.inr rfl) hi (by unfold lsI; rw [List.getElem?_map, hx]; rfl) fun _ _ => rfl
    refine ExG.ite (tst 0 _ _ _ _ _ _) (fun h => ?_) fun h0 => ?_
    · have h' := of_decide_eq_true h
      obtain rfl := List.length_eq_zero_iff.mp (show cs.length = 0 by omega)
      exact ExG.ret (.call G gs hcs (.cons (.name (by rfl)) .nil) hgs (by decide))
    refine ExG.ite (tst 1 _ _ _ _ _ _) (fun h => ?_) fun h1 => ?_
    · have h' := of_decide_eq_true h
      obtain ⟨a, rfl⟩ := len1 (show cs.length = 1 by omega)
      exact ExG.ret (.call G gs hcs (.cons (.name (by rfl)) (.cons (item (i := 0) (x := a) ⟨by decide, by decide⟩ rfl) .nil)) hgs (by decide))
    refine ExG.ite (tst 2 _ _ _ _ _ _) (fun h => ?_) fun h2 => ?_
    · have h' := of_decide_eq_true h
      obtain ⟨a, b, rfl⟩ := len2 (show cs.length = 2 by omega)
      exact ExG.ret (.call G gs hcs (.cons (.name (by rfl)) (.cons (item (i := 0) (x := a) ⟨by decide, by decide⟩ rfl) (.cons (item (i := 1) (x := b) ⟨by decide, by decide⟩ rfl) .nil))) hgs (by decide))
    refine ExG.ite (tst 3 _ _ _ _ _ _) (fun h => ?_) fun h3 => ?_
    · have h' := of_decide_eq_true h
      obtain ⟨a, b, z, rfl⟩ := len3 (show cs.length = 3 by omega)
      exact ExG.ret (.call G gs hcs (.cons (.name (by rfl)) (.cons (item (i := 0) (x := a) ⟨by decide, by decide⟩ rfl) (.cons (item (i := 1) (x := b) ⟨by decide, by decide⟩ rfl) (.cons (item (i := 2) (x := z) ⟨by decide, by decide⟩ rfl) .nil)))) hgs (by decide))
    refine ExG.ite (tst 4 _ _ _ _ _ _) (fun h => ?_) fun h4 => ?_
    · have h' := of_decide_eq_true h
      obtain ⟨a, b, z, w, rfl⟩ := len4 (show cs.length = 4 by omega)
      exact ExG.ret (.call G gs hcs (.cons (.name (by rfl)) (.cons (item (i := 0) (x := a) ⟨by decide, by decide⟩ rfl) (.cons (item (i := 1) (x := b) ⟨by decide, by decide⟩ rfl) (.cons (item (i := 2) (x := z) ⟨by decide, by decide⟩ rfl) (.cons (item (i := 3) (x := w) ⟨by decide, by decide⟩ rfl) .nil))))) hgs (by decide))
    have k : cs.length = 5 := by
      have := of_decide_eq_false h0
      have := of_decide_eq_false h1
      have := of_decide_eq_false h2
      have := of_decide_eq_false h3
      have := of_decide_eq_false h4
      omega
    obtain ⟨a, b, z, w, u, rfl⟩ := len5 k
    exact ExG.ret (.call G gs hcs (.cons (.name (by rfl)) (.cons (item (i := 0) (x := a) ⟨by decide, by decide⟩ rfl) (.cons (item (i := 1) (x := b) ⟨by decide, by decide⟩ rfl) (.cons (item (i := 2) (x := z) ⟨by decide, by decide⟩ rfl) (.cons (item (i := 3) (x := w) ⟨by decide, by decide⟩ rfl) (.cons (item (i := 4) (x := u) ⟨by decide, by decide⟩ rfl) .nil)))))) hgs (by decide))
  have := call_ownG (k := 2) (kg := 131) (d := dSd) (ns := ["total", "steps"]) (ds := [.int t, .list (lsI cs)]) G (dd_mem ..) (scOk_of (by kernel_rfl)) (by kernel_rfl) (fun pm code doc vs h => dSd_bind pm code doc vs h) body
  rw [dSd_name] at this
  exact this
end
end Dio

namespace Dio
set_option tactic.hygienic false
open PySem PySem.W PySem.Calls PyProof.Rows
open Sem (wp)
set_option maxRecDepth 100000

/-! Zk. zip over two tuples -/
section
variable {prog : Program} {w : World} {A : Around} {E : Value → Shared → Prop} {s : Shared}

theorem IsTupleIter.but {h h' : Heap} {i l : Addr} {k : Nat} (q : h.IsTupleIter i l k) (e : ∀ o, h.get? i = some o → h'.get? i = some o) : h'.IsTupleIter i l k := let ⟨o, ho, r⟩ := q; ⟨o, e o ho, r⟩
theorem IsTuple.but {h h' : Heap} {l : Addr} {xs : Array Value} (q : h.IsTuple l xs) (e : ∀ o, h.get? l = some o → h'.get? l = some o) : h'.IsTuple l xs := let ⟨o, ho, r⟩ := q; ⟨o, e o ho, r⟩

theorem tnext_item {it l : Addr} {i : Nat} {items : Array Value} {x : Value} {Q : Value → Shared → Prop} (hit : s.heap.IsTupleIter it l i) (hl : s.heap.IsTuple l items) (hx : items[i]? = some x)
    (hQ : ∀ h', h'.IsTupleIter it l (i + 1) → Heap.SameBut it s.heap h' → Q x { s with heap := h' }) : wpAny (model prog w) A (Builtin.SmallTypes.nextOf (.ref it)) Q E s := by
  obtain ⟨o, ho, hc, hd⟩ := id hit
  obtain ⟨ol, hol, _, nl, hdl⟩ := hl
  unfold Builtin.SmallTypes.nextOf
  refine wpAny_bind (wpAny_callSpecial?_slot (name := Str.ofString "__next__") hit.typeIs F.slot_tuple_iterator_next (wpAny_call_entry F.slot_tuple_iterator_next hit.typeIs F.entry_tuple_iterator_next ?_ (F.args_tuple_iterator_next_1 _)))
  show wpAny _ _ (field (.ref it) 0 >>= _) _ _ s
  refine wpAny_bind (wpAny_field ho hd (x := .ref l) rfl ?_)
  show wpAny _ _ (if (Value.ref l == Value.none) = true then _ else _) _ _ s
  rw [if_neg (show ¬ ((Value.ref l == Value.none) = true) from Bool.false_ne_true)]
  show wpAny _ _ (field (.ref it) 1 >>= _) _ _ s
  refine wpAny_bind (wpAny_field ho hd (x := .int i 0) rfl ?_)
  show wpAny _ _ (seqItems? (.ref l) >>= _) _ _ s
  refine wpAny_bind (wpAny_seqItems hol hdl ?_)
  simp only [Int.toNat_natCast, hx]
  refine wpAny_bind (wpAny_setField ho hd (by simp) (wpAny_pure ⟨x, rfl, wpAny_pure (hQ _ ?_ (Heap.SameBut.update ..))⟩))
  exact ⟨_, Heap.get?_update_self _ ho (mapFields_alive hd), (Obj.cls_mapFields ..).trans hc, by rw [Obj.data_mapFields hd]; simp [rawInt]⟩

theorem tnext_end {it l : Addr} {i : Nat} {items : Array Value} {Q : Value → Shared → Prop} (hh : A.handled = none) (hit : s.heap.IsTupleIter it l i) (hl : s.heap.IsTuple l items) (hx : items[i]? = none)
    (hE : ∀ h' e o', (∀ b x, b ≠ it → s.heap.get? b = some x → h'.get? b = some x) → h'.get? e = some o' → o'.cls = .type "StopIteration" → E (.ref e) { s with heap := h' }) : wpAny (model prog w) A (Builtin.SmallTypes.nextOf (.ref it)) Q E s := by
  obtain ⟨o, ho, hc, hd⟩ := id hit
  obtain ⟨ol, hol, _, nl, hdl⟩ := hl
  unfold Builtin.SmallTypes.nextOf
  refine wpAny_bind (wpAny_callSpecial?_slot (name := Str.ofString "__next__") hit.typeIs F.slot_tuple_iterator_next (wpAny_call_entry F.slot_tuple_iterator_next hit.typeIs F.entry_tuple_iterator_next ?_ (F.args_tuple_iterator_next_1 _)))
  show wpAny _ _ (field (.ref it) 0 >>= _) _ _ s
  refine wpAny_bind (wpAny_field ho hd (x := .ref l) rfl ?_)
  show wpAny _ _ (if (Value.ref l == Value.none) = true then _ else _) _ _ s
  rw [if_neg (show ¬ ((Value.ref l == Value.none) = true) from Bool.false_ne_true)]
  show wpAny _ _ (field (.ref it) 1 >>= _) _ _ s
  refine wpAny_bind (wpAny_field ho hd (x := .int i 0) rfl ?_)
  show wpAny _ _ (seqItems? (.ref l) >>= _) _ _ s
  refine wpAny_bind (wpAny_seqItems hol hdl ?_)
  simp only [Int.toNat_natCast, hx]
  refine wpAny_bind (wpAny_rule (wpAny_bind (wpAny_setField ho hd (by simp) ?_)))
  have hu := upd_keep (f := Obj.mapFields fun x => x.setIfInBounds 0 Value.none) ho (mapFields_alive hd)
  exact stop_so hh fun h' e o' hk he hc => hE _ e o' (fun b x hb e => hk b x (hu.1 b x hb e)) he hc

theorem pair_set {T : Addr} {a b x : Value} {k : Nat} {Q : Unit → Shared → Prop} (hT : IsPair s.heap T a b)
    (h : ∀ h', h'.get? T = some { cls := .type "tuple", data := .seq ((#[a, b] : Array Value).setIfInBounds k x) } → Heap.SameBut T s.heap h' → Q () { s with heap := h' }) : wpAny (model prog w) A (updateSeq T (·.setIfInBounds k x)) Q E s :=
  wpAny_updateSeq_pair hT h

theorem zt_item {z TI TO i1 i2 l1 l2 : Addr} {k : Nat} {xs ys : Array Value} {x y a b : Value} {Q : Value → Shared → Prop} (D : ZipApart z TI TO i1 i2 l1 l2)
    (hz : IsZip s.heap z TI TO .none) (hTI : IsPair s.heap TI (.ref i1) (.ref i2)) (hTO : IsPair s.heap TO a b)
    (h1 : s.heap.IsTupleIter i1 l1 k) (h2 : s.heap.IsTupleIter i2 l2 k) (hl1 : s.heap.IsTuple l1 xs) (hl2 : s.heap.IsTuple l2 ys) (hx : xs[k]? = some x) (hy : ys[k]? = some y)
    (hQ : ∀ h', IsZip h' z TI TO (rawInt s.heap.objs.size) → IsPair h' TO x y → h'.IsTupleIter i1 l1 (k + 1) → h'.IsTupleIter i2 l2 (k + 1) → IsPair h' s.heap.objs.size x y →
      (∀ c o, c ≠ z → c ≠ TO → c ≠ i1 → c ≠ i2 → s.heap.get? c = some o → h'.get? c = some o) → Q (.ref s.heap.objs.size) { s with heap := h' }) :
    wpAny (model prog w) A (Builtin.«zip.__next__» ⟨[.ref z], []⟩) (fun fin s' => ∃ v, fin = .done (.ret v) ∧ Q v s') E s := by
  show wpAny _ _ (field (.ref z) 2 >>= _) _ _ _
  refine wpAny_bind (wpAny_field hz rfl (x := .bool false) rfl ?_)
  show wpAny _ _ (field (.ref z) 3 >>= _) _ _ _
  refine wpAny_bind (wpAny_field hz rfl (x := .ref TI) rfl (wpAny_bind (wpAny_seqItems hTI rfl ?_)))
  show wpAny _ _ (Builtin.SmallTypes.ownedTupleIsFree (.ref z) >>= _) _ _ _
  refine wpAny_bind ?_
  unfold Builtin.SmallTypes.ownedTupleIsFree
  refine wpAny_bind (wpAny_field hz rfl (x := .none) rfl (wpAny_pure ?_))
  simp only [if_true]
  refine wpAny_bind (wpAny_rule (wpAny_bind (wpAny_field hz rfl (x := .ref TO) rfl ?_)))
  refine wpAny_bind (wpAny_setField_rec hz (by simp) fun g1 q1 e1 => ?_)
  replace q1 : IsZip g1 z TI TO .ellipsis := q1
  refine wpAny_bind ?_
  simp only [List.zipIdx_cons, List.zipIdx_nil, List.forIn_cons, List.forIn_nil]
  -- the first draw
  refine wpAny_bind (wpAny_bind (wpAny_onRaise ?_))
  show wpAny _ _ (Builtin.SmallTypes.nextOf (.ref i1) >>= _) _ _ _
  have k1 : ∀ b o, b ≠ z → s.heap.get? b = some o → g1.get? b = some o := fun b o hb e => (e1.2 b hb).trans e
  refine wpAny_bind (tnext_item (s := { s with heap := g1 }) (IsTupleIter.but h1 fun o e => k1 _ o D.i1z e) (IsTuple.but hl1 fun o e => k1 _ o D.l1z e) hx fun g2 p2 e2 => wpAny_pure ?_)
  have k2 : ∀ b o, b ≠ z → b ≠ i1 → s.heap.get? b = some o → g2.get? b = some o := fun b o hb hc e => (e2.2 b hc).trans (k1 b o hb e)
  have t2 : IsPair g2 TO a b := k2 _ _ D.TOz D.TOi1 hTO
  refine wpAny_bind (wpAny_seqItems (s := { s with heap := g2 }) t2 rfl (wpAny_bind (pair_set (s := { s with heap := g2 }) t2 fun g3 t3 e3 => ?_)))
  replace t3 : IsPair g3 TO x b := t3
  refine wpAny_bind (wpAny_letGo (wpAny_pure ?_))
  -- the second
  refine wpAny_bind (wpAny_bind (wpAny_onRaise ?_))
  show wpAny _ _ (Builtin.SmallTypes.nextOf (.ref i2) >>= _) _ _ _
  have k3 : ∀ b o, b ≠ z → b ≠ i1 → b ≠ TO → s.heap.get? b = some o → g3.get? b = some o := fun b o hb hc hd e => (e3.2 b hd).trans (k2 b o hb hc e)
  refine wpAny_bind (tnext_item (s := { s with heap := g3 }) (IsTupleIter.but h2 fun o e => k3 _ o D.i2z D.i12.symm D.TOi2.symm e) (IsTuple.but hl2 fun o e => k3 _ o D.l2z D.l2i1 D.l2TO e) hy fun g4 p4 e4 => wpAny_pure ?_)
  have t4 : IsPair g4 TO x b := (e4.2 _ D.TOi2).trans t3
  refine wpAny_bind (wpAny_seqItems (s := { s with heap := g4 }) t4 rfl (wpAny_bind (pair_set (s := { s with heap := g4 }) t4 fun g5 t5 e5 => ?_)))
  replace t5 : IsPair g5 TO x y := t5
  refine wpAny_bind (wpAny_letGo (wpAny_pure (wpAny_pure ?_)))
  refine wpAny_bind (wpAny_seqItems (s := { s with heap := g5 }) t5 rfl (wpAny_bind (wpAny_newTuple ?_)))
  have hsz : g5.objs.size = s.heap.objs.size := by rw [e5.1, e4.1, e3.1, e2.1, e1.1]
  have k5 : ∀ b o, b ≠ z → b ≠ TO → b ≠ i1 → b ≠ i2 → s.heap.get? b = some o → g5.get? b = some o := fun b o h1 h2 h3 h4 e => (e5.2 b h2).trans ((e4.2 b h4).trans (k3 b o h1 h3 h2 e))
  have z5 : IsZip g5 z TI TO .ellipsis := (e5.2 _ D.TOz.symm).trans ((e4.2 _ D.i2z.symm).trans ((e3.2 _ D.TOz.symm).trans ((e2.2 _ D.i1z.symm).trans q1)))
  have i15 : g5.IsTupleIter i1 l1 (k + 1) := IsTupleIter.but p2 fun o e => (e5.2 _ D.TOi1.symm).trans ((e4.2 _ D.i12).trans ((e3.2 _ D.TOi1.symm).trans e))
  have i25 : g5.IsTupleIter i2 l2 (k + 1) := IsTupleIter.but p4 fun o e => (e5.2 _ D.TOi2.symm).trans e
  have hzlt : z ≠ g5.objs.size := Nat.ne_of_lt (Heap.lt_size z5)
  show wpAny _ _ (Builtin.SmallTypes.ownedTupleHandOut (.ref z) (.ref g5.objs.size) >>= _) _ _ _
  refine wpAny_bind ?_
  unfold Builtin.SmallTypes.ownedTupleHandOut
  have z6 : IsZip (g5.push { cls := .type "tuple", data := .seq #[x, y] }) z TI TO .ellipsis := Heap.get?_push_of_some _ z5
  refine wpAny_bind (wpAny_setField_rec (s := { s with heap := g5.push { cls := .type "tuple", data := .seq #[x, y] } }) z6 (by simp) fun g7 z7 e7 => ?_)
  replace z7 : IsZip g7 z TI TO (rawInt g5.objs.size) := z7
  refine wpAny_setField_rec (s := { s with heap := g7 }) z7 (by simp) fun g8 z8 e8 => ?_
  replace z8 : IsZip g8 z TI TO (rawInt g5.objs.size) := z8
  have up : ∀ b o, b ≠ z → g5.get? b = some o → g8.get? b = some o := fun b o hb e => (e8.2 b hb).trans ((e7.2 b hb).trans (Heap.get?_push_of_some _ e))
  have t8 : IsPair g8 g5.objs.size x y := (e8.2 _ hzlt.symm).trans ((e7.2 _ hzlt.symm).trans (Heap.get?_push_size _ rfl))
  rw [hsz] at z8 t8
  refine wpAny_pure ⟨_, rfl, ?_⟩
  show Q (.ref g5.objs.size) _
  rw [hsz]
  exact hQ g8 z8 (up _ _ D.TOz t5) (IsTupleIter.but i15 fun o e => up _ o D.i1z e) (IsTupleIter.but i25 fun o e => up _ o D.i2z e) t8 fun b o h1 h2 h3 h4 e => up b o h1 (k5 b o h1 h2 h3 h4 e)

/-- the first of the two runs out -/
theorem zt_end {z TI TO i1 i2 l1 l2 : Addr} {k : Nat} {xs : Array Value} {a b : Value} {Q : Fin → Shared → Prop} (hh : A.handled = none) (D : ZipApart z TI TO i1 i2 l1 l2)
    (hz : IsZip s.heap z TI TO .none) (hTI : IsPair s.heap TI (.ref i1) (.ref i2)) (hTO : IsPair s.heap TO a b) (h1 : s.heap.IsTupleIter i1 l1 k) (hl1 : s.heap.IsTuple l1 xs) (hend : xs[k]? = none)
    (hE : ∀ h' e o, (∀ c o, c ≠ z → c ≠ TO → c ≠ i1 → c ≠ i2 → s.heap.get? c = some o → h'.get? c = some o) → h'.get? e = some o → o.cls = .type "StopIteration" → E (.ref e) { s with heap := h' }) :
    wpAny (model prog w) A (Builtin.«zip.__next__» ⟨[.ref z], []⟩) Q E s := by
  show wpAny _ _ (field (.ref z) 2 >>= _) _ _ _
  refine wpAny_bind (wpAny_field hz rfl (x := .bool false) rfl ?_)
  show wpAny _ _ (field (.ref z) 3 >>= _) _ _ _
  refine wpAny_bind (wpAny_field hz rfl (x := .ref TI) rfl (wpAny_bind (wpAny_seqItems hTI rfl ?_)))
  show wpAny _ _ (Builtin.SmallTypes.ownedTupleIsFree (.ref z) >>= _) _ _ _
  refine wpAny_bind ?_
  unfold Builtin.SmallTypes.ownedTupleIsFree
  refine wpAny_bind (wpAny_field hz rfl (x := .none) rfl (wpAny_pure ?_))
  simp only [if_true]
  refine wpAny_bind (wpAny_rule (wpAny_bind (wpAny_field hz rfl (x := .ref TO) rfl ?_)))
  refine wpAny_bind (wpAny_setField_rec hz (by simp) fun g1 q1 e1 => ?_)
  replace q1 : IsZip g1 z TI TO .ellipsis := q1
  refine wpAny_bind ?_
  simp only [List.zipIdx_cons, List.zipIdx_nil, List.forIn_cons, List.forIn_nil]
  refine wpAny_bind (wpAny_bind (wpAny_onRaise ?_))
  show wpAny _ _ (Builtin.SmallTypes.nextOf (.ref i1) >>= _) _ _ _
  have k1 : ∀ b o, b ≠ z → s.heap.get? b = some o → g1.get? b = some o := fun b o hb e => (e1.2 b hb).trans e
  refine wpAny_bind (tnext_end (s := { s with heap := g1 }) hh (IsTupleIter.but h1 fun o e => k1 _ o D.i1z e) (IsTuple.but hl1 fun o e => k1 _ o D.l1z e) hend fun g2 e oe hk he hc => ?_)
  have z2 : IsZip g2 z TI TO .ellipsis := hk _ _ D.i1z.symm q1
  have hez : e ≠ z := fun h => by subst h; rw [z2] at he; cases he; simp at hc
  refine wpAny_setField_rec (s := { s with heap := g2 }) z2 (by simp) fun g3 z3 e3 => ?_
  exact hE g3 e oe (fun c o c1 c2 c3 c4 h => (e3.2 c c1).trans (hk c o c3 (k1 c o c1 h))) ((e3.2 e hez).trans he) hc

theorem pyNext_zt {z TI TO i1 i2 l1 l2 : Addr} {k : Nat} {xs ys : Array Value} {x y a b : Value} {Q : Option Value → Shared → Prop} (D : ZipApart z TI TO i1 i2 l1 l2)
    (hz : IsZip s.heap z TI TO .none) (hTI : IsPair s.heap TI (.ref i1) (.ref i2)) (hTO : IsPair s.heap TO a b)
    (h1 : s.heap.IsTupleIter i1 l1 k) (h2 : s.heap.IsTupleIter i2 l2 k) (hl1 : s.heap.IsTuple l1 xs) (hl2 : s.heap.IsTuple l2 ys) (hx : xs[k]? = some x) (hy : ys[k]? = some y)
    (hQ : ∀ h', IsZip h' z TI TO (rawInt s.heap.objs.size) → IsPair h' TO x y → h'.IsTupleIter i1 l1 (k + 1) → h'.IsTupleIter i2 l2 (k + 1) → IsPair h' s.heap.objs.size x y →
      (∀ c o, c ≠ z → c ≠ TO → c ≠ i1 → c ≠ i2 → s.heap.get? c = some o → h'.get? c = some o) → Q (some (.ref s.heap.objs.size)) { s with heap := h' }) : wpAny (model prog w) A (pyNext (.ref z)) Q E s := by
  have hT : s.TypeIs (.ref z) "zip" := ⟨_, hz, rfl⟩
  unfold pyNext
  exact wpAny_bind (wpAny_attempt (wpAny_callSpecial?_slot (name := Str.ofString "__next__") hT F.slot_zip_next (wpAny_call_entry F.slot_zip_next hT F.entry_zip_next
    (zt_item D hz hTI hTO h1 h2 hl1 hl2 hx hy fun h' a1 a2 a3 a4 a5 a6 => wpAny_pure (hQ h' a1 a2 a3 a4 a5 a6)) (F.args_zip_next_1 _))))
theorem pyNext_zt_end {z TI TO i1 i2 l1 l2 : Addr} {k : Nat} {xs : Array Value} {a b : Value} {Q : Option Value → Shared → Prop} (hh : A.handled = none) (D : ZipApart z TI TO i1 i2 l1 l2)
    (hz : IsZip s.heap z TI TO .none) (hTI : IsPair s.heap TI (.ref i1) (.ref i2)) (hTO : IsPair s.heap TO a b) (h1 : s.heap.IsTupleIter i1 l1 k) (hl1 : s.heap.IsTuple l1 xs) (hend : xs[k]? = none)
    (hQ : ∀ h', (∀ c o, c ≠ z → c ≠ TO → c ≠ i1 → c ≠ i2 → s.heap.get? c = some o → h'.get? c = some o) → Q none { s with heap := h' }) : wpAny (model prog w) A (pyNext (.ref z)) Q E s := by
  have hT : s.TypeIs (.ref z) "zip" := ⟨_, hz, rfl⟩
  unfold pyNext
  refine wpAny_bind (wpAny_attempt (wpAny_callSpecial?_slot (name := Str.ofString "__next__") hT F.slot_zip_next (wpAny_call_entry F.slot_zip_next hT F.entry_zip_next (zt_end hh D hz hTI hTO h1 hl1 hend fun h' e o hk he hc => ?_) (F.args_zip_next_1 _))))
  refine wpAny_bind (wpAny_isInstance (T := "StopIteration") (b := true) ⟨o, he, hc⟩ isSubtype_stop ?_)
  exact wpAny_pure (hQ _ hk)
end
end Dio

namespace Dio
set_option tactic.hygienic false
open PySem PySem.W PySem.Calls PyProof.Rows
open Sem (wp)
set_option maxRecDepth 100000

/-! Zl. zip over two tuples: the walk, and the call -/
section
variable {prog : Program} {w : World} {A : Around} {E : Value → Shared → Prop} {s : Shared}

noncomputable def ztSt (z TI TO i1 i2 l1 l2 : Addr) (xs ys : Array Value) (i : Nat) (h : Heap) : Prop :=
  IsZip h z TI TO .none ∧ IsPair h TI (.ref i1) (.ref i2) ∧ (∃ a b, IsPair h TO a b) ∧ h.IsTupleIter i1 l1 i ∧ h.IsTupleIter i2 l2 i ∧ h.IsTuple l1 xs ∧ h.IsTuple l2 ys
noncomputable def ztMid (z TI TO i1 i2 l1 l2 : Addr) (xs ys : Array Value) (i : Nat) (T : Addr) (h : Heap) : Prop :=
  (IsZip h z TI TO (rawInt T) ∧ IsPair h TI (.ref i1) (.ref i2) ∧ (∃ a b, IsPair h TO a b) ∧ h.IsTupleIter i1 l1 (i + 1) ∧ h.IsTupleIter i2 l2 (i + 1) ∧ h.IsTuple l1 xs ∧ h.IsTuple l2 ys) ∧ T ∉ [z, TO, i1, i2]
noncomputable def ztPt (xs ys : Array Value) (i : Nat) (vals : Array Value) : Prop := ∃ x y, xs[i]? = some x ∧ ys[i]? = some y ∧ vals = #[x, y]

theorem walks_zt (hh : A.handled = none) (z TI TO i1 i2 l1 l2 : Addr) (D : ZipApart z TI TO i1 i2 l1 l2) (xs ys : Array Value) (hsz : xs.size = ys.size) :
    WalksU prog w A z [z, TI, TO, i1, i2, l1, l2] [z, TO, i1, i2] xs.size (ztPt xs ys) (ztSt z TI TO i1 i2 l1 l2 xs ys) (ztMid z TI TO i1 i2 l1 l2 xs ys) where
  sub := fun c hc => by simp at hc ⊢; rcases hc with rfl | rfl | rfl | rfl <;> simp
  frame := fun i h h' st hk => by
    obtain ⟨hz, hTI, ⟨a, b, hTO⟩, h1, h2, q1, q2⟩ := st
    exact ⟨hk z (by simp) _ hz, hk TI (by simp) _ hTI, ⟨a, b, hk TO (by simp) _ hTO⟩, IsTupleIter.but h1 fun o e => hk i1 (by simp) o e, IsTupleIter.but h2 fun o e => hk i2 (by simp) o e,
      IsTuple.but q1 fun o e => hk l1 (by simp) o e, IsTuple.but q2 fun o e => hk l2 (by simp) o e⟩
  item := fun i s Q E hi st hQ => by
    obtain ⟨hz, hTI, ⟨a, b, hTO⟩, h1, h2, q1, q2⟩ := st
    have hiy : i < ys.size := hsz ▸ hi
    refine pyNext_zt D hz hTI hTO h1 h2 q1 q2 (Array.getElem?_eq_getElem hi) (Array.getElem?_eq_getElem hiy) fun h' a1 a2 a3 a4 a5 hk => ?_
    refine hQ _ _ h' s.toks ⟨_, _, Array.getElem?_eq_getElem hi, Array.getElem?_eq_getElem hiy, rfl⟩ ⟨_, a5, rfl, _, rfl⟩ ⟨⟨a1, hk _ _ D.TIz D.TITO D.TIi1 D.TIi2 hTI, ⟨_, _, a2⟩, a3, a4,
      IsTuple.but q1 fun o e => hk _ o D.l1z D.l1TO D.l1i1 D.l1i2 e, IsTuple.but q2 fun o e => hk _ o D.l2z D.l2TO D.l2i1 D.l2i2 e⟩, fun hm => ?_⟩ fun c o hc e => ?_
    · simp only [List.mem_cons, List.not_mem_nil, or_false] at hm
      rcases hm with h | h | h | h
      · exact Nat.ne_of_gt (Heap.lt_size hz) h
      · exact Nat.ne_of_gt (Heap.lt_size hTO) h
      · obtain ⟨_, e, _⟩ := h1; exact Nat.ne_of_gt (Heap.lt_size e) h
      · obtain ⟨_, e, _⟩ := h2; exact Nat.ne_of_gt (Heap.lt_size e) h
    · exact hk c o (fun x => hc (by simp [x])) (fun x => hc (by simp [x])) (fun x => hc (by simp [x])) (fun x => hc (by simp [x])) e
  go := fun elts k pos i T s Q E hm hQ => by
    obtain ⟨⟨hz, hTI, ⟨a, b, hTO⟩, h1, h2, q1, q2⟩, _⟩ := hm
    refine wpAny_letOwnedTupleGo_zip hz fun h' hz' hs' => hQ h' ⟨hz', (hs'.2 _ D.TIz).trans hTI, ⟨a, b, (hs'.2 _ D.TOz).trans hTO⟩, IsTupleIter.but h1 fun o e => (hs'.2 _ D.i1z).trans e, IsTupleIter.but h2 fun o e => (hs'.2 _ D.i2z).trans e,
      IsTuple.but q1 fun o e => (hs'.2 _ D.l1z).trans e, IsTuple.but q2 fun o e => (hs'.2 _ D.l2z).trans e⟩ fun c o hc e => (hs'.2 _ fun x => hc (by simp [x])).trans e
  apart := fun i T h hm hT => hm.2 hT
  done := fun s Q E st hQ => by
    obtain ⟨hz, hTI, ⟨a, b, hTO⟩, h1, h2, q1, q2⟩ := st
    exact pyNext_zt_end hh D hz hTI hTO h1 q1 (by simp) fun h' hk => hQ h' s.toks fun c o hc e => hk c o (fun x => hc (by simp [x])) (fun x => hc (by simp [x])) (fun x => hc (by simp [x])) (fun x => hc (by simp [x])) e
  self := fun i s Q E st hQ => wpAny_pyIter_zip st.1 hQ

noncomputable abbrev zt1 (h : Heap) (l1 : Addr) : Heap := h.push { cls := .type "tuple_iterator", data := .fields #[.ref l1, .int 0 0] }
noncomputable abbrev zt2 (h : Heap) (l1 l2 : Addr) : Heap := (zt1 h l1).push { cls := .type "tuple_iterator", data := .fields #[.ref l2, .int 0 0] }
noncomputable abbrev zt3 (h : Heap) (l1 l2 : Addr) : Heap := (zt2 h l1 l2).push { cls := .type "tuple", data := .seq #[.ref h.objs.size, .ref (zt1 h l1).objs.size] }
noncomputable abbrev zt4 (h : Heap) (l1 l2 : Addr) : Heap := (zt3 h l1 l2).push { cls := .type "tuple", data := .seq #[.none, .none] }
noncomputable abbrev zt5 (h : Heap) (l1 l2 : Addr) : Heap := (zt4 h l1 l2).push { cls := .type "zip", data := .fields #[.none, .bool false, .bool false, .ref (zt2 h l1 l2).objs.size, .ref (zt3 h l1 l2).objs.size] }

theorem zt_new (l1 l2 : Addr) (xs ys : Array Value) :
    Meets (Builtin.«zip.__new__» ⟨[.type "zip", .ref l1, .ref l2], []⟩) (fun _ R s => s.heap.IsTuple l1 xs ∧ s.heap.IsTuple l2 ys ∧ R (.ok (.ret (.ref (zt4 s.heap l1 l2).objs.size))) { s with heap := zt5 s.heap l1 l2 }) :=
  .of_wp fun prog w A R s h => by
    obtain ⟨hp, g, d, tk, os⟩ := s; obtain ⟨hl1, hl2, h⟩ := h
    have hsub := sub_zip
    have hL1 : Heap.IsTuple (Shared.heap ⟨hp, g, d, tk, os⟩) l1 xs := hl1
    have hL2 : Heap.IsTuple (Shared.heap ⟨hp.push { cls := .type "tuple_iterator", data := .fields #[.ref l1, .int 0 0] }, g, d, tk, os⟩) l2 ys := IsTuple.but hl2 fun o e => Heap.get?_push_of_some _ e
    wp_walk using wpAny_pyIter_tuple hL1, wpAny_pyIter_tuple hL2
    exact ⟨_, rfl, h⟩

theorem call_zt {l1 l2 : Addr} {xs ys : Array Value} {Q : Value → Shared → Prop} (hl1 : s.heap.IsTuple l1 xs) (hl2 : s.heap.IsTuple l2 ys)
    (h : ∀ h', ztSt (s.heap.objs.size + 4) (s.heap.objs.size + 2) (s.heap.objs.size + 3) s.heap.objs.size (s.heap.objs.size + 1) l1 l2 xs ys 0 h' → (∀ c o, s.heap.get? c = some o → h'.get? c = some o) → h'.objs.size = s.heap.objs.size + 5 → Q (.ref (s.heap.objs.size + 4)) { s with heap := h' }) :
    wpAny (model prog w) A (call (.type "zip") [.ref l1, .ref l2]) Q E s := by
  refine callType_new F.called_zip (by decide) (F.typeCall_zip_2 _ _) (F.newCall_zip_2 _ _) (fun obj => F.args_object_init_3 obj _ _) F.entry_zip_new (zt_new l1 l2 xs ys) ⟨hl1, hl2, ?_⟩
  have z1 : (zt1 s.heap l1).objs.size = s.heap.objs.size + 1 := Heap.size_push ..
  have z2 : (zt2 s.heap l1 l2).objs.size = s.heap.objs.size + 2 := by rw [Heap.size_push, z1]
  have z3 : (zt3 s.heap l1 l2).objs.size = s.heap.objs.size + 3 := by rw [Heap.size_push, z2]
  have z4 : (zt4 s.heap l1 l2).objs.size = s.heap.objs.size + 4 := by rw [Heap.size_push, z3]
  have z5 : (zt5 s.heap l1 l2).objs.size = s.heap.objs.size + 5 := by rw [Heap.size_push, z4]
  have g5 : (zt5 s.heap l1 l2).get? (zt4 s.heap l1 l2).objs.size = some _ := Heap.get?_push_size _ rfl
  have g4 : (zt5 s.heap l1 l2).get? (zt3 s.heap l1 l2).objs.size = some _ := Heap.get?_push_of_some _ (Heap.get?_push_size _ rfl)
  have g3 : (zt5 s.heap l1 l2).get? (zt2 s.heap l1 l2).objs.size = some _ := Heap.get?_push_of_some _ (Heap.get?_push_of_some _ (Heap.get?_push_size _ rfl))
  have g2 : (zt5 s.heap l1 l2).get? (zt1 s.heap l1).objs.size = some _ := Heap.get?_push_of_some _ (Heap.get?_push_of_some _ (Heap.get?_push_of_some _ (Heap.get?_push_size _ rfl)))
  have g1 : (zt5 s.heap l1 l2).get? s.heap.objs.size = some _ := Heap.get?_push_of_some _ (Heap.get?_push_of_some _ (Heap.get?_push_of_some _ (Heap.get?_push_of_some _ (Heap.get?_push_size _ rfl))))
  have hk : ∀ c o, s.heap.get? c = some o → (zt5 s.heap l1 l2).get? c = some o := fun c o x => Heap.get?_push_of_some _ (Heap.get?_push_of_some _ (Heap.get?_push_of_some _ (Heap.get?_push_of_some _ (Heap.get?_push_of_some _ x))))
  show _ ∧ _
  rw [z2, z3, z4] at g5
  rw [z1, z2] at g3
  rw [z3] at g4
  rw [z1] at g2
  rw [z4]
  exact ⟨⟨_, g5, rfl⟩, h _ ⟨g5, g3, ⟨_, _, g4⟩, ⟨_, g1, rfl, rfl⟩, ⟨_, g2, rfl, rfl⟩, IsTuple.but hl1 fun o e => hk _ o e, IsTuple.but hl2 fun o e => hk _ o e⟩ hk z5⟩
end
end Dio

namespace Dio
set_option tactic.hygienic false
open PySem PySem.W PySem.Calls PyProof.Rows
open Sem (wp)
set_option maxRecDepth 100000

/-! Zm. tuple(generator expression): what is known of the generator at the end -/
section
variable {prog : Program} {w : World} {A : Around} {I : Addr} {fp wr : List Addr} {G : Array GenState → Array GenState → Prop} {n : Nat} {P : Nat → Value → Prop} {St : Nat → Shared → Prop}

/-- the last draw, with what it leaves -/
noncomputable def Last (prog : Program) (w : World) (A : Around) (I : Addr) (wr : List Addr) (G : Array GenState → Array GenState → Prop) (n : Nat) (St : Nat → Shared → Prop) (fin : Array GenState → Prop) : Prop :=
  ∀ (s : Shared) (Q : Option Value → Shared → Prop) (E : Value → Shared → Prop), St n s → (∀ s', Moved wr G s s' → fin s'.gens → Q none s') → wpAny (model prog w) A (pyNext (.ref I)) Q E s

theorem extend_fin {R : Result → Shared → Prop} {fin : Array GenState → Prop} (W : WalksS prog w A.in1 I fp wr G n P St) (hd : Last prog w A.in1 I wr G n St fin) (hn : n ≤ sizeLine) (S : Addr) (hSf : S ∉ fp) (res : Value) :
    ∀ (k i : Nat) (s : Shared) (acc : Array Value) (c : Nat), n - i = k → i ≤ n → St i s → s.heap.get? S = some { cls := .type "list", dict := none, data := .seq acc c, slots := #[] } → ItemsOf P acc i →
    (∀ s' acc' c', Moved (S :: wr) G s s' → fin s'.gens → s'.heap.get? S = some { cls := .type "list", dict := none, data := .seq acc' c', slots := #[] } → ItemsOf P acc' n → R (.ok (.ret res)) s') →
    codeAny (model prog w) A (.builtin "list.extend.loop" ⟨[.ref S, .ref I, res], []⟩) R s := by
  have hSw : S ∉ wr := fun h => hSf (W.sub _ h)
  have hsub : ∀ b ∈ wr, b ∈ S :: wr := fun b hb => List.mem_cons_of_mem _ hb
  intro k
  induction k with
  | zero =>
    intro i s acc c hk hi hst hS hacc hR
    obtain rfl : i = n := by omega
    refine codeAny_builtin F.entry_extend_loop ?_
    rw [Around.under_plainId F.plain_extend_loop _]
    show wpAny _ A.in1 (pyNext (.ref I) >>= _) _ _ s
    exact wpAny_bind (hd s _ _ hst fun s' hm hf => wpAny_pure (hR s' acc c (hm.mono hsub) hf (hm.heap S _ hSw hS) hacc))
  | succ k ih =>
    intro i s acc c hk hi hst hS hacc hR
    have hlt : i < n := by omega
    refine codeAny_builtin F.entry_extend_loop ?_
    rw [Around.under_plainId F.plain_extend_loop _]
    show wpAny _ A.in1 (pyNext (.ref I) >>= _) _ _ s
    refine wpAny_bind (W.item i s _ _ hlt hst fun v s' hP hst' hm => ?_)
    have hS' := hm.heap S _ hSw hS
    show wpAny _ A.in1 (updateSeq S (·.push v) >>= _) _ _ _
    have oth : ∀ b o, b ≠ S → s'.heap.get? b = some o → (s'.heap.update S (Obj.mapSeq (·.push v))).get? b = some o := fun b o hb e => (Heap.get?_update_other _ _ (Ne.symm hb)).trans e
    refine wpAny_bind (wpAny_updateSeq hS' rfl (wpAny_pure ⟨plainId_quiet F.plain_extend_loop _, ih (i + 1) _ (acc.push v) _ (by omega) hlt
      (W.frame _ s' _ s'.toks hst' (Nat.le_refl _) fun b hb o e => oth b o (fun h => hSf (h ▸ hb)) e) (Heap.get?_update_self _ hS' rfl) (hacc.push hP) fun s'' acc' c' hm'' hf hS'' hacc' => ?_⟩)
      (by rw [hacc.1]; omega) (by show (acc.push v).size ≤ sizeLine + 1; rw [Array.size_push, hacc.1]; omega))
    exact hR s'' acc' c' (Moved.trans W.gtrans ((hm.mono hsub).then_heap (Nat.le_refl _) fun b o hb e => oth b o (fun h => hb (h ▸ List.mem_cons_self)) e) hm'') hf hS'' hacc'

theorem collect_fin {E : Value → Shared → Prop} {s : Shared} {fin : Array GenState → Prop} {Q : List Value → Shared → Prop} (W : WalksS prog w A.in1 I fp wr G n P St) (hd : Last prog w A.in1 I wr G n St fin) (hT : ∀ i s, St i s → s.TypeIs (.ref I) "generator") (hst : St 0 s)
    (hfp : ∀ b ∈ fp, b < s.heap.objs.size) (hI : I ∈ fp) (hn : n ≤ sizeLine) (hQ : ∀ s' acc, Moved wr G s s' → fin s'.gens → ItemsOf P acc n → Q acc.toList s') : wpAny (model prog w) A (collect (.ref I)) Q E s := by
  have hSf : s.heap.objs.size ∉ fp := fun hm => Nat.lt_irrefl _ (hfp _ hm)
  have hSI : s.heap.objs.size ≠ I := fun e => hSf (e ▸ hI)
  unfold collect
  refine wpAny_bind (wpAny_runValue (codeAny_builtin F.entry_proto_collect ?_))
  rw [Around.under_plainId F.plain_proto_collect _]
  show wpAny _ A.in1 (newList [] >>= fun l => again (.builtin "list.__iadd__" ⟨[l, .ref I], []⟩)) _ _ s
  refine wpAny_bind (wpAny_newObj_type (wpAny_pure ⟨plainId_quiet F.plain_list_iadd _, codeAny_builtin F.entry_list_iadd ?_⟩))
  rw [Around.under_plainId F.plain_list_iadd _]
  generalize hh₁ : s.heap.push { cls := .type "list", data := .seq ([] : List Value).toArray } = h₁
  have k₁ : ∀ b o, s.heap.get? b = some o → h₁.get? b = some o := fun b o e => hh₁ ▸ Heap.get?_push_of_some _ e
  have hS₁ : h₁.get? s.heap.objs.size = some { cls := .type "list", data := .seq ([] : List Value).toArray } := hh₁ ▸ Heap.get?_push_size _ rfl
  have hst₁ := W.frame 0 s h₁ s.toks hst (Nat.le_refl _) fun b _ o e => k₁ b o e
  show wpAny _ A.in1 (Builtin.List.listExtendWith (.ref s.heap.objs.size) (.ref I) (.ref s.heap.objs.size)) _ _ _
  unfold Builtin.List.listExtendWith
  refine wpAny_bind (wpAny_typeOf (hT 0 _ hst₁) ?_)
  have e1 : Builtin.List.listSameRef (.ref s.heap.objs.size) (.ref I) = false := by simp [Builtin.List.listSameRef, hSI]
  have e2 : (Value.type "generator" == Value.type "list") = false := by decide
  have e3 : (Value.type "generator" == Value.type "tuple") = false := by decide
  simp only [e1, e2, e3, Bool.or_false, Bool.false_eq_true, if_false]
  refine wpAny_bind (W.self 0 _ _ _ hst₁ (wpAny_bind (wpAny_holding ?_)))
  unfold Builtin.List.listLengthHint
  refine wpAny_bind (wpAny_specialOf (hT 0 _ hst₁) F.gen_no_len ?_)
  show wpAny _ A.in1 (specialOf (Value.ref I) (Str.ofString "__length_hint__") >>= _) _ _ _
  refine wpAny_bind (wpAny_specialOf (hT 0 _ hst₁) F.gen_no_hint (wpAny_pure ?_))
  show wpAny _ A.in1 (rule "list.extend.makes-room" >>= fun _ => Builtin.List.listTouch (.ref s.heap.objs.size) >>= fun _ =>
    again (.builtin "list.extend.loop" ⟨[.ref s.heap.objs.size, .ref I, .ref s.heap.objs.size], []⟩)) _ _ _
  refine wpAny_bind (wpAny_rule (wpAny_bind ?_))
  show wpAny _ A.in1 (updateSeq s.heap.objs.size (·.push .none) >>= fun _ => updateSeq s.heap.objs.size (·.pop)) _ _ _
  refine wpAny_bind (wpAny_updateSeq hS₁ rfl ?_)
  have hS₂ := Heap.get?_update_self (Obj.mapSeq (·.push Value.none)) hS₁ rfl
  refine wpAny_updateSeq hS₂ rfl ?_
  have hS₃ := Heap.get?_update_self (Obj.mapSeq (·.pop)) hS₂ rfl
  have oth : ∀ b o, b ≠ s.heap.objs.size → h₁.get? b = some o → ((h₁.update s.heap.objs.size (Obj.mapSeq (·.push Value.none))).update s.heap.objs.size (Obj.mapSeq (·.pop))).get? b = some o :=
    fun b o hb e => (Heap.get?_update_other _ _ (Ne.symm hb)).trans ((Heap.get?_update_other _ _ (Ne.symm hb)).trans e)
  refine wpAny_pure ⟨plainId_quiet F.plain_extend_loop _, extend_fin W hd hn _ hSf _ n 0 _ _ _ rfl (Nat.zero_le _)
    (W.frame 0 ({ s with heap := h₁ } : Shared) _ s.toks hst₁ (Nat.le_refl _) fun b hb o e => oth b o (fun h => hSf (h ▸ hb)) e) hS₃ (ItemsOf.nil P) fun s' acc' c' hm hf hS' hacc => ?_⟩
  show wpAny _ A (load s.heap.objs.size >>= _) _ _ s'
  refine wpAny_bind (wpAny_load hS' (wpAny_pure (hQ s' acc' ⟨fun b o hb e => ?_, hm.gens, hm.drawn, hm.os, hm.toks⟩ hf hacc)))
  have hbS : b ≠ s.heap.objs.size := Nat.ne_of_lt (Heap.lt_size e)
  exact hm.heap b o (fun hc => (List.mem_cons.mp hc).elim hbS hb) (oth b o hbS (k₁ b o e))

theorem tuple_fin {E : Value → Shared → Prop} {s : Shared} {fin : Array GenState → Prop} {Q : Value → Shared → Prop} (W : WalksS prog w A.in1.in1.in1 I fp wr G n P St) (hd : Last prog w A.in1.in1.in1 I wr G n St fin) (hT : ∀ i s, St i s → s.TypeIs (.ref I) "generator") (hst : St 0 s)
    (hfp : ∀ b ∈ fp, b < s.heap.objs.size) (hI : I ∈ fp) (hsz : n ≤ sizeLine)
    (hQ : ∀ s' acc, Moved wr G s s' → fin s'.gens → ItemsOf P acc n → Q (.ref s'.heap.objs.size) { s' with heap := s'.heap.push { cls := .type "tuple", data := .seq acc } }) :
    wpAny (model prog w) A (call (.type "tuple") [.ref I]) Q E s := by
  refine callType_codes (Q₁ := fun obj s₁ => s₁.TypeIs obj "tuple" ∧ Q obj s₁) F.called_tuple (F.typeCall_tuple_1 _) F.entry_object_init (codeAny_of_tree ?_)
    fun obj s₁ h₁ => ⟨h₁.1, F.args_object_init_2 obj _, object_init_meets F.called_tuple.init.lookup F.called_tuple.made (by decide) prog w A.in1 _ s₁ ⟨h₁.1, rfl, h₁.2⟩⟩
  show wpAny _ A.in1.in1 (do checkBuiltinCall "tuple.__new__" ⟨[.type "tuple", .ref I], []⟩; again (.builtin "tuple.__new__" ⟨[.type "tuple", .ref I], []⟩)) _ _ s
  refine wpAny_bind (wpAny_of_eq (F.newCall_tuple_1 _) (wpAny_pure ⟨plainId_quiet F.plain_tuple_new _, codeAny_builtin F.entry_tuple_new ?_⟩))
  rw [Around.under_plainId F.plain_tuple_new _]
  have hsub := sub_tuple_self
  have hinit := init_tuple_lookup
  have hmh := madeHere_tuple
  have hTI := hT 0 s hst
  wp_walk using wpAny_typeOf hTI, collect_fin (hn := hsz) W hd hT hst hfp hI
  intro s' acc hm hf hacc
  show wpAny _ _ (Builtin.Tuple.tupleExact acc.toList.toArray >>= fun v => ret v) _ _ _
  unfold Builtin.Tuple.tupleExact
  have e : acc.toList.toArray = acc := by simp
  rw [e]
  refine wpAny_bind (wpAny_newObj_type ?_ (by show acc.size ≤ sizeLine; rw [hacc.1]; exact hsz))
  exact wpAny_pure ⟨⟨_, Heap.get?_push_size _ rfl, rfl⟩, hQ s' acc hm hf hacc⟩

theorem Last.genexp {a : Addr} {g : Nat} {C : Addr} {pz : Nat → Bool} {n₀ : Nat} {Fv : Nat → Value → Prop} (hh : A.handled = none) (hroom : A.depth < recursionLimit) :
    Last prog w A a (C :: wr) (GenOnlyQ g) (passing pz n₀ 0).length (PySem.GenAt prog w A a g C fp wr pz n₀ Fv) (fun gs => gs[g]? = some .finished) := by
  intro s Q E st hQ
  obtain ⟨hg, hl, gs, hgs, hgo⟩ := st
  rw [Nat.sub_self] at hgo
  refine wpAny_with_toks (Nat.le_refl s.toks) ?_
  refine wpAny_pyNext_genexpQ (P := fun n s₀ s₁ => n = 0 ∧ GenSince C wr s₀ s₁) hh hl hroom hg hgs (hgo _ fun _ _ _ e => e) (fun v s₁ gs' hb hv => ?_) (fun s₁ hp h' hk => ?_)
  · obtain ⟨_, _, hkap⟩ := hv
    exact (hkap s₁ fun _ _ _ e => e).elim
  · obtain ⟨_, h₁, tk₁, rfl, hk₁⟩ := hp
    intro htk
    have hf := PySem.setGen_self (s := s.setGen g .running) (x := .finished) (PySem.setGen_self (x := .running) hgs)
    exact hQ _ ⟨fun b o hb e => hk b o (hk₁ b o (fun h => hb (h ▸ List.mem_cons_self ..)) (fun h => hb (List.mem_cons_of_mem _ h)) e), GenOnlyQ.of ((GenOnly.setGen s g .running).trans (GenOnly.setGen _ g .finished)) hf rfl, rfl, rfl, htk⟩ hf
end
end Dio

namespace Dio
set_option tactic.hygienic false
open PySem PySem.W PySem.Calls PyProof.Rows
open Sem (wp)
set_option maxRecDepth 100000

/-! Zn. tuple(v - u - 1 for u, v in zip(..)) -/
section
variable {c : Cx} {k : Nat} {sc : Scope} {ρ : Rho} {X : Addr → Prop}

theorem gen_code {A : Around} {E : Value → Shared → Prop} {s : Shared} {env : Env} {pos : Pos} {qn : Str} {scope : Scope} {Q : Value → Shared → Prop} (hi : Iv c s) (hc : env.code = .ref c.cw) (hl : (pos.line : Int) = c.pl) (hcol : (pos.col : Int) = c.pc)
    (h : ∀ cd s', Tr c X no no s s' → Q cd s') : wpAny (MF c) A (genexprCode env pos qn scope) Q E s := by
  obtain ⟨ps, h1, h2, h3⟩ := hi.tab
  rcases h3 with rfl | ⟨c', rfl⟩
  · refine wpAny_genexprCodeX hc h1 h2 rfl fun c' h' tk hx _ _ hcode _ htab _ => h _ _ ⟨fun b ⟨o, e⟩ => ?_, fun b o e hP _ => hx b o hP e, fun _ => ⟨_, hcode, htab, .inr ⟨c', ?_⟩⟩, Nat.le_refl _, fun _ _ e _ => e, fun _ _ e h _ => absurd (Array.getElem?_eq_some_iff.mp e).1 (Nat.not_lt.mpr h), rfl⟩
    · by_cases hb : b = c.P
      · exact ⟨_, hb ▸ htab.2⟩
      · exact ⟨o, hx b o hb e⟩
    · show (#[rawInt pos.line, rawInt pos.col, Value.ref c'] : Array Value) = _
      rw [hl, hcol]
  · refine wpAny_genexprCode_hit hc h1 (c' := .ref c') ?_ (h _ _ (.refl ..))
    simp [codeAmong, rawInt, hl, hcol]

theorem tr_moved {s s₅ s' : Shared} {wr : List Addr} {g : Nat} (hi : Iv c s) (T : Tr c X no no s s₅) (hm : Moved wr (GenOnlyQ g) s₅ s') (hf : s'.gens[g]? = some .finished) (hw : ∀ b ∈ wr, ¬ Is s.heap b) (hg : s.gens.size ≤ g) : Tr c X no no s s' := by
  have hsz : s'.gens.size = s₅.gens.size := by rcases hm.gens with h | ⟨h, _⟩; exact congrArg _ h; exact h.1
  have hoth : ∀ i, i ≠ g → s'.gens[i]? = s₅.gens[i]? := fun i hne => by
    rcases hm.gens with h | ⟨h, _⟩
    · rw [h]
    · exact h.2 i hne
  have up : ∀ b o, Is s.heap b → s₅.heap.get? b = some o → s'.heap.get? b = some o := fun b o hb e => hm.heap b o (fun h => hw b h hb) e
  refine ⟨fun b hb => let ⟨o, e⟩ := T.there b hb; ⟨o, up b o hb e⟩, fun b o e hP hW => up b o ⟨o, e⟩ (T.keep b o e hP hW), fun h => (T.tab h).at (fun o e => up _ o (hi.is_old hi.lowC) e) (fun o e => up _ o (hi.is_old hi.lowP) e),
    hsz ▸ T.gsize, fun i x e hn => ?_, fun i x e hle hn => ?_, hm.os.trans T.os⟩
  · have hlt := (Array.getElem?_eq_some_iff.mp e).1
    exact (hoth i (by omega)).trans (T.gkeep i x e hn)
  · by_cases hig : i = g
    · subst hig; rw [hf] at e; cases e; rfl
    · exact T.gnew i x ((hoth i hig).symm.trans e) hle hn

theorem repL_ints {h : Heap} : ∀ {l : List Value} {is : List Int}, l.length = is.length → (∀ (j : Nat) (v : Value), l[j]? = some v → ∃ (i : Int) (t : Tok), is[j]? = some i ∧ v = Value.int i t) → RepL c X h l (lsI is)
  | [], [], _, _ => .nil
  | v :: l, i :: is, hl, hp => by
    obtain ⟨i', t, e, rfl⟩ := hp 0 v rfl
    simp at e; subst e
    exact .cons (.int _ t) (repL_ints (by simpa using hl) fun j v hv => hp (j + 1) v (by simpa using hv))

theorem ints_at {h : Heap} {vs : List Value} {xs : List Int} (r : RepL c X h vs (lsI xs)) {i : Nat} {v : Value} (hv : vs[i]? = some v) : ∃ x t, xs[i]? = some x ∧ v = .int x t := by
  have hlt : i < xs.length := by
    have := (List.getElem?_eq_some_iff.mp hv).1
    rw [r.length] at this; simpa [lsI] using this
  obtain ⟨v', e, q⟩ := r.get (i := i) (d := .int xs[i]) (by simp [lsI, hlt])
  rw [hv] at e; cases e
  cases q with
  | int _ t => exact ⟨_, t, List.getElem?_eq_getElem hlt, rfl⟩

theorem zfp_cases {n l1 l2 b : Nat} (h : b ∈ [n + 4, n + 2, n + 3, n, n + 1, l1, l2]) : (n ≤ b ∧ b ≤ n + 4) ∨ b = l1 ∨ b = l2 := by
  have e : ∀ k, k ≤ 4 → b = n + k → (n ≤ b ∧ b ≤ n + 4) := fun k hk hb => hb ▸ ⟨Nat.le_add_right .., Nat.add_le_add_left hk n⟩
  rcases List.mem_cons.mp h with h | h
  · exact .inl (e 4 (by decide) h)
  rcases List.mem_cons.mp h with h | h
  · exact .inl (e 2 (by decide) h)
  rcases List.mem_cons.mp h with h | h
  · exact .inl (e 3 (by decide) h)
  rcases List.mem_cons.mp h with h | h
  · exact .inl (e 0 (by decide) h)
  rcases List.mem_cons.mp h with h | h
  · exact .inl (e 1 (by decide) h)
  rcases List.mem_cons.mp h with h | h
  · exact .inr (.inl h)
  · exact .inr (.inr (List.mem_singleton.mp h))
theorem zwr_cases {n b : Nat} (h : b ∈ [n + 4, n + 3, n, n + 1]) : n ≤ b ∧ b ≤ n + 4 := by
  have e : ∀ k, k ≤ 4 → b = n + k → (n ≤ b ∧ b ≤ n + 4) := fun k hk hb => hb ▸ ⟨Nat.le_add_right .., Nat.add_le_add_left hk n⟩
  rcases List.mem_cons.mp h with h | h
  · exact e 4 (by decide) h
  rcases List.mem_cons.mp h with h | h
  · exact e 3 (by decide) h
  rcases List.mem_cons.mp h with h | h
  · exact e 0 (by decide) h
  · exact e 1 (by decide) (List.mem_singleton.mp h)

noncomputable def diffs (xs ys : List Int) : List Int := List.zipWith (fun u v => v - u - 1) xs ys
theorem passing_all (n : Nat) : passing (fun _ => true) n 0 = List.range n := by unfold passing; simp

theorem ev_weak {e₁ e₂ : Expr} {xs ys : List Int} {p1 p2 p3 p4 p5 p6 p7 p8 p9 p10 p11 gp cp : Pos} {j m : Nat} {gsc : Scope} (G : Gnd c) (hsc : sc = c.wsc) (gt : Glo c sc "tuple" (.type "tuple")) (gz : Glo c sc "zip" (.type "zip"))
    (h12 : EvL c (k + 1) sc ρ [e₁, e₂] [tupI xs, tupI ys]) (hlen : xs.length = ys.length) (hsz : xs.length ≤ 100000) (hline : (gp.line : Int) = c.pl) (hcol : (gp.col : Int) = c.pc)
    (hco : gsc.isCoroutine = false) (hkind : gsc.kind = .function) (hcell : ∀ y ∈ gsc.names, y.2 ≠ .cell) (hfree : ∀ y ∈ gsc.names, y.2 ≠ .free) (h0 : gsc.names.lookup (".0" : Str) = some NameKind.local) (hu : gsc.names.lookup ("u" : Str) = some .local) (hv : gsc.names.lookup ("v" : Str) = some .local) (hst : NoStar [e₁, e₂] := by intro _ _; rfl) :
    Ev c (k + 1) sc ρ (.Call (.Name "tuple" p1) [.GeneratorExp (.BinOp (.BinOp (.Name "v" p8) .Sub (.Name "u" p9) p10) .Sub (.Constant (.int 1) m p11) p3) [⟨.Tuple [.Name "u" p4, .Name "v" p5] j p6, .Call (.Name "zip" p7) [e₁, e₂] [] p2, [], 0⟩] gsc gp] [] cp)
      (tupI (diffs xs ys)) := by
  intro env X A s Q E S hA hi he hQ
  have hcd : env.code = .ref c.cw := by obtain ⟨_, _, V, _⟩ := he; exact V.code (S.scope.trans hsc)
  refine wpAny_Call_NameR (gt.eval G S hi.toIv ?_)
  refine callWith_of G (.type "tuple") (evalArgs_noStar (by rfl) ?_)
  refine spliced_cons ?_
  refine wpAny_GeneratorExp_make hco (closureFor_none hfree) hcell h0 hkind hA.depth ?_ (fun _ => rfl)
  refine wpAny_Call_NameR (gz.eval G S hi.toIv ?_)
  refine callWith_of G (.type "zip") (evalArgs_noStar (hst env p2) (h12 env X A s _ _ E S hA hi he fun vs s₁ t₁ r₁ => ⟨(hi.tr t₁).toIv, rfl, ?_⟩))
  cases r₁ with
  | cons ra r => cases r with
    | cons rb r =>
      cases r
      cases ra with
      | @tup l1 vs _ ha hva => cases rb with
        | @tup l2 ws _ hb' hvb =>
          have hi₁ := hi.tr t₁
          obtain ⟨n1, e1⟩ := ha.at_
          obtain ⟨n2, e2⟩ := hb'.at_
          have hvx : vs.length = xs.length := by rw [hva.length]; simp [lsI]
          have hwy : ws.length = ys.length := by rw [hvb.length]; simp [lsI]
          refine lift (call_zt (xs := vs.toArray) (ys := ws.toArray) ⟨_, e1, rfl, n1, rfl⟩ ⟨_, e2, rfl, n2, rfl⟩ fun h₂ hzt hk₂ hz₂ => ?_)
          have t₂ : Tr c X no no s₁ { s₁ with heap := h₂ } := Tr.grow (t := s₁.toks) hk₂
          have hi₂ := hi₁.tr t₂
          refine lift (wpAny_pyIter_zip hzt.1 ⟨hi₂.nolimit G, ?_⟩)
          refine gen_code (X := X) hi₂.toIv hcd hline hcol fun cd s₃ t₃ => ?_
          have hi₃ := hi₂.tr t₃
          obtain ⟨bm, ob, q1, q2, q3, q4, q5, q6⟩ := G.bmain
          refine wpAny_builtinsFor (by rw [S.glob]; exact hi₃.ns G G.g) q1 q2 (hi₃.get G q3 (by rw [q6]; intro z; cases z)) q4 q5 q6 ?_
          intro h' hn' hs'
          have hh : A.in1.in1.in1.handled = none := hA.1
          have hroom : A.in1.in1.in1.depth < recursionLimit := hA.depth
          have hszh : h'.objs.size = s₃.heap.objs.size + 1 := by rw [hs'.1, Heap.size_push]
          have keep' : ∀ b o, s₃.heap.get? b = some o → h'.get? b = some o := fun b o e => hs'.extBut b o (Nat.ne_of_lt (Heap.lt_size e)) (Heap.get?_push_of_some _ e)
          have T₄ : Tr c X no no s₃ { s₃ with heap := h' } := Tr.grow (t := s₃.toks) keep'
          refine spliced_nil ?_
          have T₅ := T₄.seq (Tr.newGen (c := c) (X := X) (W := no) (G := no) (s := { s₃ with heap := h' }) (x := GenState.fresh (Code.compStart (Expr.GeneratorExp (.BinOp (.BinOp (.Name "v" p8) .Sub (.Name "u" p9) p10) .Sub (.Constant (.int 1) m p11) p3) [⟨.Tuple [.Name "u" p4, .Name "v" p5] j p6, .Call (.Name "zip" p7) [e₁, e₂] [] p2, [], 0⟩] gsc gp) 0 (.ref (s₁.heap.objs.size + 4)) .none (genEnv gsc [] s₃.heap.objs.size cd builtinsNs env)))
            (o := ({ cls := .type "generator", data := .fields #[Value.int s₃.gens.size 0, Value.str "<genexpr>" (s₃.toks + 1), Value.str (env.qual ++ "<genexpr>") (s₃.toks + 1 + 1)] } : Obj)) (t := s₃.toks + 1 + 1 + 1) rfl)
          have T := ((t₁.seq t₂).seq t₃).seq T₅
          refine ⟨(hi.tr T).toIv, rfl, ?_⟩
          have AP := zip_apart s₁.heap.objs.size l1 l2 (Heap.lt_size e1) (Heap.lt_size e2)
          have hvw : vs.toArray.size = ws.toArray.size := by simp [hvx, hwy, hlen]
          have lowP : c.P < s₁.heap.objs.size := (hi₁.is_old hi₁.lowP).lt
          have W : ∀ A' : Around, A'.handled = none → WalksU PySem.Challenge.pw_iy0017_01 c.w A' (s₁.heap.objs.size + 4) [s₁.heap.objs.size + 4, s₁.heap.objs.size + 2, s₁.heap.objs.size + 3, s₁.heap.objs.size, s₁.heap.objs.size + 1, l1, l2] [s₁.heap.objs.size + 4, s₁.heap.objs.size + 3, s₁.heap.objs.size, s₁.heap.objs.size + 1] vs.toArray.size _ _ _ :=
            fun A' hA' => walks_zt hA' _ _ _ _ _ _ _ AP vs.toArray ws.toArray hvw
          have zt₃ := (W A hA.1).frame 0 h₂ s₃.heap hzt fun b hb o e => t₃.keep b o e (by
            rintro rfl
            rcases zfp_cases hb with h | h | h
            · exact Nat.not_le.mpr lowP h.1
            · exact ha.ne_P hi₁.toIv h.symm
            · exact SeqAt.ne_P hi₁.toIv hb' h.symm) (fun h => h.elim)
          have keep₅ : ∀ b o, s₃.heap.get? b = some o → (h'.push { cls := .type "generator", data := .fields #[Value.int s₃.gens.size 0, Value.str "<genexpr>" (s₃.toks + 1), Value.str (env.qual ++ "<genexpr>") (s₃.toks + 1 + 1)] }).get? b = some o := fun b o e => Heap.get?_push_of_some _ (keep' b o e)
          have N5 : s₁.heap.objs.size + 5 ≤ s₃.heap.objs.size := by
            have : s₁.heap.objs.size + 4 < s₃.heap.objs.size := Heap.lt_size zt₃.1
            omega
          have hcs : cStatics < s₁.heap.objs.size := let ⟨_, hn, _⟩ := hi₁.nolimit G; hn.lt
          have hcs₃ : cStatics < s₃.heap.objs.size := Nat.lt_of_lt_of_le hcs (Nat.le_trans (Nat.le_add_right _ 5) N5)
          have hfp : ∀ b ∈ [s₁.heap.objs.size + 4, s₁.heap.objs.size + 2, s₁.heap.objs.size + 3, s₁.heap.objs.size, s₁.heap.objs.size + 1, l1, l2], b ∈ List.range s₃.heap.objs.size := fun b hb => by
            refine List.mem_range.mpr (Nat.lt_of_lt_of_le ?_ N5)
            rcases zfp_cases hb with h | h | h
            · exact Nat.lt_succ_of_le h.2
            · rw [h]; exact Nat.lt_of_lt_of_le (Heap.lt_size e1) (Nat.le_add_right _ 5)
            · rw [h]; exact Nat.lt_of_lt_of_le (Heap.lt_size e2) (Nat.le_add_right _ 5)
          have hwr : ∀ b ∈ [s₁.heap.objs.size + 4, s₁.heap.objs.size + 3, s₁.heap.objs.size, s₁.heap.objs.size + 1], b ∈ List.range s₃.heap.objs.size ∧ s₁.heap.objs.size ≤ b := fun b hb => by
            exact ⟨List.mem_range.mpr (Nat.lt_of_lt_of_le (Nat.lt_succ_of_le (zwr_cases hb).2) N5), (zwr_cases hb).1⟩
          have hl₅ := (hi₃.nolimit G).keeps keep₅
          refine lift (tuple_fin (A := A) (WalksS.genexpQ (A := A.in1.in1.in1) hh h'.objs.size s₃.gens.size s₃.heap.objs.size (List.range s₃.heap.objs.size) [s₁.heap.objs.size + 4, s₁.heap.objs.size + 3, s₁.heap.objs.size, s₁.heap.objs.size + 1] (fun _ => true) vs.toArray.size
            (fun i y => ∃ x z t, xs[i]? = some x ∧ ys[i]? = some z ∧ y = .int (z - x - 1) t) (by rw [hszh]; exact Nat.succ_ne_self _) (fun hm => by have := List.mem_range.mp hm; omega) (fun b hb => (hwr b hb).1) hroom (List.mem_range.mpr hcs₃) (Nat.ne_of_lt hcs₃) (fun h => Nat.not_le.mpr hcs (hwr _ h).2)) (Last.genexp hh hroom) (fun i s st => st.1.typeIs) ?_ ?_ (by simp) ?_ fun s' acc hm hf hacc => ?_)
          · refine PySem.GenAt.freshT (A := A.in1.in1.in1) (cenv := genEnv gsc [] s₃.heap.objs.size cd builtinsNs env) (m := fun y => if y = ".0" then some (.ref (s₁.heap.objs.size + 4)) else none) hh
              (fun A' hA' => (W A' hA').mono_fp hfp) (fun i vals hp => by obtain ⟨x, y, _, _, rfl⟩ := hp; exact ⟨_, _, rfl⟩) (by decide) _ _ hu hv (by simp [genEnv, hkind]) hco (fun hm => Nat.lt_irrefl _ (List.mem_range.mp hm))
              ⟨fun A' E' i va vb s₂ m₂ hA' hp hn ha hb hk => wpAny_pure ⟨rfl, s₂.heap, s₂.toks, rfl, fun _ _ e => e⟩, fun A' E' i va vb s₂ m₂ hA' hp hpz hn hau hbv hk => ?_⟩ ⟨_, _, _, Heap.get?_push_size _ rfl, rfl, rfl, rfl⟩ (Array.getElem?_push_size ..)
              ((W A hA.1).frame _ _ _ zt₃ fun b _ o e => keep₅ b o e) (hn'.push _) hl₅
            obtain ⟨x, y, hx, hy, hxy⟩ := hp
            have hxy' : va = x ∧ vb = y := by simpa using hxy
            obtain ⟨rfl, rfl⟩ := hxy'
            obtain ⟨xi, tx, ex, rfl⟩ := ints_at hva (v := va) (by simpa using hx)
            obtain ⟨yi, ty, ey, rfl⟩ := ints_at hvb (v := vb) (by simpa using hy)
            refine wpAny_BinOp (wpAny_BinOp (wpAny_Name (wpAny_loadName_local hkind hv hn hbv ?_) (by decide)))
            refine wpAny_Name (wpAny_loadName_local hkind hu hn hau ?_) (by decide)
            refine PyProof.Rows.sub_int ?_
            refine wpAny_Constant_int ?_
            refine PyProof.Rows.sub_int ?_
            exact ⟨⟨xi, yi, _, ex, ey, rfl⟩, s₂.heap, _, rfl, fun _ _ e => e⟩
          · intro b hb
            have e : (h'.push { cls := .type "generator", data := .fields #[Value.int s₃.gens.size 0, Value.str "<genexpr>" (s₃.toks + 1), Value.str (env.qual ++ "<genexpr>") (s₃.toks + 1 + 1)] }).objs.size = s₃.heap.objs.size + 2 := by rw [Heap.size_push, hszh]
            show b < (h'.push _).objs.size
            rw [e]
            rcases List.mem_cons.mp hb with rfl | hb
            · rw [hszh]; exact Nat.lt_succ_self _
            · rcases List.mem_cons.mp hb with rfl | hb
              · exact Nat.lt_add_of_pos_right (by decide)
              · exact Nat.lt_of_lt_of_le (List.mem_range.mp hb) (Nat.le_add_right _ 2)
          · rw [passing_all, List.length_range]
            simp only [List.size_toArray, hvx]
            exact line_le hsz
          · have T' := tr_moved hi.toIv T hm hf (fun b hb hB => ?_) ((t₁.seq t₂).seq t₃).gsize
            · have hi' := hi.tr T'
              have r : RepL c X s'.heap acc.toList (lsI (diffs xs ys)) := repL_ints ?_ fun j v hv => ?_
              · have q := rep_push hi' r
                have ea : acc.toList.toArray = acc := by simp
                rw [ea] at q
                exact hQ _ _ (T'.seq (Tr.push (t := s'.toks))) q
              · have := hacc.1
                rw [passing_all, List.length_range] at this
                simp [this, diffs, hvx, hlen]
              · obtain ⟨i, hi1, x, z, t, ex, ey, rfl⟩ := hacc.2 j v (by simpa using hv)
                rw [passing_all] at hi1
                have hij : j = i := by
                  have h1 := (List.getElem?_eq_some_iff.mp hi1)
                  obtain ⟨h1, h2⟩ := h1
                  simpa using h2
                subst hij
                exact ⟨_, t, by simp [diffs, List.getElem?_zipWith, ex, ey], rfl⟩
            · have hb1 := (t₁.there _ hB).lt
              rcases List.mem_cons.mp hb with h | h
              · subst h; exact absurd hb1 (Nat.not_lt.mpr (Nat.le_trans (Nat.le_add_right _ 5) N5))
              · exact absurd hb1 (Nat.not_lt.mpr (zwr_cases h).1)
end
end Dio

namespace Dio
set_option tactic.hygienic false
open PySem PySem.W PySem.Calls PyProof.Rows
open Sem (wp)
set_option maxRecDepth 100000

/-! Zo. weak_composition_iter -/
noncomputable def dWk : DefRec := dd 3 (by decide)
theorem dWk_name : dWk.name = "weak_composition_iter" := by kernel_rfl
theorem dWk_bind (pm code doc : Value) (vs : List Value) (h : vs.length = 2) : bindArgs (docDef dWk.name dWk.params dWk.body dWk.scope pm code doc) ⟨vs, []⟩ = pure ((["n", "num_parts"] : List Str).zip vs) := by
  obtain ⟨u, v, rfl⟩ := len2 h
  kernel_rfl

noncomputable def wci (n : Int) : Nat → List (List Int)
  | 0 => if n = 0 then [[]] else []
  | p + 1 => (comb p 0 (n + p)).map fun t => diffs (-1 :: t) (t ++ [n + p])

noncomputable def unI (l : List D) : List Int := l.map fun d => match d with | .int i => i | _ => 0
theorem unI_lsI (l : List Int) : unI (lsI l) = l := by
  unfold unI lsI
  rw [List.map_map]
  exact (List.map_congr_left fun _ _ => rfl).trans (List.map_id l)

section
variable {c : Cx}
theorem Op2.cast' {k : Nat} {f : Value → Value → Sem Value} {d₁ d₂ d d' : D} (h : Op2 c k f d₁ d₂ d) (hd : d = d') : Op2 c k f d₁ d₂ d' := hd ▸ h
theorem wk_gen (G : Gnd c) (hsc : c.wsc = dWk.scope) (hpl : c.pl = 41) (hpc : c.pc = 20) (n : Int) (p : Nat) (hn : 0 ≤ n) (hn1 : n ≤ 100) (hp : p ≤ 100) :
    ∃ f, c.mg "weak_composition_iter" = some (.ref f) ∧ Callee c (.ref f) ∧ GenOk c (2 * p + 3) false (.ref f) [.int n, .int p] ((wci n p).map tupI) := by
  have body : Gz c (2 * p + 2) dWk.scope (bindR ["n", "num_parts"] [.int n, .int p] fun _ => none) dWk.body ((wci n p).map tupI) (fun o => (∃ ρ, o = .next ρ) ∨ o = .ret .none) := by
    rw [show dWk.body = bodyAt 4 from by kernel_rfl]
    have gtup : Glo c dWk.scope "tuple" (.type "tuple") := glo_builtin G (by kernel_rfl) (by kernel_rfl) (by kernel_rfl) (by kernel_rfl) (by decide) (by decide)
    have gzip : Glo c dWk.scope "zip" (.type "zip") := glo_builtin G (by kernel_rfl) (by kernel_rfl) (by kernel_rfl) (by kernel_rfl) (by decide) (by decide)
    refine Gz.ite (Tst.cmp (.name (by rfl)) (.int 0 _ _) (Op2.lt n 0)) (fun h => absurd (of_decide_eq_true h) (by omega)) fun _ => ?_
    refine Gz.ite (Tst.cmp (.name (by rfl)) (.int 0 _ _) (Op2.lt p 0)) (fun h => absurd (of_decide_eq_true h) (by omega)) fun _ => ?_
    refine Gz.ite (Tst.cmp (.name (by rfl)) (.int 0 _ _) (Op2.eq p 0)) (fun h => ?_) fun h => ?_
    · have hp0 : p = 0 := by have := of_decide_eq_true h
                             omega
      subst hp0
      refine Gz.ite (Tst.cmp (.name (by rfl)) (.int 0 _ _) (Op2.eq n 0)) (fun h => ?_) fun h => ?_
      · have hs : n = 0 := of_decide_eq_true h
        rw [show (wci n 0).map tupI = [tupI []] from by unfold wci; rw [if_pos hs]; rfl]
        exact Gz.yield (.call G gtup (.type _) .nil call_tuple0) (Gz.ret (.inr rfl)) (by kernel_rfl)
      · have hs : n ≠ 0 := of_decide_eq_false h
        rw [show (wci n 0).map tupI = [] from by unfold wci; rw [if_neg hs]; rfl]
        exact Gz.ret (.inr rfl)
    · have hp0 : (p : Int) ≠ 0 := of_decide_eq_false h
      obtain ⟨m, rfl⟩ : ∃ m, p = m + 1 := ⟨p - 1, by omega⟩
      have em : n + ((m + 1 : Nat) : Int) - 1 = n + m := by omega
      have em2 : ((m + 1 : Nat) : Int) - 1 = m := by omega
      refine Gz.assign (d := .int (n + m)) (.cast (.bin (.bin (.name (by rfl)) (.name (by rfl)) (Op2.add _ _)) (.int 1 _ _) (Op2.sub _ _)) (by rw [em])) (.name (by kernel_rfl)) ?_
      refine Gz.assign (.tupD (.cons (.name (by rfl)) .nil)) (.name (by kernel_rfl)) ?_
      refine Gz.assign (.tupD (.cons (.neg (.int 1 _ _)) .nil)) (.name (by kernel_rfl)) ?_
      obtain ⟨f, hf, hc, hgen⟩ := comb_gen G m 0 (n + m) (by omega) (by omega) (by omega) (by omega) (by omega)
      generalize hρ : (upd (upd _ _ _) _ _ : Rho) = ρ₀
      have q1 : ρ₀ "m" = some (.int (n + m)) := by rw [← hρ]; rfl
      have q2 : ρ₀ "num_parts" = some (.int (m + 1 : Nat)) := by rw [← hρ]; rfl
      have q3 : ρ₀ "first" = some (.tup [.int (-1)]) := by rw [← hρ]; rfl
      have q4 : ρ₀ "last" = some (.tup [.int (n + m)]) := by rw [← hρ]; rfl
      have q5 : ρ₀ "t" = none := by rw [← hρ]; rfl
      refine Gz.cast (Gz.for (ys := []) (f := fun d => match d with | .tup r => [tupI (diffs (-1 :: unI r) (unI r ++ [n + m]))] | _ => []) (fun _ => ρ₀)
        (EvI.gen (k := 2 * (m + 1) + 1) G (glo_def (by kernel_rfl) hf) hc (.cons (.int 0 _ _) (.cons (.name q1) (.cons (.bin (.name q2) (.int 1 _ _) (em2 ▸ Op2.sub _ _)) .nil))) (hgen.mono (by omega))) (Sub.refl _) (fun pre d ds hp => ?_) (Gz.nil (.inl ⟨_, rfl⟩))) ?_
      · obtain ⟨t, ht, rfl⟩ := cut_mem hp
        have hl := comb_len _ _ _ t ht
        have u1 : upd ρ₀ "t" (tupI t) "first" = some (tupI [-1]) := q3
        have u2 : upd ρ₀ "t" (tupI t) "last" = some (tupI [n + m]) := q4
        have u3 : upd ρ₀ "t" (tupI t) "t" = some (tupI t) := rfl
        refine ⟨_, .name (by kernel_rfl), Gz.yield (.cast (ev_weak (k := 2 * (m + 1) + 1) (xs := -1 :: t) (ys := t ++ [n + m]) G hsc.symm gtup gzip (.cons (.bin (.name u1) (.name u3) ?_) (.cons (.bin (.name u3) (.name u2) ?_) .nil)) ?_ ?_ ?_ ?_ ?_ ?_ ?_ ?_ ?_ ?_ ?_) (by rw [unI_lsI])) (Gz.nil ⟨_, rfl, sub_fresh q5⟩) (by kernel_rfl)⟩
        · exact Op2.addT [.int (-1)] (lsI t) (by simp [lsI, hl]; omega)
        · exact (Op2.addT (lsI t) [.int (n + m)] (by simp [lsI, hl]; omega)).cast' (by simp [tupI, lsI])
        · simp
        · simp [hl]; omega
        · rw [hpl]; rfl
        · rw [hpc]; rfl
        · rfl
        · rfl
        · decide
        · decide
        · decide
        · decide
        · decide
      · rw [List.append_nil, List.flatMap_map]
        show (comb m 0 (n + m)).flatMap (fun t => [tupI (diffs (-1 :: unI (lsI t)) (unI (lsI t) ++ [n + m]))]) = ((comb m 0 (n + m)).map fun t => diffs (-1 :: t) (t ++ [n + m])).map tupI
        rw [flatMap_one, List.map_map]
        exact List.map_congr_left fun t _ => by rw [unI_lsI]; rfl
  have := call_gen (k := 2 * p + 2) (d := dWk) (ns := ["n", "num_parts"]) (as := [.int n, .int p]) (as' := [.int n, .int p]) G (dd_mem ..) (scOk_of (by kernel_rfl)) (by kernel_rfl) (bind_plain fun pm code doc vs h => dWk_bind pm code doc vs h) (by omega) body
  rw [dWk_name] at this
  exact this
end
end Dio

namespace Dio
set_option tactic.hygienic false
open PySem PySem.W PySem.Calls PyProof.Rows
open Sem (wp)
set_option maxRecDepth 100000

/-! Zp. A body that raises at once; a generator that waits to run it -/
noncomputable def RaiseAt (c : Cx) (k : Nat) (sc : Scope) (ρ : Rho) (ss : List Stmt) : Prop :=
  ∀ (env : Env) (X : Addr → Prop) (A : Around) (s : Shared) (Q : Flow → Shared → Prop) (E : Value → Shared → Prop), EnvS sc env → okA k A → Ok c X s → EnvAt c X ρ env s.heap →
    (∀ s₁ h' e vs, Tr c X no no s s₁ → Heap.MadeExcOf s₁.heap h' e (.type "ValueError") vs → E (.ref e) { s₁ with heap := h' }) → wpAny (MF c) A (execs ss env) Q E s

section
variable {c : Cx} {k : Nat} {sc : Scope} {ρ : Rho}
theorem RaiseAt.ite {t : Expr} {body orelse rest : List Stmt} {pos : Pos} {x : Bool} (ht : Tst c k sc ρ t x) (hb : x = true → RaiseAt c k sc ρ (body ++ rest)) (ho : x = false → RaiseAt c k sc ρ (orelse ++ rest)) :
    RaiseAt c k sc ρ (.If t body orelse pos :: rest) := fun env X A s Q E S hA hi he hE => by
  rw [execs_If]
  refine wpAny_bind (wpAny_standAt (wpAny_bind (ht env X A s _ E S hA hi he fun s₁ t₁ => ?_)))
  cases x with
  | true => exact hb rfl env X A s₁ Q E S hA (hi.tr t₁) (he.step hi t₁) fun s₂ h' e vs t₂ hm => hE s₂ h' e vs (t₁.seq t₂) hm
  | false => exact ho rfl env X A s₁ Q E S hA (hi.tr t₁) (he.step hi t₁) fun s₂ h' e vs t₂ hm => hE s₂ h' e vs (t₁.seq t₂) hm

theorem RaiseAt.raise {np p cpos pos : Pos} {x : Str} {j : Nat} {rest : List Stmt} (G : Gnd c) (g : Glo c sc "ValueError" (.type "ValueError")) : RaiseAt c k sc ρ (.Raise (some (.Call (.Name "ValueError" np) [.Constant (.str x) j p] [] cpos)) none pos :: rest) :=
  fun env X A s Q E S hA hi he hE => by
    refine wpAny_execs_cons (lift (Raise_madeB PySem.F.excCall_ValueError PySem.F.excRaise_ValueError hA.1 ?_))
    have ev : ∀ {Q' : Value → Shared → Prop}, Q' (.type "ValueError") s → wpAny (model PySem.Challenge.pw_iy0017_01 c.w) A (eval (.Name "ValueError" np) env) Q' E s := fun {Q'} h => by
      refine Name_function_global (by rw [S.scope]; exact S.kind) (by rw [S.kindOf]; exact g.kind) ?_ g.nd
      rcases g.val with e | ⟨e1, e2⟩
      · exact loadGlobal_global (by rw [S.glob]; exact hi.ns G G.g) e h
      · exact loadGlobal_builtin (by rw [S.glob]; exact hi.ns G G.g) e1 (by rw [S.blt]; exact hi.ns G G.b) e2 h
    refine ev ⟨rfl, ?_⟩
    show wpAny _ A (spliced [(false, eval (.Constant (.str x) j p) env)]) _ E s
    refine Calls.spliced_cons (Calls.Constant_str (Calls.spliced_nil ⟨by show 1 ≤ sizeLine; decide, fun h' e hm => ?_⟩))
    exact hE { s with toks := s.toks + 1 } h' e _ (.toks _) ⟨hm.keeps, hm.new, hm.there⟩

/-- a new generator with its body and its frame -/
noncomputable def GenB (c : Cx) (sc : Scope) (ρ : Rho) (body : List Stmt) (f : Value) (as : List D) : Prop :=
  ∀ (X : Addr → Prop) (A : Around) (s : Shared) (vs : List Value) (Q : Value → Shared → Prop) (E : Value → Shared → Prop), okA 1 A → Ok c X s → RepL c X s.heap vs as →
    (∀ a g env s', Tr c X no no s s' → GenAt s'.heap a g → ¬ Is s.heap a → s'.gens[g]? = some (.fresh (.func body env)) → EnvS sc env → EnvAt c X ρ env s'.heap → env.frame = some env.locals → (∀ b, own env b → ¬ Is s.heap b) → ¬ own env a → s.gens.size ≤ g → Q (.ref a) s') →
    wpAny (MF c) A (call f vs []) Q E s

theorem call_genB {d : DefRec} {ns : List Str} {as : List D} (G : Gnd c) (hd : d ∈ recsOf q) (H : ScOk d.scope ns) (hgen : d.scope.isGenerator = true)
    (hbind : ∀ (pm code doc : Value) (vs : List Value), vs.length = as.length → bindArgs (docDef d.name d.params d.body d.scope pm code doc) ⟨vs, []⟩ = pure (ns.zip vs)) :
    ∃ a, c.mg d.name = some (.ref a) ∧ Callee c (.ref a) ∧ GenB c d.scope (bindR ns as fun _ => none) d.body (.ref a) as := by
  obtain ⟨a, o, pm, code, doc, h1, h2, h3, h4⟩ := G.fn d hd
  refine ⟨a, h1, .fn h2 h3, fun X A s vs Q E hA hi hr hQ => wpAny_call (codeAny_of_tree ?_)⟩
  have ho := hi.toIv.get G h2 (by rw [h3]; intro z; cases z)
  show wpAny _ A.in1 (callAny (.ref a) ⟨vs, []⟩) _ _ s
  simp only [callAny]
  refine wpAny_bind (wpAny_load ho ?_)
  obtain ⟨cc, oc, fs, tq, hc, hoc, hdc, hq⟩ := hi.toIv.code G h4
  have hco : (docDef d.name d.params d.body d.scope pm code doc).scope.isCoroutine = false := H.co
  have hgn : (docDef d.name d.params d.body d.scope pm code doc).scope.isGenerator = true := hgen
  have hcode : (docDef d.name d.params d.body d.scope pm code doc).code = .ref cc := hc
  have hbody : (docDef d.name d.params d.body d.scope pm code doc).body = .stmts d.body := rfl
  simp only [h3, callFunction, hco, hgn, hcode, hbody]
  refine wpAny_bind (m := field (.ref cc) 1) (wpAny_field hoc hdc hq (wpAny_bind (wpAny_pure ?_)))
  refine wpAny_bind (wpAny_of_eq (hbind pm code doc vs hr.length) ?_)
  refine wpAny_bind (frame_ok H hi hr (fun hw => hcode ▸ G.wfn d hd hw a o _ h1 h2 h3) fun env s₂ S he t₂ hown hfr _ _ => ?_)
  have hi₂ := hi.tr t₂
  refine wpAny_bind (wpAny_enterFrame (hi₂.toIv.nolimit G) hA.depth ?_)
  simp only [newGenerator, newFields]
  refine wpAny_bind (wpAny_bind (wpAny_newGen (wpAny_bind (wpAny_mkText (wpAny_bind (wpAny_mkText (wpAny_newObj_type (wpAny_pure ?_) (by size_fits))))))))
  have t₃ : Tr c X no no s₂ { s₂ with gens := s₂.gens.push (.fresh (.func d.body env)), toks := s₂.toks + 1 + 1, heap := s₂.heap.push { cls := .type "generator", data := .fields #[.int s₂.gens.size 0, .str d.name s₂.toks, .str d.name (s₂.toks + 1)] } } := Tr.newGen rfl
  have hno : ¬ Is s₂.heap s₂.heap.objs.size := not_is_size _
  exact hQ s₂.heap.objs.size s₂.gens.size env _ (t₂.seq t₃) ⟨_, _, _, Heap.get?_push_size _ rfl, rfl, rfl, fun n t h => by simp at h⟩ (fun h => hno (t₂.there _ h)) (by simp) S (he.tr hi₂.toIv t₃ fun _ _ h => h) hfr hown (fun h => hno (he.is h)) t₂.gsize
end
end Dio

namespace Dio
set_option tactic.hygienic false
open PySem PySem.W PySem.Calls PyProof.Rows
open Sem (wp)
set_option maxRecDepth 100000

/-! Zq. An error on its way through a generator -/
noncomputable abbrev VE : Value := .type "ValueError"

noncomputable def erase (h : Heap) : List Addr → Heap
  | [] => h
  | a :: N => (erase h N).update a fun o => { o with data := .freed }
theorem erase_in {h : Heap} : ∀ {N : List Addr} {b : Addr}, b ∈ N → (erase h N).get? b = none
  | a :: N, b, hb => by
    by_cases e : b = a
    · subst e
      show (((erase h N).update b fun o => { o with data := .freed }).get? b) = none
      generalize erase h N = k
      cases k with
      | mk objs life =>
        simp only [Heap.update, Heap.get?, Array.getElem?_modify, if_true]
        cases objs[b]? <;> rfl
    · exact (Heap.get?_update_other _ _ (Ne.symm e)).trans (erase_in ((List.mem_cons.mp hb).resolve_left e))
theorem erase_out {h : Heap} : ∀ {N : List Addr} {b : Addr}, b ∉ N → (erase h N).get? b = h.get? b
  | [], b, _ => rfl
  | a :: N, b, hb => (Heap.get?_update_other _ _ fun e : a = b => hb (e ▸ List.mem_cons_self)).trans (erase_out fun h => hb (List.mem_cons_of_mem _ h))
theorem erase_some {h : Heap} {N : List Addr} {b : Addr} {o : Obj} (e : (erase h N).get? b = some o) : h.get? b = some o := by
  by_cases hb : b ∈ N
  · rw [erase_in hb] at e; cases e
  · rw [erase_out hb] at e; exact e

/-- what is known of the heap while the error flies: all but N is as at the raise, K up to the marks of frames -/
noncomputable def FlyH (N K : List Addr) (l : List Env) (e : Addr) (hr h : Heap) : Prop :=
  ∃ base a0, Heap.FlyingW base l e VE a0 h ∧ (∀ b o, hr.get? b = some o → b ∉ N → base.get? b = some o) ∧ (∀ b ∈ N, base.get? b = none) ∧ (∀ b ∈ K, ∀ o, hr.get? b = some o → (∀ vs, o.data ≠ .fields vs) → ∃ sl, h.get? b = some { o with slots := sl })
noncomputable def HeldH (N K : List Addr) (l : List Env) (e L : Addr) (hr h : Heap) : Prop :=
  ∃ base a0, Heap.HeldW base l e VE a0 L h ∧ (∀ b o, hr.get? b = some o → b ∉ N → base.get? b = some o) ∧ (∀ b ∈ N, base.get? b = none) ∧ (∀ b ∈ K, ∀ o, hr.get? b = some o → (∀ vs, o.data ≠ .fields vs) → ∃ sl, h.get? b = some { o with slots := sl })

theorem slots_next {K : List Addr} {hr h h' : Heap} (k : ∀ b ∈ K, ∀ o, hr.get? b = some o → (∀ vs, o.data ≠ .fields vs) → ∃ sl, h.get? b = some { o with slots := sl }) (x : h.UpToSlots h') :
    ∀ b ∈ K, ∀ o, hr.get? b = some o → (∀ vs, o.data ≠ .fields vs) → ∃ sl, h'.get? b = some { o with slots := sl } := fun b hb o e hn =>
  let ⟨_, e₁⟩ := k b hb o e hn; let ⟨sl, e₂⟩ := x b _ e₁ hn; ⟨sl, e₂⟩

section
variable {M : Model} {A : Around} {E : Value → Shared → Prop} {s : Shared} {N K : List Addr} {e L : Addr} {hr : Heap} {env : Env} {outer l : List Env} {Q : Unit → Shared → Prop}
theorem fly_note (hfr : A.frames = some (env :: outer)) (hf : env.frame = some L) (x : FlyH N K (env :: outer) e hr s.heap) (hQ : ∀ h', HeldH N K (env :: outer) e L hr h' → Q () { s with heap := h' }) : wpAny M A (noteFrame (.ref e) env) Q E s := by
  obtain ⟨base, a0, f, h1, h2, h3⟩ := x
  exact wpAny_looks_onW hfr hf f fun h' hh hu => hQ h' ⟨base, a0, hh, h1, h2, slots_next h3 hu⟩
theorem held_note (hf : env.frame = some L) (x : HeldH N K l e L hr s.heap) (hQ : Q () s) : wpAny M A (noteFrame (.ref e) env) Q E s := by
  obtain ⟨base, a0, f, _⟩ := x
  exact wpAny_noteFrame_againW hf f.2.2.2 hQ
theorem held_land (x : HeldH N K l e L hr s.heap) (hQ : ∀ h', FlyH N K l e hr h' → Q () { s with heap := h' }) : wpAny M A (setFlight (.ref e) none) Q E s := by
  obtain ⟨base, a0, f, h1, h2, h3⟩ := x
  exact wpAny_landsW f fun h' hh hu => hQ h' ⟨base, a0, hh, h1, h2, slots_next h3 hu⟩
theorem note_same {env' : Env} (h : env'.frame = env.frame) (v : Value) : noteFrame v env' = noteFrame v env := by
  unfold noteFrame PySem.frameOf
  rw [h]
end

/-- a first segment that ends in an error -/
noncomputable def SegB (c : Cx) (A : Around) (P : Value → Shared → Prop) (cd : Code) (t : Sem Fin) (fs : List Frame) (s : Shared) : Prop :=
  ∀ Γ p, Γ.code = cd → Γ.Woken A → ∃ e s', Runs (MF c) Γ p t fs s e s' ∧ ∃ x, e = .ret (.error x) ∧ P x s'

section
variable {c : Cx} {A : Around} {P : Value → Shared → Prop} {cd : Code} {fs : List Frame} {s : Shared}
theorem segb_wrap {α : Type} {m : Sem α} {K : α → Sem Fin} {H : Value → Sem Fin} {gd lv} (h : wpAny (MF c) (A.over cd fs) m (fun a s' => SegB c A P cd (K a) fs s') (fun x s' => SegB c A P cd (H x) fs s') s) : SegB c A P cd (m.wrap K H gd lv) fs s := by
  rintro Γ p rfl hΓ
  exact runs_wrap_of_wp K H gd lv m (h (Γ.over fs) p (hΓ.over fs)) (fun a p' s' h' => h' Γ p' rfl hΓ) (fun x p' s' h' => h' Γ p' rfl hΓ)
theorem segb_point {l : List Value} {k' : Unit → Sem Fin} (h : SegB c A P cd (k' ()) fs s) : SegB c A P cd (.point l k') fs s :=
  segb_wrap (m := point) (K := k') (H := .raise) (gd := id) (lv := fun _ => l) (wpAny_point h)
theorem segb_end {x : Value} (h : P x s) : SegB c A P cd (.raise x) [] s := by
  rintro Γ p rfl _
  exact ⟨_, s, Runs.leaf (.error x), x, rfl, h⟩
theorem segb_func {body : List Stmt} {env : Env}
    (h : wpAny (MF c) (A.over (.func body env) []) (execs body env) (fun _ _ => False) (fun e s₁ => wpAny (MF c) (A.over (.func body env) []) (leaving env e) (fun _ s₂ => P e s₂) (fun _ _ => False) s₁) s) :
    SegB c A P (.func body env) (denF (.func body env)) [] s := by
  show SegB c A P _ (.point [] fun _ => ((execs body env).onRaise (leaving env)) >>= _) [] s
  refine segb_point ?_
  rw [Sem.onRaise_eq_wrap, Sem.bind_eq_wrap', Sem.wrap_wrap]
  rw [Sem.wrap_congr (execs body env) _ _ (K' := fun f => .pure (.done (.ret (match f with | .ret v => v | _ => .none))))
    (H' := fun e => (leaving env e).wrap (fun _ => .raise e) .raise id id) (fun f => by cases f <;> rfl)
    (fun e => by rw [Sem.bind_eq_wrap, Sem.wrap_wrap]; rfl)]
  exact segb_wrap (wpAny_mono h (fun _ _ h => h.elim) fun e s₁ h₁ => segb_wrap (wpAny_mono h₁ (fun _ s₂ h₂ => segb_end h₂) fun _ _ h => h.elim))

theorem wpAny_resumeB {α : Type} {E : Value → Shared → Prop} {g : Nat} {l : List Value} {kt : GenResult → Sem α} {Q : α → Shared → Prop} (hg : s.gens[g]? = some (.fresh cd))
    (hgo : SegB c A P cd (denF cd) [] (s.setGen g .running)) (h : ∀ x s₁, P x s₁ → wpAny (MF c) A (kt (.raised x)) Q E (s₁.setGen g .finished)) : wpAny (MF c) A (.resume g (.send .none) l kt) Q E s := by
  intro Γ p hΓ
  rw [Sem.wp_resume]
  obtain ⟨e₁, s₁, hr, x, rfl, he⟩ := hgo (Γ.wake cd p) p rfl (hΓ.wake cd p)
  exact ⟨_, _, by unfold Wakes; rw [hg]; exact ⟨_, s₁, hr, rfl, rfl, rfl⟩, h x s₁ he Γ p hΓ⟩
end
end Dio

namespace Dio
set_option tactic.hygienic false
open PySem PySem.W PySem.Calls PyProof.Rows
open Sem (wp)
set_option maxRecDepth 100000

/-! Zr. next() of a generator that raises at once -/
theorem okA.over {k : Nat} {A : Around} {body : List Stmt} {env : Env} (h : okA (k + 1) A) : okA k (A.over (.func body env) []) :=
  ⟨h.1, by have := h.2.1; show A.depth + 0 + 1 + k ≤ 900; omega, by have := h.2.2; show A.units + 0 + 3 + 8 * k ≤ 9000; omega⟩

noncomputable def FrOk (N : List Addr) (h : Heap) (env : Env) : Prop := env.scope.kind ≠ .module ∧ ∃ L m, env.frame = some L ∧ L ∈ N ∧ h.Ns L m
theorem fun_frames {N : List Addr} {h : Heap} : ∀ {l : List Env}, (∀ env ∈ l, FrOk N h env) → h.FunFrames (erase h N) l
  | [], _ => trivial
  | env :: l, hl => by
    obtain ⟨hk, L, m, hf, hm, o, es, ep, ho, hd, _⟩ := hl env List.mem_cons_self
    exact ⟨hk, ⟨L, o, hf, erase_in hm, ho, fun vs => by rw [hd]; intro z; cases z⟩, fun_frames fun env' h' => hl env' (List.mem_cons_of_mem _ h')⟩

section
variable {c : Cx} {k : Nat} {X : Addr → Prop}
theorem ns_tr {s s' : Shared} {L : Addr} {m : Str → Option Value} (hi : Iv c s) (t : Tr c X no no s s') (n : s.heap.Ns L m) : s'.heap.Ns L m := by
  refine n.at fun o e => t.keep L o e (fun hP => ?_) fun h => h.elim
  obtain ⟨o', es, ep, e', hd, _⟩ := n
  obtain ⟨ps, _, ht, _⟩ := hi.tab
  subst hP
  rw [ht.2] at e'
  cases e'
  cases hd
theorem FrOk.tr {s s' : Shared} {N : List Addr} {env : Env} (hi : Iv c s) (t : Tr c X no no s s') (x : FrOk N s.heap env) : FrOk N s'.heap env :=
  let ⟨hk, L, m, hf, hm, n⟩ := x; ⟨hk, L, m, hf, hm, ns_tr hi t n⟩

theorem next_boom {sc : Scope} {ρ : Rho} {body : List Stmt} {A : Around} {E : Value → Shared → Prop} {Q : Option Value → Shared → Prop} {s : Shared} {a : Addr} {g : Nat} {env4 : Env} {l : List Env} {N : List Addr} (G : Gnd c) (hb : RaiseAt c k sc ρ body) (hA : okA (k + 2) A) (hfr : A.frames = some l)
    (hi : Ok c X s) (hgen : GenAt s.heap a g) (hg : s.gens[g]? = some (.fresh (.func body env4))) (S : EnvS sc env4) (he : EnvAt c X ρ env4 s.heap) (hf : env4.frame = some env4.locals) (h4 : env4.locals ∈ N) (haN : a ∉ N) (hold : ¬ c.Old a) (hl : ∀ env ∈ l, FrOk N s.heap env)
    (hE : ∀ sr h e, Tr c X no no (s.setGen g .running) sr → FlyH N N l e sr.heap h → E (.ref e) { sr.setGen g .finished with heap := h }) : wpAny (MF c) A (pyNext (.ref a)) Q E s := by
  have hlt : g < s.gens.size := (Array.getElem?_eq_some_iff.mp hg).1
  have hi' : Ok c X (s.setGen g .running) := ⟨⟨hi.base, hi.tab, hi.os, hi.lowP, hi.lowC⟩, hi.xs⟩
  have hA1 : okA (k + 1) A.in1 := hA.in1
  unfold pyNext
  refine wpAny_bind (wpAny_attempt (wpAny_callSpecial?_slot (name := Str.ofString "__next__") hgen.typeIs slot_gen_next (callF_entry (by decide) slot_gen_next hgen.typeIs entry_gen_next ?_ (args_gen_next _))))
  show wpAny _ _ (Builtin.Generator.genWake (.ref a) (.send .none)) _ _ s
  unfold Builtin.Generator.genWake
  refine wpAny_bind (wpAny_holding (wpAny_genNumberZ hgen (wpAny_bind (wpAny_genState hg ?_))))
  refine wpAny_bind (wpAny_roomToWake (hi.toIv.nolimit G) hA.depth ?_)
  show wpAny (MF c) A.in1 (.resume g (.send .none) [] _) _ _ s
  refine wpAny_resumeB (P := fun x s₁ => ∃ sr h e, x = .ref e ∧ s₁ = { sr with heap := h } ∧ Tr c X no no (s.setGen g .running) sr ∧ FlyH N N l e sr.heap h) hg (segb_func ?_) fun x s₁ hx => ?_
  · refine hb env4 X _ (s.setGen g .running) _ _ S hA1.over hi' he fun sr h' e vs t hm => ?_
    have hfr4 : (A.in1.over (.func body env4) []).frames = some (env4 :: l) := by
      show pushEnvs [env4] (pushEnvs [] A.frames) = _
      rw [hfr]; rfl
    obtain ⟨m, _, V, _⟩ := he
    have fr : ∀ env ∈ env4 :: l, FrOk N sr.heap env := fun env hm' => by
      rcases List.mem_cons.mp hm' with rfl | hm'
      · exact ⟨by rw [S.scope, S.kind]; decide, _, m, hf, h4, ns_tr hi'.toIv t V.ns⟩
      · exact (hl env hm').tr (s := s.setGen g .running) hi'.toIv t
    refine wpAny_leaves_madeW (base := erase sr.heap N) (h := sr.heap) hfr4 hf (fun b o e => erase_some e) (fun_frames fr) hm fun h'' t' F _ _ hu => ⟨sr, h'', e, rfl, rfl, t, erase sr.heap N, .ref t', F, fun b o e hb => (erase_out hb).trans e, fun b hb => erase_in hb, fun b hb o e hn => ?_⟩
    exact hu b o (hm.keeps b o e) hn
  · obtain ⟨sr, h, e, rfl, rfl, t, F⟩ := hx
    have F' := F
    obtain ⟨base, a0, F1, F2, F3, F4⟩ := F
    obtain ⟨ox, hox, hcx⟩ := F1.there
    obtain ⟨o, nm, qn, ho, hc, hd, _⟩ := hgen
    have hoa : h.get? a = some o := F1.1 a o (F2 a o (t.keep a o ho (fun hP => hold (hP ▸ hi.lowP)) fun h => h.elim) haN)
    show wpAny (MF c) A.in1 (Builtin.Generator.genLeft (.ref a) (.ref e)) _ _ _
    unfold Builtin.Generator.genLeft Builtin.Generator.madeByALambda
    refine wpAny_bind (wpAny_bind (wpAny_load hoa (wpAny_pure ?_)))
    rw [hd, hc]
    refine wpAny_bind (wpAny_isInstance (T := "ValueError") (b := false) ⟨_, hox, hcx⟩ sub_VE_stop ?_)
    show wpAny (MF c) A.in1 (Builtin.Generator.genEscaped (.ref e)) _ _ _
    unfold Builtin.Generator.genEscaped
    refine wpAny_bind (wpAny_isInstance (T := "ValueError") (b := false) ⟨_, hox, hcx⟩ sub_VE_stop ?_)
    refine wpAny_throw ?_
    refine wpAny_bind (wpAny_isInstance (T := "ValueError") (b := false) ⟨_, hox, hcx⟩ sub_VE_stop ?_)
    exact wpAny_throw (hE sr h e t F')
end
end Dio

namespace Dio
set_option tactic.hygienic false
open PySem PySem.W PySem.Calls PyProof.Rows
open Sem (wp)
set_option maxRecDepth 100000

/-! Zs. A comprehension that an error leaves -/
section
variable {M : Model} {A : Around} {E : Value → Shared → Prop} {s : Shared} {N K : List Addr} {e L C : Addr} {hr : Heap} {env : Env} {outer l : List Env}

theorem held_pass {α : Type} {what : String} {Q : α → Shared → Prop} (hf : env.frame = some L) (x : HeldH N K l e L hr s.heap) (hE : ∀ h', HeldH N K l e L hr h' → E (.ref e) { s with heap := h' }) : wpAny M A (passOn what (.ref e) env) Q E s := by
  obtain ⟨base, a0, ⟨f1, f2, f3, oe, vs, T, oT, ts, he, hcls, hd, h1, hnT, hTe, hT, hdT, h3⟩, x2, x3, x4⟩ := x
  have hsz3 : 3 < ts.size := (Array.getElem?_eq_some_iff.mp h3).1
  unfold PySem.passOn
  refine wpAny_bind (wpAny_field he hd h1 ?_)
  rw [if_neg (show ¬ ((Value.ref T == Value.none) = true) from Bool.false_ne_true)]
  have other : ∀ b, b ≠ T → (s.heap.update T (Obj.mapFields (·.setIfInBounds 3 (rawInt L)))).get? b = s.heap.get? b := fun b hb => Heap.get?_update_other _ _ (Ne.symm hb)
  have noRecord : ∀ b o, s.heap.get? b = some o → (∀ vs, o.data ≠ .fields vs) → b ≠ T := fun b o hb hnf q => by
    rw [q, hT] at hb; injection hb with hb; subst hb; exact hnf ts hdT
  have hset : wpAny M A (setFlight (.ref e) env.frame) (fun _ s' => E (.ref e) s') E s := by
    unfold setFlight
    refine wpAny_bind (wpAny_field he hd h1 ?_)
    rw [if_pos (show (Value.ref T != Value.none) = true from by simp), hf]
    refine wpAny_setField hT hdT hsz3 (hE _ ⟨base, a0, ⟨fun b o hbo => (other b fun q => by rw [q, hnT] at hbo; cases hbo).trans (f1 b o hbo), f2, f3.of_keeps fun b o hb hnf => ⟨o, (other b (noRecord b o hb hnf)).trans hb, rfl⟩,
      oe, vs, T, _, _, (other e (Ne.symm hTe)).trans he, hcls, hd, h1, hnT, hTe, Heap.get?_update_self _ hT (Obj.isFreed_of_fields (Obj.data_mapFields hdT _)), Obj.data_mapFields hdT _, by simp [hsz3]⟩, x2, x3, fun b hb o ho hn => ?_⟩)
    obtain ⟨sl, hs⟩ := x4 b hb o ho hn
    exact ⟨sl, (other b (noRecord b _ hs hn)).trans hs⟩
  exact wpAny_bind (wpAny_mono hset (fun _ _ h => wpAny_throw h) fun _ _ h => h)

theorem comp_err {elt : Expr} {scope : Scope} {pos : Pos} {newAcc first : Sem Value} {g : Comprehension} {gs : List Comprehension} {cl : List (Str × Addr)} {Q : Value → Shared → Prop}
    (hcl : clausesOf elt = g :: gs) (hs : ∀ x, foldedSetIterable g.iter env x = pure x) (hclos : closureFor scope env = pure cl)
    (hkind : scope.kind = .function) (hnames : ∀ x ∈ scope.names, x.2 = .local → scope.names.lookup x.1 = some .local)
    (h : wpAny M A first (fun x s₁ => wpAny M A (pyIter x) (fun it s₂ => wpAny M A newAcc (fun acc s₃ =>
      wpAny M A (newFunctionEnv scope env.globals cl [] env.qual none .none (some env)) (fun cenv s₄ =>
        codeAny M A (.compStart elt 0 it acc { cenv with scope := relabel scope env }) (fun r s' => ∃ x m, r = .error x ∧ s'.heap.Ns cenv.locals m ∧ ∀ h', Heap.SameBut cenv.locals s'.heap h' →
          wpAny M A (passOn "comprehension.variables-let-go" x { cenv with scope := relabel scope env } : Sem Value) (fun _ _ => False) E { s' with heap := h' }) s₄) E s₃) E s₂) E s₁) E s) :
    wpAny M A (comprehension elt scope env pos newAcc false first) Q E s := by
  unfold comprehension
  rw [hclos, hcl]
  refine wpAny_bind (wpAny_mono h (fun x s₁ h₁ => wpAny_bind (wpAny_standAt (wpAny_bind (wpAny_of_eq (hs x) (wpAny_bind (wpAny_holding (wpAny_mono h₁ (fun it s₂ h₂ =>
    wpAny_standIf (wpAny_bind (wpAny_mono h₂ (fun acc s₃ h₃ => wpAny_bind (wpAny_pure (wpAny_bind (wpAny_mono h₃ (fun cenv s₄ h₄ => ?_) fun _ _ h' => h')))) fun _ _ h' => h')))
      fun _ _ h' => h'))))))) fun _ _ h' => h')
  dsimp only
  have hv : ∀ x ∈ (scope.names.filter fun x => (x.2 == .local || x.2 == .cell) && x.1 != (".0" : Str)).reverse, x.2 = .local →
      Env.kindOf { cenv with scope := relabel scope env } x.1 = some .local := fun x hx hl => lookup_relabel_local (hnames x (List.mem_filter.mp (List.mem_reverse.mp hx)).1 hl)
  refine wpAny_holding (wpAny_bind (wpAny_attempt (wpAny_holding (wpAny_run (codeAny_mono h₄ fun r s' hr => ?_)))))
  obtain ⟨x, m, rfl, hn, hr⟩ := hr
  exact wpAny_bind (wpAny_holding (wpAny_comp_letGo (cenv := { cenv with scope := relabel scope env }) hkind _ s' m hv hn fun h' m' _ hs' => wpAny_mono (hr h' hs') (fun _ _ f => f.elim) fun _ _ y => y))

/-- the names of the comprehension are let go -/
theorem held_but {h h' : Heap} {N K : List Addr} {m : Str → Option Value} (hC : h.Ns C m) (hs : Heap.SameBut C h h') (hCN : C ∈ N) (hl : ∀ env ∈ l, env.frame ≠ some C) (x : HeldH N K l e L hr h) : HeldH N (K.filter fun b => b ≠ C) l e L hr h' := by
  obtain ⟨base, a0, ⟨f1, f2, f3, oe, vs, T, oT, ts, he, hcls, hd, h1, hnT, hTe, hT, hdT, h3⟩, x2, x3, x4⟩ := x
  obtain ⟨oC, es, ep, hoC, hdC, _⟩ := hC
  have nC : ∀ b o vs, h.get? b = some o → o.data = .fields vs → b ≠ C := fun b o vs hb hdo q => by
    rw [q, hoC] at hb; cases hb; rw [hdC] at hdo; cases hdo
  have up : ∀ b o, b ≠ C → h.get? b = some o → h'.get? b = some o := fun b o hb e => (hs.2 b hb).trans e
  have ff : ∀ (l : List Env), (∀ env ∈ l, env.frame ≠ some C) → h.FunFrames base l → h'.FunFrames base l := by
    intro l
    induction l with
    | nil => intro _ _; trivial
    | cons env r ih =>
      intro hl ⟨hk, ⟨L, o, hf, hn, ho, hd⟩, hr⟩
      exact ⟨hk, ⟨L, o, hf, hn, up L o (fun q => hl env List.mem_cons_self (by rw [hf, q])) ho, hd⟩, ih (fun env' h' => hl env' (List.mem_cons_of_mem _ h')) hr⟩
  refine ⟨base, a0, ⟨fun b o hb => up b o (fun q => by rw [q, x3 C hCN] at hb; cases hb) (f1 b o hb), f2, ff l hl f3, oe, vs, T, oT, ts, up e oe (nC e oe vs he hd) he, hcls, hd, h1, hnT, hTe, up T oT (nC T oT ts hT hdT) hT, hdT, h3⟩, x2, x3, fun b hb o ho hn => ?_⟩
  rw [List.mem_filter] at hb
  obtain ⟨sl, hs'⟩ := x4 b hb.1 o ho hn
  exact ⟨sl, up b _ (by simpa using hb.2) hs'⟩
end
end Dio

namespace Dio
set_option tactic.hygienic false
open PySem PySem.W PySem.Calls PyProof.Rows
open Sem (wp)
set_option maxRecDepth 100000

/-! Zt. _law_told of a generator that raises at once -/
section
variable {N K : List Addr} {e L : Addr} {hr h : Heap} {l : List Env}
theorem HeldH.at {b : Addr} {o : Obj} (x : HeldH N K l e L hr h) (hb : b ∉ N) (ho : hr.get? b = some o) : h.get? b = some o := let ⟨_, _, f, x2, _⟩ := x; f.1 b o (x2 b o ho hb)
theorem FlyH.at {b : Addr} {o : Obj} (x : FlyH N K l e hr h) (hb : b ∉ N) (ho : hr.get? b = some o) : h.get? b = some o := let ⟨_, _, f, x2, _⟩ := x; f.1 b o (x2 b o ho hb)
theorem HeldH.ns {b : Addr} {m : Str → Option Value} (x : HeldH N K l e L hr h) (hb : b ∈ K) (hn : hr.Ns b m) : h.Ns b m := by
  obtain ⟨_, _, _, _, _, x4⟩ := x
  obtain ⟨o, es, ep, ho, hd, r⟩ := hn
  obtain ⟨sl, hs⟩ := x4 b hb o ho fun vs q => by rw [hd] at q; cases q
  exact ⟨_, es, ep, hs, hd, r⟩
theorem FlyH.ns {b : Addr} {m : Str → Option Value} (x : FlyH N K l e hr h) (hb : b ∈ K) (hn : hr.Ns b m) : h.Ns b m := by
  obtain ⟨_, _, _, _, _, x4⟩ := x
  obtain ⟨o, es, ep, ho, hd, r⟩ := hn
  obtain ⟨sl, hs⟩ := x4 b hb o ho fun vs q => by rw [hd] at q; cases q
  exact ⟨_, es, ep, hs, hd, r⟩
theorem fly_land {M : Model} {A : Around} {E : Value → Shared → Prop} {s : Shared} {Q : Unit → Shared → Prop} (x : FlyH N K l e hr s.heap) (hQ : ∀ h', FlyH N K l e hr h' → Q () { s with heap := h' }) : wpAny M A (setFlight (.ref e) none) Q E s := by
  obtain ⟨base, a0, ⟨f1, f2, f3, f4⟩, h1, h2, h3⟩ := x
  exact wpAny_setFlight_noneW f1 f3 f4.at fun h' k1 k2 k3 k4 => hQ h' ⟨base, a0, ⟨k1, f2, k2, k3⟩, h1, h2, slots_next h3 fun b o hb hn => ⟨o.slots, k4 b o hb hn⟩⟩
end

theorem in4 {P : Addr → Prop} {a b z d x : Addr} (ha : P a) (hb : P b) (hz : P z) (hd : P d) (h : x ∈ [a, b, z, d]) : P x := by
  cases h with
  | head => exact ha
  | tail _ h => cases h with
    | head => exact hb
    | tail _ h => cases h with
      | head => exact hz
      | tail _ h => cases h with
        | head => exact hd
        | tail _ h => cases h
theorem at0 {a : Addr} {l : List Addr} : a ∈ a :: l := .head _
theorem at2 {a b z : Addr} {l : List Addr} : z ∈ a :: b :: z :: l := .tail _ (.tail _ (.head _))
theorem at3 {a b z d : Addr} {l : List Addr} : d ∈ a :: b :: z :: d :: l := .tail _ (.tail _ (.tail _ (.head _)))
theorem in2 {P : Env → Prop} {a b x : Env} (ha : P a) (hb : P b) (h : x ∈ [a, b]) : P x := by
  cases h with
  | head => exact ha
  | tail _ h => cases h with
    | head => exact hb
    | tail _ h => cases h
theorem note_as {M : Model} {A : Around} {E : Value → Shared → Prop} {s : Shared} {Q : Unit → Shared → Prop} {env env' : Env} {v : Value} (h : env'.frame = env.frame) (hw : wpAny M A (noteFrame v env) Q E s) : wpAny M A (noteFrame v env') Q E s := by
  rw [note_same h]; exact hw
theorem exc_VE : isSubtype (.type "ValueError") (.type "BaseException") = pure true := by rw [isSubtype_type]; kernel_rfl
theorem nt_VE : isSubtype (.type ((Manifest.find? "ValueError").elim "type" fun x => x.metatype)) (.type "tuple") = pure false := by rw [isSubtype_type]; kernel_rfl
theorem self_VE : isSubtype (.type "ValueError") (.type "ValueError") = pure true := by rw [isSubtype_type]; kernel_rfl

section
variable {c : Cx} {k : Nat}

theorem told_boom {sc : Scope} {ρ : Rho} {body : List Stmt} (G : Gnd c) (hb : RaiseAt c k sc ρ body) : ∃ f, c.mg "_law_told" = some (.ref f) ∧ Callee c (.ref f) ∧
    ∀ (X : Addr → Prop) (A : Around) (s : Shared) (a : Addr) (g : Nat) (env1 env4 : Env) (L1 : Addr) (m1 : Str → Option Value) (Q : Value → Shared → Prop) (E : Value → Shared → Prop), okA (k + 3) A → A.frames = some [env1] → Ok c X s → GenAt s.heap a g → s.gens[g]? = some (.fresh (.func body env4)) →
      EnvS sc env4 → EnvAt c X ρ env4 s.heap → env4.frame = some env4.locals → ¬ c.Old a → env1.scope.kind ≠ .module → env1.frame = some L1 → ¬ c.Old L1 → s.heap.Ns L1 m1 →
      (∀ s', Tr c X (fun b => b = L1 ∨ b = env4.locals) (fun i => i = g) s s' → s'.heap.Ns L1 m1 → s'.gens[g]? = some .finished → Q .none s') → wpAny (MF c) A (call (.ref f) [.ref a] []) Q E s := by
  obtain ⟨f, o, pm, code, doc, h1, h2, h3, h4⟩ := G.fn dTo (dd_mem ..)
  rw [dTo_name] at h1
  refine ⟨f, h1, .fn h2 h3, fun X A s a g env1 env4 L1 m1 Q E hA hfr1 hi hgen hg S4 he4 hf4 hold hk1 hf1 holdL hn1 hQ => wpAny_call (codeAny_of_tree ?_)⟩
  have ho := hi.toIv.get G h2 (by rw [h3]; intro z; cases z)
  show wpAny _ A.in1 (callAny (.ref f) ⟨[.ref a], []⟩) _ _ s
  simp only [callAny]
  refine wpAny_bind (wpAny_load ho ?_)
  obtain ⟨cc, oc, fs, tq, hc, hoc, hdc, hq⟩ := hi.toIv.code G h4
  have hco : (docDef dTo.name dTo.params dTo.body dTo.scope pm code doc).scope.isCoroutine = false := by kernel_rfl
  have hgn : (docDef dTo.name dTo.params dTo.body dTo.scope pm code doc).scope.isGenerator = false := by kernel_rfl
  have hcode : (docDef dTo.name dTo.params dTo.body dTo.scope pm code doc).code = .ref cc := hc
  simp only [h3, callFunction, hco, hgn, hcode]
  refine wpAny_bind (m := field (.ref cc) 1) (wpAny_field hoc hdc hq (wpAny_bind (wpAny_pure ?_)))
  refine wpAny_bind (wpAny_of_eq (dTo_bind pm code doc [.ref a] rfl) ?_)
  have H : ScOk dTo.scope ["made"] := scOk_of (by kernel_rfl)
  refine wpAny_bind (frame_ok (ds := [.obj a]) H hi (.cons (.obj a) .nil) (fun hw => hcode ▸ G.wfn dTo (dd_mem ..) hw f o _ (by rw [dTo_name]; exact h1) h2 h3) fun env2 s₁ S he t₁ hown hf2 _ _ => ?_)
  have hi₁ := hi.tr t₁
  refine wpAny_bind (wpAny_enterFrame (hi₁.toIv.nolimit G) hA.depth (wpAny_pure (And.intro rfl (codeF_func ?_))))
  show wpAny (MF c) (A.deeper env2) (execs dTo.body env2) _ _ s₁
  rw [show dTo.body = bodyAt 10 from by kernel_rfl]
  have hA2 : okA (k + 2) (A.deeper env2) := okA.deeper (k := k + 2) hA
  have hfr2 : (A.deeper env2).frames = some [env2, env1] := by show A.frames.map _ = _; rw [hfr1]; rfl
  obtain ⟨m2, cm2, V2, hv2⟩ := id he
  refine wpAny_execs_cons (tryF ?_)
  refine wpAny_execs_cons (wpAny_Return_some ?_)
  rw [eval_ListComp]
  refine comp_err (cl := []) (g := ⟨_, _, _, _⟩) (gs := []) rfl (fun _ => rfl) (closureFor_none (by decide)) rfl (by decide) ?_
  refine wpAny_Name (he.load S (x := "made") (d := .obj a) (by rfl) fun v hv => ?_) (by decide)
  cases hv
  have haP : a ≠ c.P := fun hP => hold (hP ▸ hi.lowP)
  have gen_tr : ∀ {s' : Shared}, Tr c X no no s s' → GenAt s'.heap a g := fun t => hgen.at fun o e => t.keep a o e haP fun h => h.elim
  have hgen₁ := gen_tr t₁
  refine pyIter_gen hgen₁ ?_
  refine wpAny_newObj_type ?_ (by size_fits)
  refine wpAny_newFunctionEnv (by decide) (by intro y hy; simp at hy) (fun h₃ hns₃ hsb₃ => ?_) (by rfl)
  have keep₃ : ∀ b o, s₁.heap.get? b = some o → h₃.get? b = some o := fun b o e => hsb₃.extBut b o (Nat.ne_of_lt (Heap.lt_size (Heap.get?_push_of_some _ e))) (Heap.get?_push_of_some _ (Heap.get?_push_of_some _ e))
  have t₃ : Tr c X no no s₁ { s₁ with heap := h₃, toks := s₁.toks + ([] : List (Str × Value)).length } := Tr.grow keep₃
  dsimp only at hns₃ hsb₃ ⊢
  generalize hC : (s₁.heap.push { cls := .type "list", data := .seq ([] : List Value).toArray }).objs.size = C at hns₃ hsb₃ ⊢
  have hCs : ¬ Is s₁.heap C := fun h => by
    have := h.lt
    rw [← hC, Heap.size_push] at this
    exact Nat.lt_irrefl _ (Nat.lt_of_succ_lt this)
  generalize hs₃ : ({ s₁ with heap := h₃, toks := s₁.toks + ([] : List (Str × Value)).length } : Shared) = s₃ at t₃ ⊢
  have hns₃' : s₃.heap.Ns C (fun x => ([] : List (Str × Value)).reverse.lookup x) := by rw [← hs₃]; exact hns₃
  have T₃ := t₁.seq t₃
  have hi₃ := hi.tr T₃
  have hgen₃ := gen_tr T₃
  refine comp_start (g := ⟨_, _, _, _⟩) rfl rfl ?_ (fun Q E hq => pyIter_gen hgen₃ hq)
  refine codeAny_of_tree ?_
  rw [Around.under_of_weight (by rfl) (by rfl)]
  rw [show ∀ x, (MF c).den x = denF x from fun _ => rfl, den_one]
  refine wpAny_noted (wpAny_bind (wpAny_standAt (wpAny_bind ?_)))
  have hg₃ : s₃.gens[g]? = some (.fresh (.func body env4)) := T₃.gkeep g _ hg id
  have he4₃ := he4.tr hi.toIv T₃ fun _ _ h => h
  obtain ⟨m4, cm4, V4, _⟩ := id he4
  have nsa : ∀ {L : Addr} {m : Str → Option Value} {h : Heap}, h.Ns L m → GenAt h a g → a ≠ L := fun {L m h} n ga q => by
    obtain ⟨o, es, ep, e', hd, _⟩ := n
    obtain ⟨o', _, _, e'', _, hd', _⟩ := ga
    rw [← q, e''] at e'; cases e'
    rw [hd'] at hd; cases hd
  have n1₃ := ns_tr hi.toIv T₃ hn1
  have n2₃ := ns_tr hi₁.toIv t₃ V2.ns
  have n4₃ := ns_tr hi.toIv T₃ V4.ns
  have haN : a ∉ [L1, env2.locals, env4.locals, C] := fun h => in4 (P := fun x => a ≠ x) (nsa n1₃ hgen₃) (nsa n2₃ hgen₃) (nsa n4₃ hgen₃) (nsa hns₃' hgen₃) h rfl
  refine next_boom (N := [L1, env2.locals, env4.locals, C]) (l := [env2, env1]) G hb hA2 hfr2 hi₃ hgen₃ hg₃ S4 he4₃ hf4 at2 haN hold (fun env hm => ?_) fun sr h e t F => ?_
  · refine in2 ?_ ?_ hm
    · exact ⟨by rw [S.scope, S.kind]; decide, _, m2, hf2, .tail _ (.head _), n2₃⟩
    · exact ⟨hk1, L1, m1, hf1, at0, n1₃⟩
  have hi₃' : Ok c X (s₃.setGen g .running) := ⟨⟨hi₃.base, hi₃.tab, hi₃.os, hi₃.lowP, hi₃.lowC⟩, hi₃.xs⟩
  have hir := hi₃'.tr t
  have hC1 : C ≠ L1 := fun h => hCs (h ▸ let ⟨o, _, _, ho, _⟩ := ns_tr hi.toIv t₁ hn1; ⟨o, ho⟩)
  have hC2 : C ≠ env2.locals := fun h => hCs (h ▸ let ⟨o, _, _, ho, _⟩ := V2.ns; ⟨o, ho⟩)
  have hC4 : C ≠ env4.locals := fun h => hCs (h ▸ let ⟨o, _, _, ho, _⟩ := ns_tr hi.toIv t₁ V4.ns; ⟨o, ho⟩)
  refine note_as (env := env2) rfl ?_
  refine fly_note hfr2 hf2 F fun h' HH => ?_
  refine ⟨.ref e, _, rfl, HH.ns (b := C) at3 (ns_tr hi₃'.toIv t hns₃'), fun h'' hs'' => ?_⟩
  refine held_pass (L := env2.locals) (l := [env2, env1]) (N := [L1, env2.locals, env4.locals, C]) (K := [L1, env2.locals, env4.locals, C].filter fun b => b ≠ C) (hr := sr.heap) hf2 (held_but (HH.ns (b := C) at3 (ns_tr hi₃'.toIv t hns₃')) hs'' at3 (fun env hm => ?_) HH) fun h₄ HH₄ => ?_
  · refine in2 (P := fun env => env.frame ≠ some C) ?_ ?_ hm
    · show env2.frame ≠ some C
      rw [hf2]; exact fun h => hC2 (Option.some.inj h).symm
    · show env1.frame ≠ some C
      rw [hf1]; exact fun h => hC1 (Option.some.inj h).symm
  refine held_note hf2 HH₄ ?_
  refine held_land HH₄ fun h₅ F₅ => ?_
  refine lift (wpAny_handleBy_builtin (X := "ValueError") (T := "ValueError") (b := true) exc_VE nt_VE self_VE ?_)
  have hNold : ∀ b, c.Old b → b ∉ [L1, env2.locals, env4.locals, C] := fun b ho h => in4 (P := fun b => ¬ c.Old b) holdL V2.low V4.low (fun ho => hCs (hi₁.toIv.is_old ho)) h ho
  have gVE : Glo c dTo.scope "ValueError" (.type "ValueError") := glo_builtin G (by kernel_rfl) (by kernel_rfl) (by kernel_rfl) (by kernel_rfl) (by decide) (by decide)
  have old_ns : ∀ {L : Addr} {m : Str → Option Value}, c.hb.Ns L m → h₅.Ns L m := fun {L m} n => (hir.toIv.ns G n).at fun o e => F₅.at (hNold _ (let ⟨o, _, _, ho, _⟩ := n; ⟨o, ho⟩)) e
  have ev : ∀ {M : Model} {A' : Around} {E' Q' : Value → Shared → Prop} {s' : Shared} {p : Pos}, s'.heap = h₅ → Q' (.type "ValueError") s' → wpAny M A' (eval (.Name "ValueError" p) env2) Q' E' s' := fun {M A' E' Q' s' p} hh h => by
    refine Name_function_global (by rw [S.scope]; exact S.kind) (by rw [S.kindOf]; exact gVE.kind) ?_ gVE.nd
    rcases gVE.val with e | ⟨e1, e2⟩
    · exact loadGlobal_global (by rw [S.glob, hh]; exact old_ns G.g) e h
    · exact loadGlobal_builtin (by rw [S.glob, hh]; exact old_ns G.g) e1 (by rw [S.blt, hh]; exact old_ns G.b) e2 h
  refine ev rfl ⟨rfl, ?_, ?_⟩
  · obtain ⟨base, a0, f, _⟩ := F₅
    exact f.there
  rw [if_pos rfl]
  refine fly_land F₅ fun h₆ F₆ => ?_
  refine wpAny_execs_cons (wpAny_Return_some ?_)
  show wpAny _ _ (pure Value.none) _ _ _
  refine wpAny_pure ?_
  have tR : Tr c X no (fun i => i = g) s sr := ((T₃.mono (W' := no) (G' := fun i => i = g) (fun _ _ h => h) fun _ h => h.elim).then (Tr.setGen rfl)).then (t.mono (fun _ _ h => h) fun _ h => h.elim)
  have n1₆ : h₆.Ns L1 m1 := F₆.ns (b := L1) (by simp [hC1.symm]) (ns_tr hi₃'.toIv t n1₃)
  have n4₆ : h₆.Ns env4.locals m4 := F₆.ns (b := env4.locals) (by simp [hC4.symm]) (ns_tr hi₃'.toIv t n4₃)
  have up : ∀ b o, Is s.heap b → b ≠ L1 → b ≠ env4.locals → sr.heap.get? b = some o → h₆.get? b = some o := fun b o hI h1 h4 e => F₆.at (fun h => by
    simp only [List.mem_cons, List.not_mem_nil, or_false] at h
    rcases h with h | h | h | h
    · exact h1 h
    · exact hown _ (.inl rfl) (h ▸ hI)
    · exact h4 h
    · exact hCs (t₁.there _ (h ▸ hI))) e
  have hlt : g < sr.gens.size := Nat.lt_of_lt_of_le (Array.getElem?_eq_some_iff.mp hg).1 tR.gsize
  refine hQ _ ⟨fun b hb => ?_, fun b o e hP hW => ?_, fun h => (tR.tab h).at (fun o e => F₆.at (hNold _ hi.lowC) e) (fun o e => F₆.at (hNold _ hi.lowP) e), ?_, fun i x e hn => ?_, fun i x e hle hn => ?_, tR.os⟩ n1₆ (setGen_self .finished hlt)
  · by_cases b1 : b = L1
    · subst b1; obtain ⟨o, _, _, ho, _⟩ := n1₆; exact ⟨o, ho⟩
    · by_cases b4 : b = env4.locals
      · rw [b4]; obtain ⟨o, _, _, ho, _⟩ := n4₆; exact ⟨o, ho⟩
      · obtain ⟨o, e⟩ := tR.there b hb
        exact ⟨o, up b o hb b1 b4 e⟩
  · by_cases b1 : b = L1
    · subst b1
      exact (hW (.inl rfl)).elim (fun h => absurd h holdL) fun h => absurd h.1 (ns_notFrozen hn1 o e)
    · by_cases b4 : b = env4.locals
      · subst b4
        exact (hW (.inr rfl)).elim (fun h => absurd h V4.low) fun h => absurd h.1 (ns_notFrozen V4.ns o e)
      · exact up b o ⟨o, e⟩ b1 b4 (tR.keep b o e hP fun h => h.elim)
  · exact Nat.le_trans tR.gsize (Nat.le_of_eq (setGen_size sr g .finished).symm)
  · exact (setGen_ne (s := sr) .finished hn).trans (tR.gkeep i x e hn)
  · exact tR.gnew i x ((setGen_ne (s := sr) .finished hn).symm.trans e) hle hn
end
end Dio

namespace Dio
set_option tactic.hygienic false
open PySem PySem.W PySem.Calls PyProof.Rows
open Sem (wp)
set_option maxRecDepth 100000

/-! Zu. at the level of law: an expression that may mark its own frame -/
noncomputable def EvW (c : Cx) (k : Nat) (sc : Scope) (ρ : Rho) (e : Expr) (d : D) : Prop :=
  ∀ (env : Env) (X : Addr → Prop) (A : Around) (s : Shared) (Q : Value → Shared → Prop) (E : Value → Shared → Prop), EnvS sc env → okA k A → A.frames = some [env] → env.frame = some env.locals → Ok c X s → EnvAt c X ρ env s.heap →
    (∀ v s', Tr c X (own env) no s s' → EnvAt c X ρ env s'.heap → Rep c X s'.heap v d → Q v s') → wpAny (MF c) A (eval e env) Q E s

section
variable {c : Cx} {k : Nat} {sc : Scope} {ρ : Rho}
theorem ev_boom {nm : Str} {p p1 pos pos1 : Pos} {es : List Expr} {as : List D} {f : Value} {scg : Scope} {ρg : Rho} {body : List Stmt} (G : Gnd c) (hk : sc.names.lookup ("_law_told" : Str) = some NameKind.globalImplicit)
    (g : Glo c sc nm f) (hc : Callee c f) (ha : EvL c (k + 3) sc ρ es as) (hg : GenB c scg ρg body f as) (hb : RaiseAt c k scg ρg body) (hst : NoStar es := by intro _ _; rfl) :
    EvW c (k + 3) sc ρ (.Call (.Name "_law_told" p) [.Call (.Name nm p1) es [] pos1] [] pos) .none := by
  intro env X A s Q E S hA hfr hf hi he hQ
  obtain ⟨ft, hft, hct, hcall⟩ := told_boom G hb
  refine wpAny_Call_NameR ((glo_def hk hft).eval G S hi.toIv ?_)
  refine callWith_of G hct ?_
  refine Calls.evalArgs_plain (Calls.spliced_cons ?_)
  refine wp_call G g hc ha S hA hi he (fun vs s₁ t₁ r₁ => ?_) hst
  refine hg X A s₁ vs _ E (hA.less (by omega)) (hi.tr t₁) r₁ fun a gi env4 s₂ t₂ hgen hna hgs S4 he4 hf4 hown4 hoa hgi => ?_
  have t₁₂ := t₁.seq t₂
  have hi₂ := hi.tr t₁₂
  have he₂ := he.step hi t₁₂
  refine Calls.spliced_nil ⟨hi₂.toIv, rfl, ?_⟩
  obtain ⟨m, cm, V, hv⟩ := id he₂
  have hn4 : ¬ Is s.heap env4.locals := fun h => hown4 _ (.inl rfl) (t₁.there _ h)
  refine hcall X A s₂ a gi env env4 env.locals m Q E hA hfr hi₂ hgen hgs S4 he4 hf4 (fun ho => hna ((hi.tr t₁).toIv.is_old ho)) (by rw [S.scope, S.kind]; decide) hf V.low V.ns fun s₃ T n₃ fin => ?_
  have T' : Tr c X (own env) (fun i => i = gi) s s₃ := (t₁₂.mono (fun _ _ h => h.elim) fun _ h => h.elim).trans T (fun b hI h => h.elim (fun h => .inl h) fun (h : b = env4.locals) => absurd (h ▸ hI) hn4) (fun _ _ h => h) fun _ _ h => h.elim id id
  have T₀ : Tr c X (own env) no s s₃ := T'.close (fun i (h : i = gi) => h ▸ Nat.le_trans t₁.gsize hgi) fun i x e (h : i = gi) _ => by
    subst h; rw [fin] at e; cases e; rfl
  refine hQ .none s₃ T₀ ⟨m, cm, ⟨n₃, fun x b hx => ?_, V.apart, V.low, V.lowc, V.code⟩, fun x d hd => ?_⟩ .none
  · obtain ⟨o, ho, hd⟩ := V.cell x b hx
    have hbs : Is s.heap b := he.is (.inr ⟨x, hx⟩)
    refine ⟨o, T.keep b o ho (fun h => V.lowc x b (mem_of_lookup hx) (h ▸ hi.lowP)) fun h => ?_, hd⟩
    rcases h with rfl | rfl
    · obtain ⟨o', es', ep, ho', hd', _⟩ := V.ns
      rw [ho] at ho'; cases ho'
      rw [hd] at hd'; cases hd'
    · exact absurd hbs hn4
  · obtain ⟨v, hr, h1⟩ := hv x d hd
    exact ⟨v, hr.tr hi₂.toIv T, h1⟩

theorem Ev.w {e : Expr} {d : D} (h : Ev c k sc ρ e d) : EvW c k sc ρ e d := fun env X A s Q E S hA _ _ hi he hQ =>
  h env X A s Q E S hA hi he fun v s' t r => hQ v s' t.ownL (he.step hi t) r
end
end Dio

namespace Dio
set_option tactic.hygienic false
open PySem PySem.W PySem.Calls PyProof.Rows
open Sem (wp)
set_option maxRecDepth 100000

/-! Zv. the three bodies that raise -/
section
variable {c : Cx} {k : Nat}
theorem RaiseAt.iteT {sc : Scope} {ρ : Rho} {t : Expr} {body orelse rest : List Stmt} {pos : Pos} (ht : Tst c k sc ρ t true) (hb : RaiseAt c k sc ρ (body ++ rest)) : RaiseAt c k sc ρ (.If t body orelse pos :: rest) :=
  RaiseAt.ite ht (fun _ => hb) fun h => by cases h
theorem RaiseAt.iteF {sc : Scope} {ρ : Rho} {t : Expr} {body orelse rest : List Stmt} {pos : Pos} (ht : Tst c k sc ρ t false) (hb : RaiseAt c k sc ρ (orelse ++ rest)) : RaiseAt c k sc ρ (.If t body orelse pos :: rest) :=
  RaiseAt.ite ht (fun h => by cases h) fun _ => hb

theorem fiv_boom (G : Gnd c) (v : List Int) (s : Int) (hs : s < 0) : ∃ f, c.mg "fixed_integer_vector_iter" = some (.ref f) ∧ Callee c (.ref f) ∧ GenB c dFv.scope (bindR ["max_vector", "vector_sum"] [tupI v, .int s] fun _ => none) dFv.body (.ref f) [tupI v, .int s] ∧
    RaiseAt c k dFv.scope (bindR ["max_vector", "vector_sum"] [tupI v, .int s] fun _ => none) dFv.body := by
  have gVE : Glo c dFv.scope "ValueError" (.type "ValueError") := glo_builtin G (by kernel_rfl) (by kernel_rfl) (by kernel_rfl) (by kernel_rfl) (by decide) (by decide)
  obtain ⟨f, h1, h2, h3⟩ := call_genB (d := dFv) (ns := ["max_vector", "vector_sum"]) (as := [tupI v, .int s]) G (dd_mem ..) (scOk_of (by kernel_rfl)) (by kernel_rfl) (fun pm code doc vs h => dFv_bind pm code doc vs h)
  rw [dFv_name] at h1
  refine ⟨f, h1, h2, h3, ?_⟩
  rw [show dFv.body = bodyAt 3 from by kernel_rfl]
  exact RaiseAt.iteT (.cast (Tst.cmp (.name (by rfl)) (.int 0 _ _) (Op2.lt s 0)) (decide_eq_true hs)) (RaiseAt.raise G gVE)

theorem wk_boom (G : Gnd c) (n p : Int) (hs : n < 0 ∨ p < 0) : ∃ f, c.mg "weak_composition_iter" = some (.ref f) ∧ Callee c (.ref f) ∧ GenB c dWk.scope (bindR ["n", "num_parts"] [.int n, .int p] fun _ => none) dWk.body (.ref f) [.int n, .int p] ∧
    RaiseAt c k dWk.scope (bindR ["n", "num_parts"] [.int n, .int p] fun _ => none) dWk.body := by
  have gVE : Glo c dWk.scope "ValueError" (.type "ValueError") := glo_builtin G (by kernel_rfl) (by kernel_rfl) (by kernel_rfl) (by kernel_rfl) (by decide) (by decide)
  obtain ⟨f, h1, h2, h3⟩ := call_genB (d := dWk) (ns := ["n", "num_parts"]) (as := [.int n, .int p]) G (dd_mem ..) (scOk_of (by kernel_rfl)) (by kernel_rfl) (fun pm code doc vs h => dWk_bind pm code doc vs h)
  rw [dWk_name] at h1
  refine ⟨f, h1, h2, h3, ?_⟩
  rw [show dWk.body = bodyAt 4 from by kernel_rfl]
  refine RaiseAt.ite (Tst.cmp (.name (by rfl)) (.int 0 _ _) (Op2.lt n 0)) (fun _ => RaiseAt.raise G gVE) fun h => ?_
  have hn := of_decide_eq_false h
  exact RaiseAt.iteT (.cast (Tst.cmp (.name (by rfl)) (.int 0 _ _) (Op2.lt p 0)) (decide_eq_true (by omega))) (RaiseAt.raise G gVE)

theorem bs_boom (G : Gnd c) (a b n : Int) (hs : a ≤ 0 ∨ b ≤ 0 ∨ n < 0) : ∃ f, c.mg "base_solution_linear" = some (.ref f) ∧ Callee c (.ref f) ∧ GenB c dBs.scope (bindR ["a", "b", "c"] [.int a, .int b, .int n] fun _ => none) dBs.body (.ref f) [.int a, .int b, .int n] ∧
    RaiseAt c k dBs.scope (bindR ["a", "b", "c"] [.int a, .int b, .int n] fun _ => none) dBs.body := by
  have gVE : Glo c dBs.scope "ValueError" (.type "ValueError") := glo_builtin G (by kernel_rfl) (by kernel_rfl) (by kernel_rfl) (by kernel_rfl) (by decide) (by decide)
  obtain ⟨f, h1, h2, h3⟩ := call_genB (d := dBs) (ns := ["a", "b", "c"]) (as := [.int a, .int b, .int n]) G (dd_mem ..) (scOk_of (by kernel_rfl)) (by kernel_rfl) (fun pm code doc vs h => dBs_bind pm code doc vs h)
  rw [dBs_name] at h1
  refine ⟨f, h1, h2, h3, ?_⟩
  rw [show dBs.body = bodyAt 6 from by kernel_rfl]
  refine RaiseAt.ite (Tst.or (Tst.cmp (.name (by rfl)) (.int 0 _ _) (Op2.le a 0)) fun _ => Tst.cmp (.name (by rfl)) (.int 0 _ _) (Op2.le b 0)) (fun _ => RaiseAt.raise G gVE) fun h => ?_
  rw [Bool.or_eq_false_iff] at h
  have ha := of_decide_eq_false h.1
  have hb := of_decide_eq_false h.2
  exact RaiseAt.iteT (.cast (Tst.cmp (.name (by rfl)) (.int 0 _ _) (Op2.lt n 0)) (decide_eq_true (by omega))) (RaiseAt.raise G gVE)
end
end Dio

namespace Dio
set_option tactic.hygienic false
open PySem PySem.W PySem.Calls PyProof.Rows
open Sem (wp)
set_option maxRecDepth 100000

/-! Zw. statements at the level of law -/
noncomputable def TstW (c : Cx) (k : Nat) (sc : Scope) (ρ : Rho) (e : Expr) (b : Bool) : Prop :=
  ∀ (env : Env) (X : Addr → Prop) (A : Around) (s : Shared) (Q : Bool → Shared → Prop) (E : Value → Shared → Prop), EnvS sc env → okA k A → A.frames = some [env] → env.frame = some env.locals → Ok c X s → EnvAt c X ρ env s.heap →
    (∀ s', Tr c X (own env) no s s' → EnvAt c X ρ env s'.heap → Q b s') → wpAny (MF c) A (isTrue e env (eval e env)) Q E s
noncomputable def ExW (c : Cx) (k : Nat) (sc : Scope) (ρ : Rho) (ss : List Stmt) (R : D → Prop) : Prop :=
  ∀ (env : Env) (X : Addr → Prop) (A : Around) (s : Shared) (Q : Flow → Shared → Prop) (E : Value → Shared → Prop), EnvS sc env → okA k A → A.frames = some [env] → env.frame = some env.locals → Ok c X s → EnvAt c X ρ env s.heap →
    (∀ d v s', Tr c X (own env) no s s' → R d → Rep c X s'.heap v d → Q (.ret v) s') → wpAny (MF c) A (execs ss env) Q E s

section
variable {c : Cx} {k : Nat} {sc : Scope} {ρ : Rho}
theorem EvW.cmp {op : CmpOp} {l r : Expr} {pos : Pos} {d₁ d₂ d : D} (h₁ : EvW c k sc ρ l d₁) (h₂ : Ev c k sc ρ r d₂) (h : Op2 c k (compareOp op) d₁ d₂ d) (hm : behindInMarks op r = false := by with_unfolding_all rfl) : EvW c k sc ρ (.Compare l [op] [r] pos) d :=
  fun env X A s Q E S hA hfr hf hi he hQ => wpAny_Compare1 (h₁ env X A s _ E S hA hfr hf hi he fun v₁ s₁ t₁ e₁ r₁ => h₂ env X A s₁ _ E S hA (hi.tr t₁) e₁ fun v₂ s₂ t₂ r₂ =>
    h X A s₂ v₁ v₂ Q E hA ((hi.tr t₁).tr t₂) (r₁.tr (hi.tr t₁).toIv t₂) r₂ fun v s' t r => hQ v s' ((t₁.then t₂.ownL).then t.ownL) ((e₁.step (hi.tr t₁) t₂).step ((hi.tr t₁).tr t₂) t) r) hm
theorem TstW.cmp {op : CmpOp} {l r : Expr} {pos : Pos} {d₁ d₂ : D} {b : Bool} (h₁ : EvW c k sc ρ l d₁) (h₂ : Ev c k sc ρ r d₂) (h : Op2 c k (compareOp op) d₁ d₂ (.bool b)) (hm : behindInMarks op r = false := by with_unfolding_all rfl) : TstW c k sc ρ (.Compare l [op] [r] pos) b :=
  fun env X A s Q E S hA hfr hf hi he hQ => wpAny_isTrue_Compare1 (h₁ env X A s _ E S hA hfr hf hi he fun v₁ s₁ t₁ e₁ r₁ => h₂ env X A s₁ _ E S hA (hi.tr t₁) e₁ fun v₂ s₂ t₂ r₂ =>
    h X A s₂ v₁ v₂ _ E hA ((hi.tr t₁).tr t₂) (r₁.tr (hi.tr t₁).toIv t₂) r₂ fun v s' t r => by
      cases r
      exact wpAny_truthy_bool (hQ s' ((t₁.then t₂.ownL).then t.ownL) ((e₁.step (hi.tr t₁) t₂).step ((hi.tr t₁).tr t₂) t))) hm
theorem Tst.w {e : Expr} {b : Bool} (h : Tst c k sc ρ e b) : TstW c k sc ρ e b := fun env X A s Q E S hA _ _ hi he hQ => h env X A s Q E S hA hi he fun s' t => hQ s' t.ownL (he.step hi t)

theorem ExW.ret {e : Expr} {pos : Pos} {rest : List Stmt} {d : D} {R : D → Prop} (h : EvW c k sc ρ e d) (hR : R d) : ExW c k sc ρ (.Return (some e) pos :: rest) R :=
  fun env X A s Q E S hA hfr hf hi he hQ => wpAny_execs_cons (wpAny_Return_some (h env X A s _ E S hA hfr hf hi he fun v s' t _ r => hQ d v s' t hR r))
theorem ExW.assign {e t : Expr} {pos : Pos} {rest : List Stmt} {d : D} {ρ' : Rho} {R : D → Prop} (h : EvW c k sc ρ e d) (ht : As c k sc ρ t d ρ') (hr : ExW c k sc ρ' rest R)
    (hs : ∀ env, swapsWithSole [t] e pos.line env = pure false := by intro _; rfl) (hw : ∀ env, swappedStores [t] e env = pure none := by intro _; rfl) (ha : ∀ env, assignEach [t] env = [(false, assign t env)] := by intro _; rfl) : ExW c k sc ρ (.Assign [t] e pos :: rest) R :=
  fun env X A s Q E S hA hfr hf hi he hQ => wpAny_execs_cons (wpAny_Assign_stores (h env X A s _ E S hA hfr hf hi he fun v s₁ t₁ e₁ r₁ => by
    rw [ha env]
    exact ht env X A s₁ v _ E S hA (hi.tr t₁) e₁ r₁ fun s₂ t₂ e₂ =>
      hr env X A s₂ Q E S hA hfr hf ((hi.tr t₁).tr t₂) e₂ fun d' v' s' t' hR r => hQ d' v' s' ((t₁.then t₂).then t') hR r) (hs env) (hw env))
theorem ExW.ite {t : Expr} {body orelse rest : List Stmt} {pos : Pos} {x : Bool} {R : D → Prop} (ht : TstW c k sc ρ t x) (hb : x = true → ExW c k sc ρ (body ++ rest) R) (ho : x = false → ExW c k sc ρ (orelse ++ rest) R) :
    ExW c k sc ρ (.If t body orelse pos :: rest) R := fun env X A s Q E S hA hfr hf hi he hQ => by
  rw [execs_If]
  refine wpAny_bind (wpAny_standAt (wpAny_bind (ht env X A s _ E S hA hfr hf hi he fun s₁ t₁ e₁ => ?_)))
  cases x with
  | true => exact hb rfl env X A s₁ Q E S hA hfr hf (hi.tr t₁) e₁ fun d v s' t' hR r => hQ d v s' (t₁.then t') hR r
  | false => exact ho rfl env X A s₁ Q E S hA hfr hf (hi.tr t₁) e₁ fun d v s' t' hR r => hQ d v s' (t₁.then t') hR r
/-- statements that mark nothing go ahead -/
theorem ExW.plain {ss rest : List Stmt} {R : D → Prop} {R' : Out → Prop} (h : Ex c k sc ρ ss R') (hn : ∀ ρ', R' (.next ρ') → ExW c k sc ρ' rest R) (hr : ∀ d, R' (.ret d) → R d) : ExW c k sc ρ (ss ++ rest) R :=
  fun env X A s Q E S hA hfr hf hi he hQ => by
    rw [execs_append]
    refine wpAny_bind (h env X A s _ E S hA hi he fun o fl s₁ t₁ hR ho => ?_)
    cases ho with
    | next e₁ => exact hn _ hR env X A s₁ Q E S hA hfr hf (hi.tr t₁) e₁ fun d v s' t' hR r => hQ d v s' (t₁.then t') hR r
    | ret r => exact wpAny_pure (hQ _ _ s₁ t₁ (hr _ hR) r)
end
end Dio

namespace Dio
set_option tactic.hygienic false
open PySem PySem.W PySem.Calls PyProof.Rows
open Sem (wp)
set_option maxRecDepth 100000

/-! Zx. the sort's tree, in plain terms -/
noncomputable def Holds {α : Type} (n : Nat) (lt : Nat → Nat → Bool) : KasT α → (α → Prop) → Prop
  | .ret a, Q => Q a
  | .ask i j k, Q => (i < n ∧ j < n) ∧ Holds n lt (k (lt i j)) Q
theorem Holds.mono {α : Type} {n : Nat} {lt : Nat → Nat → Bool} {Q Q' : α → Prop} (hq : ∀ a, Q a → Q' a) : ∀ {t : KasT α}, Holds n lt t Q → Holds n lt t Q'
  | .ret a, h => hq a h
  | .ask i j k, h => ⟨h.1, Holds.mono (t := k (lt i j)) hq h.2⟩
theorem Holds.bind {α β : Type} {n : Nat} {lt : Nat → Nat → Bool} {Q : β → Prop} {f : α → KasT β} : ∀ {t : KasT α}, Holds n lt t (fun a => Holds n lt (f a) Q) → Holds n lt (t.bind f) Q
  | .ret a, h => h
  | .ask i j k, h => ⟨h.1, Holds.bind (t := k (lt i j)) h.2⟩

/-- ascending as far as k -/
noncomputable def UpTo (lt : Nat → Nat → Bool) (p : Array Nat) (k : Nat) : Prop := ∀ i j, i < j → j < k → lt (p.getD i 0) (p.getD j 0) = true
noncomputable def DownTo (lt : Nat → Nat → Bool) (p : Array Nat) (k : Nat) : Prop := ∀ i j, i < j → j < k → lt (p.getD j 0) (p.getD i 0) = true
structure LtOk (lt : Nat → Nat → Bool) (n : Nat) : Prop where
  trans : ∀ a b c, lt a b = true → lt b c = true → lt a c = true
  total : ∀ a b, a < n → b < n → a ≠ b → lt a b = false → lt b a = true
/-- an arrangement of the numbers below n -/
noncomputable def Arr (n : Nat) (p : Array Nat) : Prop := p.Perm (List.toArray (List.range n))
theorem Arr.size {n : Nat} {p : Array Nat} (h : Arr n p) : p.size = n := by have := h.size_eq; simpa using this
theorem Arr.nodup {n : Nat} {p : Array Nat} (h : Arr n p) : p.toList.Nodup := (Array.perm_iff_toList_perm.mp h).nodup_iff.mpr (by simpa using List.nodup_range)
theorem Arr.lt {n : Nat} {p : Array Nat} (h : Arr n p) {i : Nat} (hi : i < n) : p.getD i 0 < n := by
  have hi' : i < p.size := by rw [h.size]; exact hi
  have hm : p[i] ∈ p.toList := by simp
  have := (Array.perm_iff_toList_perm.mp h).mem_iff.mp hm
  have e : p.getD i 0 = p[i] := by simp [Array.getD, hi']
  rw [e]; simpa using this
theorem Arr.ne {n : Nat} {p : Array Nat} (h : Arr n p) {i j : Nat} (hi : i < n) (hj : j < n) (hij : i ≠ j) : p.getD i 0 ≠ p.getD j 0 := by
  have hi' : i < p.size := by rw [h.size]; exact hi
  have hj' : j < p.size := by rw [h.size]; exact hj
  have e : p.getD i 0 = p[i] := by simp [Array.getD, hi']
  have e' : p.getD j 0 = p[j] := by simp [Array.getD, hj']
  rw [e, e']
  intro h2
  have nd := List.pairwise_iff_getElem.mp h.nodup
  rcases Nat.lt_or_gt_of_ne hij with h3 | h3
  · exact nd i j (by simpa using hi') (by simpa using hj') h3 (by simpa using h2)
  · exact nd j i (by simpa using hj') (by simpa using hi') h3 (by simpa using h2.symm)

section
variable {lt : Nat → Nat → Bool} {n : Nat} {p : Array Nat}
theorem upTo_succ (H : LtOk lt n) {k : Nat} (hk : 1 ≤ k) (h : UpTo lt p k) (hl : lt (p.getD (k - 1) 0) (p.getD k 0) = true) : UpTo lt p (k + 1) := fun i j hij hj => by
  by_cases hjk : j < k
  · exact h i j hij hjk
  · obtain rfl : j = k := by omega
    by_cases hik : i = j - 1
    · subst hik; exact hl
    · exact H.trans _ _ _ (h i (j - 1) (by omega) (by omega)) hl

theorem asc_holds (H : LtOk lt n) (hp : Arr n p) : ∀ (f k : Nat), 1 ≤ k → k + f ≤ n → UpTo lt p k → Holds n lt (kas_asc p f k) (fun m => k ≤ m ∧ m ≤ k + f ∧ UpTo lt p m ∧ (m < k + f → lt (p.getD m 0) (p.getD (m - 1) 0) = true))
  | 0, k, _, _, h => ⟨Nat.le_refl _, Nat.le_refl _, h, fun h => absurd h (by omega)⟩
  | f + 1, k, hk, hf, h => by
    refine ⟨⟨hp.lt (by omega), hp.lt (by omega)⟩, ?_⟩
    show Holds n lt (if lt (p.getD k 0) (p.getD (k - 1) 0) = true then KasT.ret k else kas_asc p f (k + 1)) _
    by_cases hc : lt (p.getD k 0) (p.getD (k - 1) 0) = true
    · rw [if_pos hc]; exact ⟨Nat.le_refl _, by omega, h, fun _ => hc⟩
    · rw [if_neg hc]
      have hl := H.total _ _ (hp.lt (i := k) (by omega)) (hp.lt (i := k - 1) (by omega)) (hp.ne (by omega) (by omega) (by omega)) (by simpa using hc)
      exact (asc_holds H hp f (k + 1) (by omega) (by omega) (upTo_succ H hk h hl)).mono fun m hm => ⟨by omega, by omega, hm.2.2.1, fun h => hm.2.2.2 (by omega)⟩

theorem desc_holds (H : LtOk lt n) (hp : Arr n p) : ∀ (f k : Nat), 1 ≤ k → k + f ≤ n → DownTo lt p k → Holds n lt (kas_desc f p k 0) (fun r => r.1 = p ∧ r.2.2 = 0 ∧ k ≤ r.2.1 ∧ r.2.1 ≤ k + f ∧ DownTo lt p r.2.1)
  | 0, k, _, _, h => ⟨rfl, rfl, Nat.le_refl _, Nat.le_refl _, h⟩
  | f + 1, k, hk, hf, h => by
    refine ⟨⟨hp.lt (by omega), hp.lt (by omega)⟩, ?_⟩
    show Holds n lt (if lt (p.getD k 0) (p.getD (k - 1) 0) = true then (if 0 > 0 then _ else kas_desc f p (k + 1) 0) else KasT.ask _ _ _) _
    by_cases hc : lt (p.getD k 0) (p.getD (k - 1) 0) = true
    · rw [if_pos hc, if_neg (by omega)]
      refine (desc_holds H hp f (k + 1) (by omega) (by omega) fun i j hij hj => ?_).mono fun m hm => ⟨hm.1, hm.2.1, by omega, by omega, hm.2.2.2.2⟩
      by_cases hjk : j < k
      · exact h i j hij hjk
      · obtain rfl : j = k := by omega
        by_cases hik : i = j - 1
        · subst hik; exact hc
        · exact H.trans _ _ _ hc (h i (j - 1) (by omega) (by omega))
    · rw [if_neg hc]
      have hl := H.total _ _ (hp.lt (i := k) (by omega)) (hp.lt (i := k - 1) (by omega)) (hp.ne (by omega) (by omega) (by omega)) (by simpa using hc)
      refine ⟨⟨hp.lt (by omega), hp.lt (by omega)⟩, ?_⟩
      show Holds n lt (if lt (p.getD (k - 1) 0) (p.getD k 0) = true then KasT.ret (p, k, 0) else _) _
      rw [if_pos hl]
      exact ⟨rfl, rfl, Nat.le_refl _, by show k ≤ k + (f + 1); omega, h⟩

theorem getD_of {xs ys : Array Nat} {i j : Nat} (h : xs[i]? = ys[j]?) : xs.getD i 0 = ys.getD j 0 := by
  rw [Array.getD_eq_getD_getElem?, Array.getD_eq_getD_getElem?, h]
theorem rev_at (hp : Arr n p) {m k : Nat} (hm : m ≤ n) (hk : k < m) : (kas_rev p 0 m).getD k 0 = p.getD (m - 1 - k) 0 := by
  refine getD_of ?_
  show (mirror p 0 m ((m - 0) / 2))[k]? = _
  rw [getElem?_mirror_all (by rw [hp.size]; exact hm), if_pos ⟨Nat.zero_le _, hk⟩, Nat.zero_add]
theorem rev_arr (hp : Arr n p) (m : Nat) : Arr n (kas_rev p 0 m) := (mirror_perm p 0 m _).trans hp
theorem rev_up (hp : Arr n p) {m : Nat} (hm : m ≤ n) (h : DownTo lt p m) : UpTo lt (kas_rev p 0 m) m := fun i j hij hj => by
  rw [rev_at hp hm (by omega), rev_at hp hm hj]
  exact h _ _ (by omega) (by omega)

theorem tail_holds (H : LtOk lt n) (hp : Arr n p) {m : Nat} (h1 : 1 ≤ m) (hm : m ≤ n) (h : DownTo lt p m) : Holds n lt (kas_tail3 m n p) (fun r => Arr n r.2 ∧ 1 ≤ r.1 ∧ r.1 ≤ n ∧ UpTo lt r.2 r.1) :=
  Holds.bind ((asc_holds H (rev_arr hp m) (n - m) m h1 (by omega) (rev_up hp hm h)).mono fun k hk => ⟨rev_arr hp m, by omega, by show k ≤ n; omega, hk.2.2.1⟩)

theorem count_holds (H : LtOk lt n) (hp : Arr n p) (hn : 1 ≤ n) : Holds n lt (kas_count n p) (fun r => Arr n r.2 ∧ 1 ≤ r.1 ∧ r.1 ≤ n ∧ UpTo lt r.2 r.1) := by
  refine Holds.bind ((asc_holds H hp (n - 1) 1 (Nat.le_refl _) (by omega) fun i j hij hj => by omega).mono fun m hm => ?_)
  obtain ⟨h1, h2, h3, h4⟩ := hm
  by_cases hmn : m = n
  · rw [if_pos (by simpa using hmn)]
    exact ⟨hp, h1, by show m ≤ n; omega, h3⟩
  · rw [if_neg (by simpa using hmn)]
    by_cases hm1 : m > 1
    · rw [if_pos hm1]
      refine ⟨⟨hp.lt (by omega), hp.lt (by omega)⟩, ?_⟩
      show Holds n lt (if lt (p.getD 0 0) (p.getD (m - 1) 0) = true then KasT.ret (m, p) else _) _
      rw [if_pos (h3 0 (m - 1) (by omega) (by omega))]
      exact ⟨hp, h1, by show m ≤ n; omega, h3⟩
    · rw [if_neg hm1]
      obtain rfl : m = 1 := by omega
      have hl := h4 (by omega)
      have d2 : DownTo lt p 2 := fun i j hij hj => by
        obtain rfl : i = 0 := by omega
        obtain rfl : j = 1 := by omega
        exact hl
      refine Holds.bind ((desc_holds H hp (n - 2) 2 (by omega) (by omega) d2).mono fun r hr => ?_)
      obtain ⟨r1, r2, r3⟩ := r
      obtain ⟨e1, e2, k1, k2, k3⟩ := hr
      dsimp only at e1 e2 k1 k2 k3 ⊢
      subst e1 e2
      rw [if_neg (by omega)]
      exact tail_holds H hp (by omega) (by omega) k3

theorem place_holds (H : LtOk lt n) (hp : Arr n p) {k : Nat} (hk : k < n) (h : UpTo lt p k) : ∀ (f l r : Nat), l ≤ r → r ≤ k → r - l ≤ f → (∀ i, i < l → lt (p.getD i 0) (p.getD k 0) = true) → (∀ i, r ≤ i → i < k → lt (p.getD k 0) (p.getD i 0) = true) →
    Holds n lt (kas_place p k f l r) (fun m => m ≤ k ∧ (∀ i, i < m → lt (p.getD i 0) (p.getD k 0) = true) ∧ (∀ i, m ≤ i → i < k → lt (p.getD k 0) (p.getD i 0) = true))
  | 0, l, r, h1, h2, h3, a, b => by
    obtain rfl : l = r := by omega
    exact ⟨h2, a, b⟩
  | f + 1, l, r, h1, h2, h3, a, b => by
    show Holds n lt (if l ≥ r then KasT.ret l else _) _
    by_cases hlr : l ≥ r
    · rw [if_pos hlr]
      obtain rfl : l = r := by omega
      exact ⟨h2, a, b⟩
    · rw [if_neg hlr]
      refine ⟨⟨hp.lt (by omega), hp.lt (by omega)⟩, ?_⟩
      show Holds n lt (if lt (p.getD k 0) (p.getD ((l + r) / 2) 0) = true then _ else _) _
      have hmid : (l + r) / 2 < k := by omega
      by_cases hc : lt (p.getD k 0) (p.getD ((l + r) / 2) 0) = true
      · rw [if_pos hc]
        refine place_holds H hp hk h f l ((l + r) / 2) (by omega) (by omega) (by omega) a fun i hi hik => ?_
        by_cases e : i = (l + r) / 2
        · rw [e]; exact hc
        · exact H.trans _ _ _ hc (h _ _ (by omega) hik)
      · rw [if_neg hc]
        have hl := H.total _ _ (hp.lt hk) (hp.lt (i := (l + r) / 2) (by omega)) (hp.ne hk (by omega) (by omega)) (by simpa using hc)
        refine place_holds H hp hk h f ((l + r) / 2 + 1) r (by omega) h2 (by omega) (fun i hi => ?_) b
        by_cases e : i = (l + r) / 2
        · rw [e]; exact hl
        · exact H.trans _ _ _ (h _ _ (by omega) hmid) hl

set_option tactic.hygienic true in
theorem bubble_at (hp : Arr n p) {k l : Nat} (hk : k < n) (hl : l ≤ k) (i : Nat) : (bubble p k (k - l)).getD i 0 = if i = l then p.getD k 0 else if l < i ∧ i ≤ k then p.getD (i - 1) 0 else p.getD i 0 := by
  have e := getElem?_bubble (xs := p) (src := k) (by rw [hp.size]; exact hk) (k - l) (by omega) i
  rw [show k - (k - l) = l by omega] at e
  split
  · rename_i h; rw [if_pos h] at e; exact getD_of e
  · rename_i h; rw [if_neg h] at e
    split
    · rename_i h2; rw [if_pos h2] at e; exact getD_of e
    · rename_i h2; rw [if_neg h2] at e; exact getD_of e

set_option tactic.hygienic true in
theorem bin_holds (H : LtOk lt n) : ∀ (f : Nat) (p : Array Nat) (k : Nat), Arr n p → k + f = n → UpTo lt p k → Holds n lt (kas_bin f p k) (fun r => Arr n r ∧ UpTo lt r n)
  | 0, p, k, hp, hk, h => ⟨hp, by rw [← hk]; exact h⟩
  | f + 1, p, k, hp, hk, h => by
    refine Holds.bind ((place_holds H hp (k := k) (by omega) h k 0 k (by omega) (Nat.le_refl _) (by omega) (fun i hi => absurd hi (by omega)) fun i h1 h2 => absurd h1 (by omega)).mono fun l hl => ?_)
    obtain ⟨hlk, a, b⟩ := hl
    refine bin_holds H f _ (k + 1) ((bubble_perm p k _).trans hp) (by omega) fun i j hij hj => ?_
    rw [bubble_at hp (by omega) hlk, bubble_at hp (by omega) hlk]
    split
    · rename_i hi
      subst hi
      rw [if_neg (by omega), if_pos ⟨hij, by omega⟩]
      exact b _ (by omega) (by omega)
    · rename_i hi
      split
      · rename_i hi2
        rw [if_neg (by omega), if_pos ⟨by omega, by omega⟩]
        exact h _ _ (by omega) (by omega)
      · rename_i hi2
        split
        · rename_i hj2
          exact a _ (by omega)
        · rename_i hj2
          split
          · exact h _ _ (by omega) (by omega)
          · exact h _ _ (by omega) (by omega)

theorem sort_holds (H : LtOk lt n) (hn : 1 ≤ n) : Holds n lt (kas_sort n) (fun r => Arr n r ∧ UpTo lt r n) := by
  refine Holds.bind ((count_holds H (p := List.toArray (List.range n)) (Array.Perm.refl _) hn).mono fun r hr => ?_)
  obtain ⟨m, p⟩ := r
  obtain ⟨h1, h2, h3, h4⟩ := hr
  dsimp only at h1 h2 h3 h4 ⊢
  by_cases hm : m < n
  · rw [if_pos hm, show max m 1 = m by omega]
    exact bin_holds H _ _ _ h1 (by omega) h4
  · rw [if_neg hm]
    obtain rfl : m = n := by omega
    exact ⟨h1, h4⟩
end
end Dio

namespace Dio
set_option tactic.hygienic false
open PySem PySem.W PySem.Calls PyProof.Rows
open Sem (wp)
set_option maxRecDepth 100000

/-! Zy. comparisons of tuples of ints, and sorted -/
noncomputable def llt : List Int → List Int → Bool
  | [], [] => false
  | [], _ :: _ => true
  | _ :: _, [] => false
  | a :: x, b :: y => if a = b then llt x y else decide (a < b)

theorem llt_trans : ∀ {x y z : List Int}, llt x y = true → llt y z = true → llt x z = true
  | [], [], _, h, _ => by simp [llt] at h
  | [], _ :: _, [], _, h => by simp [llt] at h
  | [], _ :: _, _ :: _, _, _ => rfl
  | _ :: _, [], _, h, _ => by simp [llt] at h
  | _ :: _, _ :: _, [], _, h => by simp [llt] at h
  | a :: x, b :: y, c :: z, h1, h2 => by
    simp only [llt] at h1 h2 ⊢
    by_cases e1 : a = b
    · rw [if_pos e1] at h1
      by_cases e2 : b = c
      · rw [if_pos e2] at h2
        rw [if_pos (e1.trans e2)]
        exact llt_trans h1 h2
      · rw [if_neg e2] at h2
        rw [if_neg (by omega)]
        rw [e1]; exact h2
    · rw [if_neg e1] at h1
      by_cases e2 : b = c
      · rw [if_pos e2] at h2
        rw [if_neg (by omega)]
        rw [← e2]; exact h1
      · rw [if_neg e2] at h2
        have h1' := of_decide_eq_true h1
        have h2' := of_decide_eq_true h2
        rw [if_neg (by omega)]
        exact decide_eq_true (by omega)
theorem llt_total : ∀ {x y : List Int}, x ≠ y → llt x y = false → llt y x = true
  | [], [], h, _ => absurd rfl h
  | [], _ :: _, _, h => by simp [llt] at h
  | _ :: _, [], _, _ => rfl
  | a :: x, b :: y, hne, h => by
    simp only [llt] at h ⊢
    by_cases e : a = b
    · rw [if_pos e] at h
      rw [if_pos e.symm]
      exact llt_total (fun hh => hne (by rw [e, hh])) h
    · rw [if_neg e] at h
      have h' := of_decide_eq_false h
      rw [if_neg (fun hh => e hh.symm)]
      exact decide_eq_true (by omega)

noncomputable def TI (h : Heap) : List Value → List (List Int) → Prop
  | [], [] => True
  | v :: vs, r :: rs => (∃ a n xs, v = .ref a ∧ h.get? a = some (seqObj "tuple" xs n) ∧ IntsAre xs r) ∧ TI h vs rs
  | _, _ => False
theorem TI.length {h : Heap} : ∀ {vs : List Value} {rs : List (List Int)}, TI h vs rs → vs.length = rs.length
  | [], [], _ => rfl
  | _ :: vs, _ :: rs, t => by rw [List.length_cons, List.length_cons, TI.length t.2]
theorem TI.get {h : Heap} : ∀ {vs : List Value} {rs : List (List Int)} {i : Nat}, TI h vs rs → i < vs.length → ∃ a n xs, vs.getD i Value.none = .ref a ∧ h.get? a = some (seqObj "tuple" xs n) ∧ IntsAre xs (rs.getD i [])
  | _ :: _, _ :: _, 0, t, _ => by simpa using t.1
  | _ :: vs, _ :: rs, i + 1, t, hi => by
    have := TI.get (i := i) t.2 (by simpa using hi)
    simpa using this
theorem TI.keeps {h h' : Heap} (k : ∀ b o, h.get? b = some o → h'.get? b = some o) : ∀ {vs : List Value} {rs : List (List Int)}, TI h vs rs → TI h' vs rs
  | [], [], _ => trivial
  | _ :: _, _ :: _, ⟨⟨a, n, xs, e, ho, hi⟩, t⟩ => ⟨⟨a, n, xs, e, k _ _ ho, hi⟩, TI.keeps k t⟩

section
variable {prog : Program} {w : World} {A : Around} {s : Shared} {Q : Bool → Shared → Prop}
/-- the walk along two tuples of ints -/
theorem lex_ints {fin b : Bool} : ∀ {xs ys : List Value} {is js : List Int} {i : Nat}, IntsAre xs is → IntsAre ys js → (xs.length = ys.length) → Q (if is = js then fin else llt is js) s → KatLex prog w A b fin Q (xs.zip ys) i s
  | _, _, _, _, i, .nil, .nil, _, h => by rw [if_pos rfl] at h; exact kat_nil h
  | _, _, _, _, i, .cons a t r, .cons c u q, hl, h => by
    refine kat_cons (wpAny_eqBool_int ?_)
    by_cases e : a = c
    · subst e
      rw [show (a == a) = true from by simp]
      refine kat_yes (lex_ints r q (by simpa using hl) ?_)
      simpa [llt] using h
    · rw [show (a == c) = false from by simpa using e]
      refine kat_no ?_
      have h' : Q (decide (a < c)) s := by simpa [llt, e] using h
      cases hb : (b && i == 0) with
      | true => exact oneLt_int h'
      | false => exact kat_one _ _ (PyProof.Rows.lt_int h')
  | _, _, _, _, _, .nil, .cons _ _ _, hl, _ => by simp at hl
  | _, _, _, _, _, .cons _ _ _, .nil, hl, _ => by simp at hl

set_option tactic.hygienic true in
theorem key_lt {vs : List Value} {rs : List (List Int)} {d i j : Nat} {b : Bool} (t : TI s.heap vs rs) (hd : ∀ r ∈ rs, r.length = d) (hi : i < vs.length) (hj : j < vs.length) (h : Q (llt (rs.getD i []) (rs.getD j [])) s) :
    kas_ask prog w A (tuples' b) vs i j Q s := by
  obtain ⟨a, n, xs, e1, o1, i1⟩ := t.get hi
  obtain ⟨a', n', ys, e2, o2, i2⟩ := t.get hj
  unfold kas_ask
  rw [e1, e2]
  have hl := t.length
  have l1 : (rs.getD i []).length = d := hd _ (by rw [show rs.getD i [] = rs[i]'(by omega) from by simp [show i < rs.length by omega]]; exact List.getElem_mem _)
  have l2 : (rs.getD j []).length = d := hd _ (by rw [show rs.getD j [] = rs[j]'(by omega) from by simp [show j < rs.length by omega]]; exact List.getElem_mem _)
  have m1 := i1.length
  have m2 := i2.length
  refine kat_lt o1 rfl o2 rfl (lex_ints (is := rs.getD i []) (js := rs.getD j []) (xs := xs.toArray.toList) (ys := ys.toArray.toList) i1 i2 (by simp; omega) ?_)
  have hs : (decide (xs.toArray.size < ys.toArray.size)) = false := decide_eq_false (by simp; omega)
  rw [hs]
  split
  · rename_i e
    have : ∀ l : List Int, llt l l = false := fun l => by
      induction l with
      | nil => rfl
      | cons x l ih => simp [llt, ih]
    rw [e, this] at h; exact h
  · exact h

theorem kas_of_holds {vs : List Value} {rs : List (List Int)} {d : Nat} {b : Bool} {α : Type} {Q' : α → Prop} (t : TI s.heap vs rs) (hd : ∀ r ∈ rs, r.length = d) : ∀ {tr : KasT α}, Holds vs.length (fun i j => llt (rs.getD i []) (rs.getD j [])) tr Q' →
    tr.kasWp (kas_ask prog w A (tuples' b) vs) (fun a s' => s' = s ∧ Q' a) s
  | .ret a, h => ⟨rfl, h⟩
  | .ask i j k, h => key_lt t hd h.1.1 h.1.2 (kas_of_holds t hd (tr := k _) h.2)
end
end Dio

namespace Dio
set_option tactic.hygienic false
open PySem PySem.W PySem.Calls PyProof.Rows
open Sem (wp)
set_option maxRecDepth 100000

/-! Zz. sorted -/
section
variable {prog : Program} {w : World} {A : Around} {E : Value → Shared → Prop} {s : Shared}
/-- fewer than two things are not compared -/
theorem small_sort {a : Addr} {vs : List Value} {n : Nat} {P : PySem.Fin → Shared → Prop} (ho : s.heap.get? a = some (PyProof.Rows.seqObj "list" vs.toArray n)) (h2 : vs.length < 2)
    (h : P (.done (.ret .none)) { s with heap := sortedHeap s.heap a vs vs.toArray }) : wpAny (model prog w) A (Builtin.«list.sort» ⟨[.ref a], []⟩) P E s := by
  have ha := Heap.lt_size ho
  have hl : vs.length ≤ sizeLine := line_le (by omega)
  obtain ⟨e1, o1⟩ : ∃ e1, (s.heap.update a (Obj.mapSeq fun _ => #[])).get? a = some (PyProof.Rows.seqObj "list" #[] e1) := ⟨_, get?_update_seq ho (fun _ => #[])⟩
  have o2 : (((s.heap.update a (Obj.mapSeq fun _ => #[])).push (PyProof.Rows.seqObj "tuple" vs.toArray 0)).push (PyProof.Rows.seqObj "list" #[] 0)).get? a = some (PyProof.Rows.seqObj "list" #[] e1) :=
    Heap.get?_push_of_some _ (Heap.get?_push_of_some _ o1)
  rw [list_sort_plain]
  refine wpAny_bind (listItems_at ho rfl (wpAny_bind (listUpdate_at ho rfl ?_ (by simpa using hl) (Nat.zero_le _))))
  refine wpAny_bind (seqEpoch_at o1 rfl (wpAny_bind (wpAny_newTuple ?_ (by simpa using hl))))
  refine wpAny_bind (wpAny_newList (wpAny_holding ?_) (Nat.zero_le _))
  show wpAny (model prog w) A _ P E { s with heap := ((s.heap.update a (Obj.mapSeq fun _ => #[])).push (PyProof.Rows.seqObj "tuple" vs.toArray 0)).push (PyProof.Rows.seqObj "list" #[] 0) }
  dsimp only
  have hz : vs.toArray.size < 2 := by simpa using h2
  rw [if_pos hz, if_pos hz]
  refine wpAny_bind (wpAny_pure ?_)
  rw [StateT.run_pure]
  refine wpAny_bind (wpAny_pure ?_)
  dsimp only
  have hout : (arrOf (SortSt.mk' general' (vs.toArray.zip vs.toArray) #[] 7 none)).map (·.2) = vs.toArray := by
    show (vs.toArray.zip vs.toArray).map (·.2) = vs.toArray
    apply Array.ext'
    simp [List.map_snd_zip]
  rw [hout]
  refine wpAny_bind (seqEpoch_at o2 rfl (wpAny_bind (listUpdate_at o2 rfl ?_ (Nat.zero_le _) (by simpa using Nat.le_succ_of_le hl))))
  simp only [bne_self_eq_false, Bool.false_eq_true, if_false]
  exact wpAny_pure h

theorem small_sorted {l : Addr} {vs : List Value} {Q : Value → Shared → Prop} (hl : s.heap.IsList l vs.toArray) (h2 : vs.length < 2)
    (h : Q (.ref (s.heap.objs.size + 1)) { s with heap := sortedAll s.heap vs vs.toArray }) : wpAny (model prog w) A (call (.builtin "sorted") [.ref l]) Q E s := by
  refine Calls.call_function_entry kind_sorted plain_sorted entry_sorted (args_sorted1 _) ?_
  unfold Builtin.«sorted»
  have hz : vs.length ≤ sizeLine := line_le (by omega)
  refine wpAny_bind (m := checkCount "sorted" 1 1 _) (wpAny_pure (wpAny_bind (collect_list hl (wpAny_bind (wpAny_newList ?_ hz)) hz)))
  have z1 : ((s.heap.push (PyProof.Rows.seqObj "list" #[] 0)).update s.heap.objs.size (Obj.mapSeq (· ++ vs.toArray))).objs.size = s.heap.objs.size + 1 := by rw [Heap.size_update, size_push']
  have oL : (((s.heap.push (PyProof.Rows.seqObj "list" #[] 0)).update s.heap.objs.size (Obj.mapSeq (· ++ vs.toArray))).push (PyProof.Rows.seqObj "list" vs.toArray 0)).get? (s.heap.objs.size + 1) = some (PyProof.Rows.seqObj "list" vs.toArray 0) := by
    rw [← z1]; exact Heap.get?_push_size _ rfl
  show wpAny _ _ _ _ _ { s with heap := ((s.heap.push (PyProof.Rows.seqObj "list" #[] 0)).update s.heap.objs.size (Obj.mapSeq (· ++ vs.toArray))).push (PyProof.Rows.seqObj "list" vs.toArray 0) }
  rw [z1]
  exact wpAny_bind (wpAny_holding (wpAny_call_entry slot_list_sort ⟨_, oL, rfl⟩ entry_list_sort (small_sort oL h2 ⟨_, rfl, wpAny_pure ⟨_, rfl, h⟩⟩) (args_list_sort _)))

/-- every thing of a heap but one -/
noncomputable def allBut (h : Heap) (L : Addr) : List (Addr × Obj) := (List.range h.objs.size).filterMap fun b => if b = L then none else (h.get? b).map fun o => (b, o)
theorem allBut_mem {h : Heap} {L : Addr} {p : Addr × Obj} : p ∈ allBut h L ↔ h.get? p.1 = some p.2 ∧ p.1 ≠ L := by
  unfold allBut
  rw [List.mem_filterMap]
  constructor
  · rintro ⟨b, _, hb⟩
    by_cases e : b = L
    · rw [if_pos e] at hb; cases hb
    · rw [if_neg e] at hb
      cases hg : h.get? b with
      | none => rw [hg] at hb; cases hb
      | some o => rw [hg] at hb; cases hb; exact ⟨hg, e⟩
  · rintro ⟨e, hne⟩
    exact ⟨p.1, List.mem_range.mpr (Heap.lt_size e), by rw [if_neg hne, e]; rfl⟩
theorem allBut_news (h : Heap) (L : Addr) : News { h with objs := #[] } L h (allBut h L) := fun p hp => ⟨(allBut_mem.mp hp).1, (allBut_mem.mp hp).2, by
  cases hq : Heap.get? { h with objs := #[] } p.1 with
  | none => rfl
  | some o => exact absurd (Heap.lt_size hq) (Nat.not_lt_zero _)⟩
theorem allBut_fr {h : Heap} {L : Addr} {m : Str → Option Value} (hn : h.Ns L m) : Fr { h with objs := #[] } L h m := ⟨hn, fun b o e => absurd (Heap.lt_size e) (Nat.not_lt_zero _), Nat.zero_le _⟩
end

/-! lists of rows -/
noncomputable def rowsD (rs : List (List Int)) : D := .list (rs.map tupI)
theorem ints_of {c : Cx} {X : Addr → Prop} {h : Heap} : ∀ {vs : List Value} {l : List Int}, RepL c X h vs (lsI l) → IntsAre vs l
  | _, [], .nil => .nil
  | _, i :: l, .cons r rs => by
    cases r with
    | int _ t => exact .cons i t (ints_of (l := l) rs)
theorem ti_of {c : Cx} {X : Addr → Prop} {h : Heap} : ∀ {vs : List Value} {rs : List (List Int)}, RepL c X h vs (rs.map tupI) → TI h vs rs
  | _, [], .nil => trivial
  | _, r :: rs, .cons q qs => ⟨by
    cases q with
    | tup a l =>
      obtain ⟨n, e⟩ := a.at_
      exact ⟨_, n, _, rfl, e, ints_of l⟩, ti_of qs⟩

theorem tups_of {h : Heap} : ∀ {vs : List Value} {rs : List (List Int)}, TI h vs rs → (∀ r ∈ rs, r ≠ []) → ∃ fs, KatTups h vs fs ∧ fs.length = vs.length ∧ ∀ v ∈ fs, ∃ i t, v = .int i t
  | [], [], _, _ => ⟨[], trivial, rfl, fun _ h => nomatch h⟩
  | v :: vs, r :: rs, ⟨⟨a, n, xs, e, o, i⟩, t⟩, hne => by
    obtain ⟨fs, k, hl, hi⟩ := tups_of t fun r hr => hne r (List.mem_cons_of_mem _ hr)
    have h0 := hne r List.mem_cons_self
    cases i with
    | nil => exact absurd rfl h0
    | @cons j u xs' js q =>
      exact ⟨.int j u :: fs, e ▸ KatTups.cons o rfl rfl (by simp) k, by simp [hl], fun v hv => (List.mem_cons.mp hv).elim (fun h => ⟨j, u, h⟩) (hi v)⟩

theorem llt_irr : ∀ l : List Int, llt l l = false
  | [] => rfl
  | x :: l => by simp [llt, llt_irr l]
noncomputable abbrev Asc (rs : List (List Int)) : Prop := rs.Pairwise fun x y => llt x y = true
theorem sorted_unique {a b : List (List Int)} (p : a.Perm b) (ha : Asc a) (hb : Asc b) : a = b :=
  List.Perm.eq_of_pairwise (le := fun x y => llt x y = true) (fun x y _ _ h1 h2 => by
    have := llt_trans h1 h2
    rw [llt_irr] at this; cases this) ha hb p

theorem repL_pick {c : Cx} {X : Addr → Prop} {h : Heap} {vs : List Value} {rs : List (List Int)} (r : RepL c X h vs (rs.map tupI)) : ∀ {is : List Nat}, (∀ i ∈ is, i < rs.length) → RepL c X h (is.map fun i => vs.getD i Value.none) ((is.map fun i => rs.getD i []).map tupI)
  | [], _ => .nil
  | i :: is, hi => by
    have hlt := hi i List.mem_cons_self
    obtain ⟨v, h1, h2⟩ := r.get (i := i) (d := tupI (rs.getD i [])) (by simp [hlt])
    have e : vs.getD i Value.none = v := by rw [List.getD_eq_getElem?_getD, h1]; rfl
    exact .cons (by show Rep c X h (vs.getD i Value.none) (tupI (rs.getD i [])); rw [e]; exact h2) (repL_pick r fun j hj => hi j (List.mem_cons_of_mem _ hj))

theorem pick_sorted {rs ss : List (List Int)} {p : Array Nat} (hp : rs.Perm ss) (hs : Asc ss) (ha : Arr rs.length p) (hu : UpTo (fun i j => llt (rs.getD i []) (rs.getD j [])) p rs.length) : (p.toList.map fun i => rs.getD i []) = ss := by
  have e1 : (List.range rs.length).map (fun i => rs.getD i []) = rs := by
    apply List.ext_getElem
    · simp
    · intro i h1 h2; simp [h2]
  have p1 : (p.toList.map fun i => rs.getD i []).Perm rs := by
    have := (Array.perm_iff_toList_perm.mp ha).map fun i => rs.getD i []
    rw [show (List.toArray (List.range rs.length)).toList = List.range rs.length from rfl, e1] at this
    exact this
  refine sorted_unique (p1.trans hp) ?_ hs
  rw [Asc, List.pairwise_map, List.pairwise_iff_getElem]
  intro i j hi hj hij
  have hz := ha.size
  have hi' : i < p.size := by simpa using hi
  have hj' : j < p.size := by simpa using hj
  have := hu i j hij (by omega)
  simpa [Array.getD, hi', hj'] using this

section
variable {c : Cx} {k : Nat} {sc : Scope} {ρ : Rho}
theorem sorted_rows {X : Addr → Prop} {A : Around} {s : Shared} {v : Value} {rs ss : List (List Int)} {d : Nat} {L : Addr} {m : Str → Option Value} {Q : Value → Shared → Prop} {E : Value → Shared → Prop} (hi : Ok c X s) (hr : Rep c X s.heap v (rowsD rs)) (hp : rs.Perm ss) (hs : Asc ss) (hd : ∀ r ∈ rs, r.length = d) (h64 : rs.length < 64)
    (hn : s.heap.Ns L m) (hL : ¬ c.Old L) (hQ : ∀ u s', Tr c X (fun b => b = L) no s s' → s'.heap.Ns L m → Rep c X s'.heap u (rowsD ss) → Q u s') : wpAny (MF c) A (call (.builtin "sorted") [v]) Q E s := by
  cases hr with
  | @list a vs _ ha hl =>
    obtain ⟨n, e⟩ := ha.at_
    have hlen : vs.length = rs.length := by have := hl.length; simpa using this
    have hli : s.heap.IsList a vs.toArray := ⟨_, e, rfl, n, rfl⟩
    by_cases h2 : vs.length < 2
    · refine lift (small_sorted hli h2 ?_)
      have hk : ∀ b o, s.heap.get? b = some o → (sortedAll s.heap vs vs.toArray).get? b = some o := fun b o => sortedAll_old
      have t : Tr c X (fun b => b = L) no s { s with heap := sortedAll s.heap vs vs.toArray } := Tr.grow (t := s.toks) hk
      have e2 : rs = ss := sorted_unique hp (by
        match rs, hlen, h2 with
        | [], _, _ => exact .nil
        | [r], _, _ => exact List.pairwise_singleton ..
        | x :: y :: r, hl', h2' => exact absurd h2' (by rw [hl', List.length_cons, List.length_cons]; omega)) hs
      subst e2
      obtain ⟨n', en⟩ := sortedAll_at s.heap vs vs.toArray
      have hnew : ¬ Is s.heap (s.heap.objs.size + 1) := fun h => Nat.lt_irrefl _ (Nat.lt_of_succ_lt h.lt)
      exact hQ _ _ t (hn.at fun o e => hk _ o e) (.list ⟨⟨n', en⟩, fun hx => hnew (hi.xs _ hx), fun ho => absurd (hi.toIv.is_old ho) hnew⟩ (hl.tr hi.toIv t))
    · have ht := ti_of hl
      have hne : ∀ r ∈ rs, r ≠ [] := fun r hr hz => by
        subst hz
        have hd0 : ∀ x ∈ rs, x = [] := fun x hx => List.eq_nil_of_length_eq_zero ((hd x hx).trans (hd [] hr).symm)
        have h1 : ∀ x ∈ ss, x = [] := fun x hx => hd0 x (hp.mem_iff.mpr hx)
        have h3 := hp.length_eq
        match ss, hs, h1, h3 with
        | [], _, _, h3 => rw [List.length_nil] at h3; omega
        | [_], _, _, h3 => rw [List.length_singleton] at h3; omega
        | x :: y :: _, hs, h1, _ =>
          have := (List.pairwise_cons.mp hs).1 y (by simp)
          rw [h1 x (by simp), h1 y (by simp)] at this
          simp [llt] at this
      refine lift (kat_sorted (L := L) (m := m) (news := allBut s.heap L) (allBut_fr hn) (allBut_news s.heap L) hli (by omega) (by omega) fun D e1 h' F' N' hlt => ?_)
      have hDL : D ≠ L := (N' _ List.mem_cons_self).2.1
      have hDs : ¬ Is s.heap D := fun ⟨o, eo⟩ => Nat.lt_irrefl _ (hlt (D, o) (allBut_mem.mpr ⟨eo, hDL⟩))
      have keep : ∀ {h'' : Heap} {o : Obj}, News { s.heap with objs := #[] } L h'' ((D, o) :: allBut s.heap L) → ∀ b o, b ≠ L → s.heap.get? b = some o → h''.get? b = some o := fun N b o hb eb => (N (b, o) (List.mem_cons_of_mem _ (allBut_mem.mpr ⟨eb, hb⟩))).1
      have ti' : TI h' vs rs := by
        have hrow : ∀ {vs : List Value} {rs : List (List Int)}, TI s.heap vs rs → TI h' vs rs := by
          intro vs rs
          induction vs generalizing rs with
          | nil => cases rs with
            | nil => exact fun _ => trivial
            | cons r rs => exact fun h => h
          | cons v vs ih => cases rs with
            | nil => exact fun h => h
            | cons r rs =>
              rintro ⟨⟨b, n, xs, eb, ho, hin⟩, t⟩
              exact ⟨⟨b, n, xs, eb, keep N' b _ (fun hbL => ns_notFrozen hn _ (hbL ▸ ho) (.seqObj ..)) ho, hin⟩, ih t⟩
        exact hrow ht
      obtain ⟨fs, kf, kl, ki⟩ := tups_of ti' hne
      refine kat_kind (T := .type "int") kf (by omega) (fun x hx => ?_) (by rfl) ?_
      · obtain ⟨i, t, rfl⟩ := ki x hx
        exact Looks.of_pure rfl
      have hh := sort_holds (lt := fun i j => llt (rs.getD i []) (rs.getD j [])) (n := vs.length) ⟨fun a b c => llt_trans, fun i j h1 h2 hij hf => llt_total (fun heq => ?_) hf⟩ (by omega)
      · have hw := kas_of_holds (prog := PySem.Challenge.pw_iy0017_01) (w := c.w) (A := A.in1.in1) (s := { s with heap := h' }) (b := (Value.type "int" != Value.type "tuple")) ti' hd hh
        rw [kat_ask_eq rfl] at hw ⊢
        refine kas_wp_mono hw fun p s'' hq => ?_
        obtain ⟨rfl, hp1, hp2⟩ := hq
        rw [hlen] at hp1 hp2
        refine KasFin.intro F' N' (.head fun q hq hqD => hDs ⟨q.2, hqD ▸ (allBut_mem.mp hq).1⟩) fun h'' c' F'' N'' => ?_
        have kk := keep N''
        have nn := F''.ns
        have t : Tr c X (fun b => b = L) no s { s with heap := h'' } := by
          refine ⟨fun b ⟨o, eb⟩ => ?_, fun b o eb hP hW => ?_, fun hT => hT.at (fun o eo => kk _ o (fun hb => hL (hb ▸ hi.lowC)) eo) (fun o eo => kk _ o (fun hb => hL (hb ▸ hi.lowP)) eo), Nat.le_refl _, fun _ _ e _ => e, fun _ _ e h _ => absurd (Array.getElem?_eq_some_iff.mp e).1 (Nat.not_lt.mpr h), rfl⟩
          · by_cases hb : b = L
            · obtain ⟨o', _, _, ho, _⟩ := nn
              exact ⟨o', hb ▸ ho⟩
            · exact ⟨o, kk b o hb eb⟩
          · by_cases hb : b = L
            · subst hb
              exact (hW rfl).elim (fun h => absurd h hL) fun h => absurd h.1 (ns_notFrozen hn o eb)
            · exact kk b o hb eb
        have hout := pick_sorted hp hs hp1 hp2
        refine hQ _ _ t nn (.list ⟨⟨c', (N'' _ List.mem_cons_self).1⟩, fun hx => hDs (hi.xs _ hx), fun ho => absurd (hi.toIv.is_old ho) hDs⟩ ?_)
        have rp := repL_pick (is := p.toList) (hl.tr hi.toIv t) fun i hi => by
          have := (Array.perm_iff_toList_perm.mp hp1).mem_iff.mp hi
          simpa using this
        rw [hout] at rp
        exact rp
      · have nd := hp.nodup_iff.mpr (hs.imp fun {x y} h e => by rw [e, llt_irr] at h; cases h)
        have h1' : i < rs.length := by omega
        have h2' : j < rs.length := by omega
        have : rs[i] = rs[j] := by simpa [h1', h2'] using heq
        have np := List.pairwise_iff_getElem.mp nd
        rcases Nat.lt_or_gt_of_ne hij with hlt' | hlt'
        · exact np i j h1' h2' hlt' this
        · exact np j i h2' h1' hlt' this.symm
end
end Dio

namespace Dio
set_option tactic.hygienic false
open PySem PySem.W PySem.Calls PyProof.Rows
open Sem (wp)
set_option maxRecDepth 100000

/-! Zz2. == and != of lists of rows, and of None -/
noncomputable def rowP (r : List Int) : PyData := .tuple (r.map .int)
theorem reads_ints {h : Heap} : ∀ {vs : List Value} {l : List Int}, IntsAre vs l → ReadsAll h vs (l.map .int) []
  | _, _, .nil => .nil
  | _, _, .cons n t r => ReadsAll.cons (as := []) (.int n t) (reads_ints r)
theorem reads_rows {h : Heap} : ∀ {vs : List Value} {rs : List (List Int)}, TI h vs rs → ReadsAll h vs (rs.map rowP) []
  | [], [], _ => .nil
  | _ :: _, _ :: _, ⟨⟨a, n, xs, e, o, i⟩, t⟩ => e ▸ ReadsAll.cons (as := []) (reads_tuple_at o rfl rfl (by simpa using reads_ints i)) (reads_rows t)
theorem ints_canLay : ∀ l : List Int, PyData.canLayAll0 (l.map PyData.int) = true ∧ PyData.depthAll (l.map PyData.int) = 0
  | [] => by simp [PyData.canLayAll0, PyData.depthAll]
  | x :: l => by
    have := ints_canLay l
    simp [PyData.canLayAll0, PyData.depthAll, PyData.canLay0, PyData.depth, this.1, this.2]
theorem rows_canLay : ∀ rs : List (List Int), PyData.canLayAll0 (rs.map rowP) = true ∧ PyData.depthAll (rs.map rowP) ≤ 1
  | [] => by simp [PyData.canLayAll0, PyData.depthAll]
  | r :: rs => by
    have h := rows_canLay rs
    have h' := ints_canLay r
    have h2 := h.2
    simp only [List.map_cons, rowP, PyData.canLayAll0, PyData.depthAll, PyData.canLay0, PyData.depth, h'.1, h'.2, h.1, Bool.and_self, true_and]
    have h3 : PyData.depthAll (rs.map fun r => PyData.tuple (r.map PyData.int)) ≤ 1 := h2
    have h4 : PyData.depthAll (rs.map rowP) ≤ 1 := h2
    omega
theorem rows_shaped (rs : List (List Int)) : SeqAt.shaped (.list (rs.map rowP)) = true := by
  have h := rows_canLay rs
  have h2 := h.2
  unfold PySem.SeqAt.shaped
  simp only [PyData.canLay0, PyData.depth, h.1, Bool.true_and]
  exact decide_eq_true (by omega)
theorem rows_eqv : ∀ rs : List (List Int), PyData.eqvAll (rs.map rowP) (rs.map rowP) = true
  | [] => by simp [PyData.eqvAll]
  | r :: rs => by
    have := ked_eqvAll r r
    simp only [List.map_cons, PyData.eqvAll, rowP, PyData.eqv, this, decide_true, Bool.true_and]
    exact rows_eqv rs

section
variable {c : Cx} {k : Nat} {sc : Scope} {ρ : Rho}
theorem okA.units64 {k : Nat} {A : Around} (h : okA k A) : A.units + 64 < cLine := by have := h.2.2; unfold cLine; omega
theorem reads_rowsD {X : Addr → Prop} {h : Heap} {v : Value} {rs : List (List Int)} (r : Rep c X h v (rowsD rs)) : ∃ as, Reads h v (.list (rs.map rowP)) as := by
  cases r with
  | @list a vs _ ha hl =>
    obtain ⟨n, e⟩ := ha.at_
    exact ⟨_, reads_list_at e rfl rfl (by simpa using reads_rows (ti_of hl))⟩
theorem Op2.eqRows (rs : List (List Int)) : Op2 c k (compareOp .Eq) (rowsD rs) (rowsD rs) (.bool true) := by
  intro X A s v₁ v₂ Q E hA hi r₁ r₂ hQ
  obtain ⟨as, h1⟩ := reads_rowsD r₁
  obtain ⟨bs, h2⟩ := reads_rowsD r₂
  refine lift (eq_dataH h1 h2 (rows_shaped rs) (rows_shaped rs) hA.units64 ?_)
  rw [PyData.eqv, rows_eqv]
  exact hQ _ _ (.refl ..) (.bool _)
theorem Op2.neRows (rs : List (List Int)) : Op2 c k (compareOp .NotEq) (rowsD rs) (rowsD rs) (.bool false) := by
  intro X A s v₁ v₂ Q E hA hi r₁ r₂ hQ
  obtain ⟨as, h1⟩ := reads_rowsD r₁
  obtain ⟨bs, h2⟩ := reads_rowsD r₂
  refine lift (ne_dataH h1 h2 (rows_shaped rs) (rows_shaped rs) hA.units64 ?_)
  rw [PyData.eqv, rows_eqv]
  exact hQ _ _ (.refl ..) (.bool _)
theorem Op2.eqNone : Op2 c k (compareOp .Eq) .none .none (.bool true) := by
  intro X A s v₁ v₂ Q E hA hi r₁ r₂ hQ
  cases r₁; cases r₂
  exact lift (eq_dataH .none .none (by rfl) (by rfl) hA.units64 (hQ _ _ (.refl ..) (.bool _)))
theorem Op2.neNone : Op2 c k (compareOp .NotEq) .none .none (.bool false) := by
  intro X A s v₁ v₂ Q E hA hi r₁ r₂ hQ
  cases r₁; cases r₂
  exact lift (ne_dataH .none .none (by rfl) (by rfl) hA.units64 (hQ _ _ (.refl ..) (.bool _)))
end
end Dio

namespace Dio
set_option tactic.hygienic false
open PySem PySem.W PySem.Calls PyProof.Rows
open Sem (wp)
set_option maxRecDepth 100000

/-! Zz3. what law needs of expressions -/
section
variable {c : Cx} {k : Nat} {sc : Scope} {ρ : Rho}
theorem wp_sub {env : Env} {A : Around} {s : Shared} {E : Value → Shared → Prop} {value slice : Expr} {pos : Pos} {Q : Value → Shared → Prop}
    (hs : ∀ o i, ∃ l, subscripted slice false o i = operate l (getItem o i))
    (h : wpAny (MF c) A (eval value env) (fun o s₁ => wpAny (MF c) A (eval slice env) (fun i s₂ => ∃ T id, typeLookup (.type T) "__getitem__" = pure (some (.builtin id)) ∧ s₂.TypeIs o T ∧ wpAny (MF c) A (getItem o i) Q E s₂) E s₁) E s) :
    wpAny (MF c) A (eval (.Subscript value slice pos) env) Q E s := by
  rw [eval_Subscript]
  refine wpAny_bind (wpAny_mono h (fun o s₁ h₁ => wpAny_bind (wpAny_holding (wpAny_mono h₁ (fun i s₂ h₂ => wpAny_bind (wpAny_standAt ?_)) fun _ _ x => x))) fun _ _ x => x)
  obtain ⟨T, id, hl, hT, hg⟩ := h₂
  refine wpAny_bind ?_
  rw [getitemInPython_of_ne hT.not_modules]
  refine wpAny_bind (wpAny_specialOf hT hl ?_)
  obtain ⟨l, e⟩ := hs o i
  refine wpAny_pure (wpAny_bind ?_)
  rw [e]
  exact wpAny_operating (wpAny_mono hg (fun r s₃ h₃ => wpAny_bind (lift (wpAny_letTemporaryGo (wpAny_pure h₃) : wpAny (model PySem.Challenge.pw_iy0017_01 c.w) A (letTemporaryGo value o r) (fun _ s' => wpAny (MF c) A (pure r) Q E s') E s₃))) fun _ _ x => x)

theorem Ev.mono {k' : Nat} {e : Expr} {d : D} (h : Ev c k sc ρ e d) (hk : k ≤ k') : Ev c k' sc ρ e d := fun env X A s Q E S hA hi he hQ => h env X A s Q E S (hA.less hk) hi he hQ

/-- an item of a list, whatever tells the place -/
theorem Ev.itemX {e x : Expr} {i : Int} {pos : Pos} {d : D} {l : List D} (h : Ev c k sc ρ e (.list l)) (hx : Ev c k sc ρ x (.int i)) (hi' : 0 ≤ i ∧ i < 1000) (hg : l[i.toNat]? = some d) (hs : ∀ o i, ∃ l, subscripted x false o i = operate l (getItem o i) := by exact fun o i => ⟨_, rfl⟩) :
    Ev c k sc ρ (.Subscript e x pos) d := fun env X A s Q E S hA hi he hQ => by
  refine wp_sub hs (h env X A s _ E S hA hi he fun v s₁ t₁ r₁ => hx env X A s₁ _ E S hA (hi.tr t₁) (he.step hi t₁) fun w s₂ t₂ r₂ => ?_)
  have hlt : i.toNat < l.length := (List.getElem?_eq_some_iff.mp hg).1
  have r₁' := r₁.tr (hi.tr t₁).toIv t₂
  cases r₂ with
  | int _ u =>
    cases r₁' with
    | @list a vs _ ha hv =>
      obtain ⟨n, e⟩ := ha.at_
      obtain ⟨v, h1, h2⟩ := hv.get hg
      exact ⟨"list", _, list_getitem_lookup, ⟨_, e, rfl⟩, lift (wpAny_getItem_list (items := vs.toArray) (x := v) ⟨_, e, rfl, n, rfl⟩ (by omega) (by omega) (by simpa using h1) (hQ v _ (t₁.seq t₂) h2))⟩

/-- a slice of a list that need have no name -/
theorem Ev.sliceT {e : Expr} {lo up : Option Expr} {l l' : List D} {x₁ x₂ : Option Int} {p pos : Pos} (h : Ev c k sc ρ e (.list l)) (ha : EvP c k sc ρ lo x₁) (hb : EvP c k sc ρ up x₂) (hl : l.length ≤ 100000)
    (hp : ∀ (vs : List Value), vs.length = l.length → ∀ (c : Cx) (X : Addr → Prop) (h : Heap), RepL c X h vs l → RepL c X h (slicePick vs.toArray x₁ x₂ Option.none).toList l') :
    Ev c k sc ρ (.Subscript e (.Slice lo up Option.none p) pos) (.list l') := fun env X A s Q E S hA hi he hQ => by
  refine wp_sub (fun o i => ⟨_, rfl⟩) (h env X A s _ E S hA hi he fun v s₁ t₁ r₁ => wpAny_Slice ?_)
  refine ha env X A s₁ _ E S hA (hi.tr t₁) (he.step hi t₁) fun vl s₂ t₂ pl => ?_
  have hi₂ := (hi.tr t₁).tr t₂
  refine hb env X A s₂ _ E S hA hi₂ ((he.step hi t₁).step (hi.tr t₁) t₂) fun vu s₃ t₃ pu => ?_
  have hi₃ := hi₂.tr t₃
  rw [evalPart_none]
  refine wpAny_pure ?_
  have t₄ : Tr c X no no s₃ { s₃ with heap := s₃.heap.push { cls := .type "slice", data := .fields #[vl, vu, .none] } } := Tr.push (t := s₃.toks)
  have hi₄ := hi₃.tr t₄
  have r₄ := ((r₁.tr (hi.tr t₁).toIv t₂).tr hi₂.toIv t₃).tr hi₃.toIv t₄
  cases r₄ with
  | @list b vs _ hb hv =>
    obtain ⟨n, e'⟩ := hb.at_
    refine ⟨"list", _, list_getitem_lookup, ⟨_, e', rfl⟩, lift (wpAny_getItem_list_slice (items := vs.toArray) ⟨_, e', rfl, n, rfl⟩ (Heap.IsSliceOf.new ..) pl pu .none (by simp) ?_ (by have := hv.length; simp; rw [this]; exact line_le hl))⟩
    have t₅ := (((t₁.seq t₂).seq t₃).seq t₄).seq (Tr.push (t := s₃.toks) (o := { cls := .type "list", data := .seq (slicePick vs.toArray x₁ x₂ Option.none) }))
    have := rep_pushL hi₄ (hp vs hv.length c X _ hv)
    rw [Array.toArray_toList] at this
    exact hQ _ _ t₅ this

theorem pick_from_to {vs : List Value} (a b : Nat) (hb : b ≤ vs.length) (ha : a ≤ b) : (slicePick vs.toArray (Option.some (a : Int)) (Option.some (b : Int)) Option.none).toList = (vs.take b).drop a := by
  have e : sliceBounds (Option.some (a : Int)) (Option.some (b : Int)) Option.none vs.toArray.size = ((a : Int), (b : Int), 1) := by
    simp only [sliceBounds, Option.getD_none]
    have h1 : ¬ ((a : Int) < 0) := by omega
    have h2 : ¬ ((b : Int) < 0) := by omega
    simp only [h1, h2, if_false, show (1 : Int) > 0 by decide, if_true]
    congr 1
    · simp; omega
    congr 1; simp; omega
  unfold slicePick
  rw [e]
  simp only [sliceRange_one, pick_run]
  rw [List.take_drop]
  congr 2
  omega

theorem call_maxL (l : List Int) (M : Int) (hM : M ∈ l) (hle : ∀ a ∈ l, a ≤ M) : CallOk c k (.builtin "max") [.list (lsI l)] (.int M) := fun X A s vs Q E hA hi hr hQ => by
  obtain ⟨v, rfl, r⟩ := hr.one
  cases r with
  | @list a vs _ ha hv =>
    obtain ⟨n, e⟩ := ha.at_
    have hI : IntsAre vs l := ints_of hv
    obtain ⟨xs, e1⟩ := hI.allInts.items
    have hns : l = xs.toList.map (·.1) := by rw [← hI.numsOf, ← nums_intItems, ← e1]
    have hsz : 0 < xs.size := by
      have : 0 < l.length := List.length_pos_of_mem hM
      rw [hns] at this; simpa using this
    have hl : s.heap.IsList a (intItems xs) := e1 ▸ ⟨_, e, rfl, n, rfl⟩
    refine lift (max_intList hA.1 hl hsz fun v h' tk hv' hk => ?_)
    obtain ⟨t, rfl⟩ := intItems_at hv'
    obtain ⟨h1, h2⟩ := argBest_gt (numAt xs) (xs.size - 1)
    have hmem : ∀ j, j < xs.size → numAt xs j ∈ l := fun j hj => by
      rw [hns, numAt_eq, List.getD_eq_getElem?_getD, List.getElem?_eq_getElem (by simpa using hj)]
      exact List.getElem_mem _
    have e2 : numAt xs (argBest (fun i j => decide (numAt xs i > numAt xs j)) (xs.size - 1)) = M := by
      refine Int.le_antisymm (hle _ (hmem _ (by omega))) ?_
      rw [hns] at hM
      obtain ⟨j, hj, ej⟩ := List.getElem_of_mem hM
      have hj' : j < xs.size := by simpa using hj
      have := h2 j (by omega)
      rw [numAt_eq, List.getD_eq_getElem?_getD, List.getElem?_eq_getElem hj, Option.getD_some, ej] at this
      exact this
    rw [e2]
    exact hQ _ _ (Tr.grow hk) (.int _ _)
end
end Dio

namespace Dio
set_option tactic.hygienic false
open PySem PySem.W PySem.Calls PyProof.Rows
open Sem (wp)
set_option maxRecDepth 100000

/-! Zz4. law, the last part -/
noncomputable def dLw : DefRec := dd 10 (by decide)
theorem dLw_name : dLw.name = "law" := by kernel_rfl
theorem dLw_body : dLw.body = bodyAt 12 := by kernel_rfl
noncomputable abbrev scL : Scope := dLw.scope
noncomputable abbrev KL : Nat := 200

section
variable {c : Cx} {k : Nat} {sc : Scope} {ρ : Rho}
theorem TstW.or {x y : Expr} {pos : Pos} {b₁ b₂ : Bool} (h₁ : TstW c k sc ρ x b₁) (h₂ : b₁ = false → TstW c k sc ρ y b₂) : TstW c k sc ρ (.BoolOp .Or [x, y] pos) (b₁ || b₂) :=
  fun env X A s Q E S hA hfr hf hi he hQ => by
    refine wpAny_isTrue_BoolOp ?_
    show wpAny (MF c) A (do match BoolOp.Or, ← isTrue x env (eval x env) with | .And, false => pure false | .Or, true => pure true | _, _ => allTrue .Or [y] env) Q E s
    refine wpAny_bind (h₁ env X A s _ E S hA hfr hf hi he fun s₁ t₁ e₁ => ?_)
    cases b₁ with
    | true => exact wpAny_pure (hQ s₁ t₁ e₁)
    | false =>
      show wpAny (MF c) A (do match BoolOp.Or, ← isTrue y env (eval y env) with | .And, false => pure false | .Or, true => pure true | _, _ => allTrue .Or [] env) Q E s₁
      refine wpAny_bind (h₂ rfl env X A s₁ _ E S hA hfr hf (hi.tr t₁) e₁ fun s₂ t₂ e₂ => ?_)
      cases b₂ with
      | true => exact wpAny_pure (hQ s₂ (t₁.then t₂) e₂)
      | false => exact wpAny_pure (hQ s₂ (t₁.then t₂) e₂)
theorem TstW.cast {e : Expr} {b b' : Bool} (h : TstW c k sc ρ e b) (hb : b = b') : TstW c k sc ρ e b' := hb ▸ h

theorem mod_pos (a : Int) {b : Int} (hb : 0 < b) : 0 ≤ a.fmod b ∧ a.fmod b < b := ⟨Int.fmod_nonneg_of_pos a hb, Int.fmod_lt_of_pos a hb⟩

/-- the numbers of the law, and what they must give -/
noncomputable def WkFact (n : Int) (p : Nat) : Prop := wci n p = sumsF n (List.replicate p 1) (List.replicate p n) ∧ (wci n p).length ≤ 50000 ∧ ∀ i, i ≤ p → (rowsF n (((List.replicate p (1 : Int)).zip (List.replicate p n)).take i)).length ≤ 40000

theorem lsI_rep (x : Int) (p : Nat) : (List.replicate p [D.int x]).flatten = lsI (List.replicate p x) := by
  unfold lsI
  rw [List.map_replicate]
  induction p with
  | zero => rfl
  | succ p ih => rw [List.replicate_succ, List.flatten_cons, ih, List.replicate_succ]; rfl

theorem law_E (G : Gnd c) (hsc : c.wsc = dWk.scope) (hpl : c.pl = 41) (hpc : c.pc = 20) {N : List Int} {n10 n11 : Int} (hN : ρ "numbers" = some (.list (lsI N))) (h10 : N[10]? = some n10) (h11 : N[11]? = some n11)
    (F : ∀ (n : Int) (p : Nat), 0 ≤ n → n ≤ 4 → p ≤ 4 → WkFact n p) : ExW c KL scL ρ ((bodyAt 12).drop 20) (fun d => d = .bool true) := by
  have it10 : ∀ {ρ : Rho} {p pc pos : Pos} {j : Nat}, ρ "numbers" = some (.list (lsI N)) → Ev c KL scL ρ (.Subscript (.Name "numbers" p) (.Constant (.int 10) j pc) pos) (.int n10) := fun h => .item (.name h) (.inr rfl) ⟨by decide, by decide⟩ (by unfold lsI; rw [List.getElem?_map]; exact congrArg (Option.map D.int) h10) fun _ _ => rfl
  have it11 : ∀ {ρ : Rho} {p pc pos : Pos} {j : Nat}, ρ "numbers" = some (.list (lsI N)) → Ev c KL scL ρ (.Subscript (.Name "numbers" p) (.Constant (.int 11) j pc) pos) (.int n11) := fun h => .item (.name h) (.inr rfl) ⟨by decide, by decide⟩ (by unfold lsI; rw [List.getElem?_map]; exact congrArg (Option.map D.int) h11) fun _ _ => rfl
  have kTold : scL.names.lookup ("_law_told" : Str) = some NameKind.globalImplicit := by kernel_rfl
  have kSums : scL.names.lookup ("_law_sums" : Str) = some NameKind.globalImplicit := by kernel_rfl
  have kWk : scL.names.lookup ("weak_composition_iter" : Str) = some NameKind.globalImplicit := by kernel_rfl
  have mp := mod_pos (n10.fdiv 5) (b := 6) (by decide)
  have mw := mod_pos (n11.fdiv 9) (b := 6) (by decide)
  refine ExW.assign (d := .int ((n10.fdiv 5).fmod 6 - 1)) (Ev.w (.bin (.bin (.bin (it10 hN) (.int 5 _ _) (Op2.div _ _ (by decide) (by decide) (by decide))) (.int 6 _ _) (Op2.mod _ _ (by decide))) (.int 1 _ _) (Op2.sub _ _))) (.name (by kernel_rfl)) ?_
  refine ExW.assign (d := .int ((n11.fdiv 9).fmod 6 - 1)) (Ev.w (.bin (.bin (.bin (it11 (show (upd ρ _ _) _ = _ from hN)) (.int 9 _ _) (Op2.div _ _ (by decide) (by decide) (by decide))) (.int 6 _ _) (Op2.mod _ _ (by decide))) (.int 1 _ _) (Op2.sub _ _))) (.name (by kernel_rfl)) ?_
  have mp' : (-1 : Int) ≤ (n10.fdiv 5).fmod 6 - 1 ∧ (n10.fdiv 5).fmod 6 - 1 ≤ 4 := by omega
  have mw' : (-1 : Int) ≤ (n11.fdiv 9).fmod 6 - 1 ∧ (n11.fdiv 9).fmod 6 - 1 ≤ 4 := by omega
  generalize (n10.fdiv 5).fmod 6 - 1 = p at mp' ⊢
  generalize (n11.fdiv 9).fmod 6 - 1 = w at mw' ⊢
  generalize hρ : upd (upd ρ _ (D.int p)) _ (D.int w) = ρ'
  have rp : ρ' "parts" = some (.int p) := by rw [← hρ]; rfl
  have rw' : ρ' "wanted" = some (.int w) := by rw [← hρ]; rfl
  clear hρ
  have tst : ∀ {p1 p2 p3 p4 p5 p6 p7 : Pos} {j1 j2 : Nat}, Tst c KL scL ρ' (.BoolOp .Or [.Compare (.Name "wanted" p1) [.Lt] [.Constant (.int 0) j1 p2] p3, .Compare (.Name "parts" p4) [.Lt] [.Constant (.int 0) j2 p5] p6] p7) (decide (w < 0) || decide (p < 0)) :=
    .or (Tst.cmp (.name rw') (.int 0 _ _) (Op2.lt w 0)) fun _ => Tst.cmp (.name rp) (.int 0 _ _) (Op2.lt p 0)
  by_cases hb : w < 0 ∨ p < 0
  · have hd : (decide (w < 0) || decide (p < 0)) = true := by rw [Bool.or_eq_true, decide_eq_true_eq, decide_eq_true_eq]; exact hb
    refine ExW.assign (d := .none) (Ev.w (Ev.ite (tst) (fun _ => .none _ _) fun h => absurd (hd.symm.trans h) (by decide))) (.name (by kernel_rfl)) ?_
    obtain ⟨f, hf, hc, hg, hr⟩ := wk_boom (k := 197) G w p hb
    exact ExW.ret (EvW.cmp (ev_boom (k := 197) G kTold (glo_def kWk hf) hc (.cons (.name rw') (.cons (.name rp) .nil)) hg hr) (.name (by rfl)) Op2.eqNone) rfl
  · have hd : (decide (w < 0) || decide (p < 0)) = false := by
      rw [Bool.or_eq_false_iff, decide_eq_false_iff_not, decide_eq_false_iff_not]; exact ⟨fun h => hb (.inl h), fun h => hb (.inr h)⟩
    obtain ⟨q, rfl⟩ : ∃ q : Nat, p = q := ⟨p.toNat, by omega⟩
    obtain ⟨e1, e2, e3⟩ := F w q (by omega) (by omega) (by omega)
    have hq1 : (List.replicate q (1 : Int)).length = q := List.length_replicate
    have hq2 : (List.replicate q w).length = q := List.length_replicate
    obtain ⟨fs, hfs, hcs, hs⟩ := sums_call (k := 199) G w (List.replicate q 1) (List.replicate q w) (by omega) (by omega) (by rw [hq1, hq2]) (by rw [hq1]; omega) (fun x hx => by rw [List.eq_of_mem_replicate hx]; decide) (fun x hx => by rw [List.eq_of_mem_replicate hx]; omega) (by rw [hq1]; exact e3)
    have rep : ∀ {e : Expr} {x : Int} {p1 p2 p3 : Pos}, Ev c KL scL ρ' e (.int x) → (∀ env, starEach [e] env = (false, eval e env) :: starEach [] env) → Ev c KL scL ρ' (.BinOp (.List [e] p1) .Mult (.Name "parts" p2) p3) (.list (lsI (List.replicate q x))) := fun {e x p1 p2 p3} he hst =>
      Ev.cast (.bin (.listD (.cons he .nil hst) (by show 1 ≤ 100000; decide)) (.name rp) (Op2.mulL [D.int x] q (by omega) (by omega) (by show 1 ≤ 1000; decide))) (by rw [Int.toNat_natCast, lsI_rep])
    refine ExW.assign (d := rowsD (sumsF w (List.replicate q 1) (List.replicate q w))) (Ev.w (Ev.ite (tst) (fun h => absurd (hd.symm.trans h) (by decide)) fun _ =>
      .call G (glo_def kSums hfs) hcs (.cons (.name rw') (.cons (rep (.int 1 _ _) (fun _ => rfl)) (.cons (rep (.name rw') (fun _ => rfl)) .nil))) hs)) (.name (by kernel_rfl)) ?_
    obtain ⟨f, hf, hc, hg⟩ := wk_gen G hsc hpl hpc w q (by omega) (by omega) (by omega)
    rw [e1] at hg e2
    exact ExW.ret (EvW.cmp (Ev.w (ev_told (k := 198) G kTold (EvSrc.call G (glo_def kWk hf) hc (.cons (.name rw') (.cons (.name rp) .nil)) (hg.mono (by omega)) (by decide)) (by rw [List.length_map]; exact e2))) (.name (by rfl)) (Op2.eqRows _)) rfl
end
end Dio

namespace Dio
set_option tactic.hygienic false
open PySem PySem.W PySem.Calls PyProof.Rows
open Sem (wp)
set_option maxRecDepth 100000

/-! Zz5. law, from bounds on -/
section
variable {c : Cx} {k : Nat} {sc : Scope} {ρ : Rho}
noncomputable def FvFact (v : List Int) (s : Int) : Prop := fiv v s = sumsF s (List.replicate v.length 1) v ∧ (fiv v s).length ≤ 50000 ∧ ∀ i, i ≤ v.length → (rowsF s (((List.replicate v.length (1 : Int)).zip v).take i)).length ≤ 40000
noncomputable def scB : Scope := { kind := ScopeKind.function, names := [(Str.ofString ".0", NameKind.local), (Str.ofString "number", NameKind.local)], isGenerator := false, isCoroutine := false }
theorem scB_ok : CompSc scB scL := compSc_of rfl (by decide) (by decide) (by decide)
theorem lsI_get {N : List Int} {i : Nat} {x : Int} (h : N[i]? = some x) : (lsI N)[i]? = some (D.int x) := by unfold lsI; rw [List.getElem?_map]; exact congrArg (Option.map D.int) h
theorem lsI_len (l : List Int) : (lsI l).length = l.length := by unfold lsI; rw [List.length_map]
theorem lsI_take (l : List Int) (n : Nat) : (lsI l).take n = lsI (l.take n) := by unfold lsI; rw [List.map_take]
theorem lsI_drop (l : List Int) (n : Nat) : (lsI l).drop n = lsI (l.drop n) := by unfold lsI; rw [List.map_drop]

theorem law_D (G : Gnd c) (hsc : c.wsc = dWk.scope) (hpl : c.pl = 41) (hpc : c.pc = 20) {N : List Int} {n10 n11 : Int} (hN : ρ "numbers" = some (.list (lsI N))) (hl : N.length = 12) (h10 : N[10]? = some n10) (h11 : N[11]? = some n11)
    (F : ∀ (n : Int) (p : Nat), 0 ≤ n → n ≤ 4 → p ≤ 4 → WkFact n p) (F' : ∀ (v : List Int) (s : Int), v.length ≤ 4 → (∀ x ∈ v, 0 ≤ x ∧ x ≤ 3) → 0 ≤ s → s ≤ 7 → FvFact v s) : ExW c KL scL ρ ((bodyAt 12).drop 17) (fun d => d = .bool true) := by
  have kTold : scL.names.lookup ("_law_told" : Str) = some NameKind.globalImplicit := by kernel_rfl
  have kSums : scL.names.lookup ("_law_sums" : Str) = some NameKind.globalImplicit := by kernel_rfl
  have kFv : scL.names.lookup ("fixed_integer_vector_iter" : Str) = some NameKind.globalImplicit := by kernel_rfl
  have gtup : Glo c scL "tuple" (.type "tuple") := glo_builtin G (by kernel_rfl) (by kernel_rfl) (by kernel_rfl) (by kernel_rfl) (by decide) (by decide)
  have glen : Glo c scL "len" (.builtin "len") := glo_builtin G (by kernel_rfl) (by kernel_rfl) (by kernel_rfl) (by kernel_rfl) (by decide) (by decide)
  have m5 := mod_pos n10 (b := 5) (by decide)
  have mw := mod_pos n11 (b := 9) (by decide)
  obtain ⟨t, ht⟩ : ∃ t : Nat, n10.fmod 5 = t := ⟨(n10.fmod 5).toNat, by omega⟩
  have hsl : ∀ {p1 p2 p3 p4 p5 : Pos} {j1 j2 : Nat}, Ev c KL scL ρ (.Subscript (.Name "numbers" p1) (.Slice (some (.Constant (.int 1) j1 p2)) (some (.Constant (.int 5) j2 p3)) none p4) p5) (.list (lsI ((N.take 5).drop 1))) := fun {p1 p2 p3 p4 p5 j1 j2} =>
    .sliceT (.name hN) (.some (.int 1 _ _)) (.some (.int 5 _ _)) (by rw [lsI_len]; omega) fun vs hv c X h r => by
      rw [show (some (1 : Int)) = some ((1 : Nat) : Int) from rfl, show (some (5 : Int)) = some ((5 : Nat) : Int) from rfl, pick_from_to 1 5 (by rw [hv, lsI_len]; omega) (by omega), ← lsI_drop, ← lsI_take]
      exact (r.take 5).drop 1
  have hfl : ((lsI ((N.take 5).drop 1)).flatMap fun d => match d with | .int x => [D.int (x.fmod 4)] | _ => []) = lsI (((N.take 5).drop 1).map (·.fmod 4)) := by
    unfold lsI
    rw [List.flatMap_map, List.map_map]
    exact flatMap_one (fun u : Int => D.int (u.fmod 4)) _
  refine ExW.assign (d := .list (lsI ((((N.take 5).drop 1).map (·.fmod 4)).take t))) (Ev.w (.sliceT (l := lsI (((N.take 5).drop 1).map (·.fmod 4))) (Ev.cast (ev_comp (N := 100) (scope := scB) (items := lsI ((N.take 5).drop 1)) (f := fun d => match d with | .int x => [.int (x.fmod 4)] | _ => [])
      (fun _ => inner scB ρ) scB_ok (.val hsl (.inr rfl)) (Sub.refl _) (fun pre d ds hp => ?_) ?_ (den_one _ _ _ _ _)) ?_) .nil (.some (.bin (.item (.name hN) (.inr rfl) ⟨by decide, by decide⟩ (lsI_get h10) fun _ _ => rfl) (.int 5 _ _) (Op2.mod _ _ (by decide)))) ?_ ?_)) (.name (by kernel_rfl)) ?_
  · obtain ⟨x, hx, rfl⟩ := cut_mem hp
    refine ⟨_, _, .name (by kernel_rfl), body_emit (by decide) (.bin (.name (by rfl)) (.int 4 _ _) (Op2.mod x 4 (by decide))), sub_fresh (by rfl)⟩
  · rw [hfl, lsI_len, List.length_map, List.length_drop, List.length_take]; omega
  · exact congrArg D.list hfl
  · rw [lsI_len, List.length_map, List.length_drop, List.length_take]; omega
  · intro vs hv c X h r
    rw [ht, pick_upto, ← lsI_take]
    exact r.take t
  have hbd : ∀ x ∈ (((N.take 5).drop 1).map (·.fmod 4)).take t, 0 ≤ x ∧ x ≤ 3 := fun x hx => by
    obtain ⟨y, _, rfl⟩ := List.mem_map.mp (List.mem_of_mem_take hx)
    have := mod_pos y (b := 4) (by decide)
    exact ⟨this.1, by omega⟩
  have hbl : ((((N.take 5).drop 1).map (·.fmod 4)).take t).length ≤ 4 := by rw [List.length_take, List.length_map, List.length_drop, List.length_take]; omega
  generalize (((N.take 5).drop 1).map (·.fmod 4)).take t = bd at hbd hbl ⊢
  refine ExW.assign (d := .int (n11.fmod 9 - 1)) (Ev.w (.bin (.bin (.item (.name (show (upd ρ _ _) _ = _ from hN)) (.inr rfl) ⟨by decide, by decide⟩ (lsI_get h11) fun _ _ => rfl) (.int 9 _ _) (Op2.mod _ _ (by decide))) (.int 1 _ _) (Op2.sub _ _))) (.name (by kernel_rfl)) ?_
  have mw' : (-1 : Int) ≤ n11.fmod 9 - 1 ∧ n11.fmod 9 - 1 ≤ 7 := by omega
  generalize n11.fmod 9 - 1 = w at mw' ⊢
  generalize hρ : upd (upd ρ _ (D.list (lsI bd))) _ (D.int w) = ρ'
  have rb : ρ' "bounds" = some (.list (lsI bd)) := by rw [← hρ]; rfl
  have rw' : ρ' "wanted" = some (.int w) := by rw [← hρ]; rfl
  have rN : ρ' "numbers" = some (.list (lsI N)) := by rw [← hρ]; exact hN
  clear hρ
  have args : ∀ {p1 p2 p3 p4 : Pos}, EvL c KL scL ρ' [.Call (.Name "tuple" p1) [.Name "bounds" p2] [] p3, .Name "wanted" p4] [tupI bd, .int w] := .cons (.call G gtup (.type _) (.cons (.name rb) .nil) (call_tupleL _ (by rw [lsI_len]; omega))) (.cons (.name rw') .nil)
  have rest : ExW c KL scL ρ' ((bodyAt 12).drop 20) (fun d => d = .bool true) := law_E G hsc hpl hpc rN h10 h11 F
  by_cases hb : w < 0
  · have hd : decide (w < 0) = true := decide_eq_true hb
    obtain ⟨f, hf, hc, hg, hr⟩ := fiv_boom (k := 197) G bd w hb
    exact ExW.ite (TstW.cmp (ev_boom (k := 197) G kTold (glo_def kFv hf) hc args hg hr) (Ev.ite (Tst.cmp (.name rw') (.int 0 _ _) (Op2.lt w 0)) (fun _ => .none _ _) fun h => absurd (hd.symm.trans h) (by decide)) Op2.neNone) (fun h => by cases h) fun _ => rest
  · have hd : decide (w < 0) = false := decide_eq_false hb
    obtain ⟨e1, e2, e3⟩ := F' bd w hbl hbd (by omega) (by omega)
    have hq1 : (List.replicate bd.length (1 : Int)).length = bd.length := List.length_replicate
    obtain ⟨fs, hfs, hcs, hs⟩ := sums_call (k := 199) G w (List.replicate bd.length 1) bd (by omega) (by omega) hq1 (by rw [hq1]; omega) (fun x hx => by rw [List.eq_of_mem_replicate hx]; decide) (fun x hx => by have := hbd x hx; omega) (by rw [hq1]; exact e3)
    obtain ⟨f, hf, hc, hg⟩ := fiv_gen G bd w (by omega) (fun x hx => by have := hbd x hx; omega) (by omega) (by omega)
    rw [e1] at hg e2
    have ones : ∀ {p1 p2 p3 p4 p5 p6 : Pos} {j : Nat}, Ev c KL scL ρ' (.BinOp (.List [.Constant (.int 1) j p1] p2) .Mult (.Call (.Name "len" p3) [.Name "bounds" p4] [] p5) p6) (.list (lsI (List.replicate bd.length 1))) :=
      Ev.cast (.bin (.listD (.cons (.int 1 _ _) .nil) (by show 1 ≤ 100000; decide)) (.call G glen (.builtin _) (.cons (.name rb) .nil) (call_len (.inr rfl) (by rw [lsI_len]; omega))) (Op2.mulL [D.int 1] _ (by rw [lsI_len]; omega) (by rw [lsI_len]; omega) (by show 1 ≤ 1000; decide))) (by rw [lsI_len, Int.toNat_natCast, lsI_rep])
    exact ExW.ite (TstW.cmp (Ev.w (ev_told (k := 198) G kTold (EvSrc.call G (glo_def kFv hf) hc args (hg.mono (by omega)) (by decide)) (by rw [List.length_map]; exact e2))) (Ev.ite (Tst.cmp (.name rw') (.int 0 _ _) (Op2.lt w 0)) (fun h => absurd (hd.symm.trans h) (by decide)) fun _ =>
      .call G (glo_def kSums hfs) hcs (.cons (.name rw') (.cons ones (.cons (.name rb) .nil))) hs) (Op2.neRows _)) (fun h => by cases h) fun _ => rest
end
end Dio

namespace Dio
set_option tactic.hygienic false
open PySem PySem.W PySem.Calls PyProof.Rows
open Sem (wp)
set_option maxRecDepth 100000

/-! Zz6. law, the greatest common divisor -/
set_option tactic.hygienic true in
/-- extended_euclid's answer is bounded -/
theorem ee_bound : ∀ (n : Nat) (a b : Int), 0 ≤ a → 0 ≤ b → b < n → 0 < a + b →
    (eeF n a b).2.2 = Int.gcd a b ∧ a * (eeF n a b).1 + b * (eeF n a b).2.1 = Int.gcd a b ∧
    (-(max 1 (b / Int.gcd a b)) ≤ (eeF n a b).1 ∧ (eeF n a b).1 ≤ max 1 (b / Int.gcd a b)) ∧ (-(max 1 (a / Int.gcd a b)) ≤ (eeF n a b).2.1 ∧ (eeF n a b).2.1 ≤ max 1 (a / Int.gcd a b))
  | 0, a, b, _, hb, hn, _ => by omega
  | n + 1, a, b, ha, hb, hn, hs => by
    unfold eeF
    split
    · rename_i h
      subst h
      have e : ((Int.gcd a 0 : Nat) : Int) = a := by rw [Int.gcd_zero_right]; omega
      rw [e]
      have h1 : (0 : Int) ≤ a / a := Int.ediv_nonneg ha ha
      refine ⟨rfl, by simp, ?_, ?_⟩
      · show -(max 1 (0 / a)) ≤ 1 ∧ 1 ≤ max 1 (0 / a); omega
      · show -(max 1 (a / a)) ≤ 0 ∧ 0 ≤ max 1 (a / a); omega
    · rename_i h
      have h1 := Int.emod_nonneg a h
      have h2 := Int.emod_lt_of_pos a (show 0 < b by omega)
      have hq : 0 ≤ a / b := Int.ediv_nonneg ha hb
      have h3 : b * (a / b) + a % b = a := Int.mul_ediv_add_emod a b
      obtain ⟨e1, e2, ⟨e3, e4⟩, ⟨e5, e6⟩⟩ := ee_bound n b (a % b) (by omega) h1 (by omega) (by omega)
      have eg : Int.gcd b (a % b) = Int.gcd a b := by rw [Int.gcd_comm a b]; exact gcd_emod_r ha hb
      rw [eg] at e1 e2 e3 e4 e5 e6
      have hgp : (0 : Int) < Int.gcd a b := by
        have := Int.gcd_pos_of_ne_zero_right a h
        omega
      have hdb : ((Int.gcd a b : Nat) : Int) ∣ b := Int.gcd_dvd_right ..
      have hda : ((Int.gcd a b : Nat) : Int) ∣ a := Int.gcd_dvd_left ..
      have hdm : ((Int.gcd a b : Nat) : Int) ∣ a % b := by rw [← eg]; exact Int.gcd_dvd_right ..
      dsimp only
      generalize ((Int.gcd a b : Nat) : Int) = g at *
      generalize hu : (eeF n b (a % b)).1 = u at *
      generalize hv : (eeF n b (a % b)).2.1 = v at *
      have hb1 : 1 ≤ b / g := by
        have := Int.le_of_dvd (by omega) hdb
        exact (Int.le_ediv_iff_mul_le hgp).mpr (by omega)
      have em : max 1 (b / g) = b / g := by omega
      refine ⟨e1, ?_, ?_, ?_⟩
      · show a * v + b * (u - a / b * v) = g
        rw [← e2]
        have h4 : a * v = b * (a / b) * v + a % b * v := by rw [← Int.add_mul, h3]
        rw [h4, Int.mul_sub, ← Int.mul_assoc]
        omega
      · exact ⟨e5, e6⟩
      · show -(max 1 (a / g)) ≤ u - a / b * v ∧ u - a / b * v ≤ max 1 (a / g)
        by_cases hz : a % b = 0
        · rw [hz] at hu hv
          have e0 : u = 1 ∧ v = 0 := by
            cases n with
            | zero => omega
            | succ n => unfold eeF at hu hv; rw [if_pos rfl] at hu hv; exact ⟨hu.symm, hv.symm⟩
          rw [e0.1, e0.2]
          have : 0 ≤ a / g := Int.ediv_nonneg ha (by omega)
          omega
        · have hm1 : 1 ≤ a % b / g := by
            have := Int.le_of_dvd (by omega) hdm
            exact (Int.le_ediv_iff_mul_le hgp).mpr (by omega)
          have em2 : max 1 (a % b / g) = a % b / g := by omega
          rw [em] at e5 e6
          rw [em2] at e3 e4
          have ea : a / g = b / g * (a / b) + a % b / g := by
            have : a = g * (b / g * (a / b) + a % b / g) := by
              rw [Int.mul_add, ← Int.mul_assoc, Int.mul_ediv_cancel' hdb, Int.mul_ediv_cancel' hdm, h3]
            conv => lhs; rw [this]
            exact Int.mul_ediv_cancel_left _ (by omega)
          have k1 : a / b * v ≤ a / b * (b / g) := Int.mul_le_mul_of_nonneg_left e6 hq
          have k2 : a / b * (-(b / g)) ≤ a / b * v := Int.mul_le_mul_of_nonneg_left e5 hq
          rw [Int.mul_neg] at k2
          rw [Int.mul_comm (b / g)] at ea
          omega

theorem ee_zero : eeF 101 0 0 = (1, 0, 0) := rfl

noncomputable def divs (a b : Int) : List Int := (rngI 1 42).filter fun x => decide (a.fmod x = 0) && decide (b.fmod x = 0)
theorem divs_mem {a b x : Int} : x ∈ divs a b ↔ (1 ≤ x ∧ x < 42) ∧ x ∣ a ∧ x ∣ b := by
  unfold divs
  rw [List.mem_filter, Bool.and_eq_true, decide_eq_true_eq, decide_eq_true_eq]
  have hr : x ∈ rngI 1 42 ↔ 1 ≤ x ∧ x < 42 := ⟨mem_rngI, fun h => by
    unfold rngI
    exact List.mem_map.mpr ⟨(x - 1).toNat, List.mem_range.mpr (by omega), by omega⟩⟩
  rw [hr]
  constructor
  · rintro ⟨h, h1, h2⟩; exact ⟨h, Int.dvd_of_fmod_eq_zero h1, Int.dvd_of_fmod_eq_zero h2⟩
  · rintro ⟨h, h1, h2⟩; exact ⟨h, Int.fmod_eq_zero_of_dvd h1, Int.fmod_eq_zero_of_dvd h2⟩
theorem divs_max {a b : Int} (ha : 0 ≤ a) (hb : 0 ≤ b) (ha' : a ≤ 40) (hb' : b ≤ 40) (hs : 0 < a + b) : ((Int.gcd a b : Nat) : Int) ∈ divs a b ∧ ∀ x ∈ divs a b, x ≤ ((Int.gcd a b : Nat) : Int) := by
  have hgp : (0 : Int) < Int.gcd a b := by
    by_cases h : a = 0
    · have := Int.gcd_pos_of_ne_zero_right a (b := b) (by omega); omega
    · have := Int.gcd_pos_of_ne_zero_left (a := a) b h; omega
  have hle : ((Int.gcd a b : Nat) : Int) ≤ 40 := by
    by_cases h : a = 0
    · have := Int.le_of_dvd (by omega) (Int.gcd_dvd_right (a := a) (b := b)); omega
    · have := Int.le_of_dvd (by omega) (Int.gcd_dvd_left (a := a) (b := b)); omega
  refine ⟨divs_mem.mpr ⟨by omega, Int.gcd_dvd_left .., Int.gcd_dvd_right ..⟩, fun x hx => ?_⟩
  obtain ⟨_, h1, h2⟩ := divs_mem.mp hx
  exact Int.le_of_dvd hgp (Int.dvd_coe_gcd h1 h2)
end Dio

namespace Dio
set_option tactic.hygienic false
open PySem PySem.W PySem.Calls PyProof.Rows
open Sem (wp)
set_option maxRecDepth 100000

/-! Zz7. law, from the second a on -/
section
variable {c : Cx} {k : Nat} {sc : Scope} {ρ : Rho}
noncomputable def scK : Scope := { kind := ScopeKind.function, names := [(Str.ofString ".0", NameKind.local), (Str.ofString "k", NameKind.local), (Str.ofString "a", NameKind.free), (Str.ofString "b", NameKind.free)], isGenerator := false, isCoroutine := false }
theorem scK_ok : CompSc scK scL := compSc_of rfl (by decide) (by kernel_rfl) (by decide)

theorem law_C (G : Gnd c) (hsc : c.wsc = dWk.scope) (hpl : c.pl = 41) (hpc : c.pc = 20) {N : List Int} {n8 n9 n10 n11 : Int} (hN : ρ "numbers" = some (.list (lsI N))) (hl : N.length = 12) (h8 : N[8]? = some n8) (h9 : N[9]? = some n9) (h10 : N[10]? = some n10) (h11 : N[11]? = some n11)
    (F : ∀ (n : Int) (p : Nat), 0 ≤ n → n ≤ 4 → p ≤ 4 → WkFact n p) (F' : ∀ (v : List Int) (s : Int), v.length ≤ 4 → (∀ x ∈ v, 0 ≤ x ∧ x ≤ 3) → 0 ≤ s → s ≤ 7 → FvFact v s) : ExW c KL scL ρ ((bodyAt 12).drop 11) (fun d => d = .bool true) := by
  have grange : Glo c scL "range" (.type "range") := glo_builtin G (by kernel_rfl) (by kernel_rfl) (by kernel_rfl) (by kernel_rfl) (by decide) (by decide)
  have gmax : Glo c scL "max" (.builtin "max") := glo_builtin G (by kernel_rfl) (by kernel_rfl) (by kernel_rfl) (by kernel_rfl) (by decide) (by decide)
  have gabs : Glo c scL "abs" (.builtin "abs") := glo_builtin G (by kernel_rfl) (by kernel_rfl) (by kernel_rfl) (by kernel_rfl) (by decide) (by decide)
  have kEE : scL.names.lookup ("extended_euclid" : Str) = some NameKind.globalImplicit := by kernel_rfl
  have ma := mod_pos n8 (b := 41) (by decide)
  have mb := mod_pos n9 (b := 41) (by decide)
  refine ExW.assign (d := .int (n8.fmod 41)) (Ev.w (.bin (.item (.name hN) (.inr rfl) ⟨by decide, by decide⟩ (lsI_get h8) fun _ _ => rfl) (.int 41 _ _) (Op2.mod _ _ (by decide)))) (.nameC (by kernel_rfl)) ?_
  refine ExW.assign (d := .int (n9.fmod 41)) (Ev.w (.bin (.item (.name (show (upd ρ _ _) _ = _ from hN)) (.inr rfl) ⟨by decide, by decide⟩ (lsI_get h9) fun _ _ => rfl) (.int 41 _ _) (Op2.mod _ _ (by decide)))) (.nameC (by kernel_rfl)) ?_
  generalize n8.fmod 41 = a at ma ⊢
  generalize n9.fmod 41 = b at mb ⊢
  generalize hρ : upd (upd ρ _ (D.int a)) _ (D.int b) = ρ'
  have ra : ρ' "a" = some (.int a) := by rw [← hρ]; rfl
  have rb : ρ' "b" = some (.int b) := by rw [← hρ]; rfl
  have rN : ρ' "numbers" = some (.list (lsI N)) := by rw [← hρ]; exact hN
  clear hρ hN
  obtain ⟨f, hf, hc, hcall⟩ := ee_call G 101 a b (by omega) (by omega) (by omega) (by omega) (by omega)
  refine ExW.assign (d := trio (eeF 101 a b)) (Ev.w (.call G (glo_def kEE hf) hc (.cons (.name ra) (.cons (.name rb) .nil)) (hcall.mono (by decide)))) (As.tup (.cons (.name (by kernel_rfl)) (.cons (.name (by kernel_rfl)) (.cons (.name (by kernel_rfl)) .nil)))) ?_
  obtain ⟨g, hg⟩ : ∃ g : Int, ((Int.gcd a b : Nat) : Int) = g := ⟨_, rfl⟩
  have hg0 : 0 ≤ g := by omega
  have hgle : g ≤ 100 := by
    by_cases hs : 0 < a + b
    · have := divs_mem.mp (divs_max (by omega) (by omega) (by omega) (by omega) hs).1
      rw [hg] at this; omega
    · obtain rfl : a = 0 := by omega
      obtain rfl : b = 0 := by omega
      rw [← hg]; decide
  have hee : (eeF 101 a b).2.2 = g ∧ a * (eeF 101 a b).1 + b * (eeF 101 a b).2.1 = g ∧ (0 < g → (-(max 1 (b / g)) ≤ (eeF 101 a b).1 ∧ (eeF 101 a b).1 ≤ max 1 (b / g)) ∧ (-(max 1 (a / g)) ≤ (eeF 101 a b).2.1 ∧ (eeF 101 a b).2.1 ≤ max 1 (a / g))) := by
    by_cases hs : 0 < a + b
    · obtain ⟨e1, e2, e3, e4⟩ := ee_bound 101 a b (by omega) (by omega) (by omega) hs
      rw [hg] at e1 e2 e3 e4
      exact ⟨e1, e2, fun _ => ⟨e3, e4⟩⟩
    · obtain rfl : a = 0 := by omega
      obtain rfl : b = 0 := by omega
      have : g = 0 := by rw [← hg]; rfl
      subst this
      rw [ee_zero]
      exact ⟨rfl, rfl, fun h => absurd h (by decide)⟩
  obtain ⟨e1, e2, e3⟩ := hee
  rw [e1]
  generalize (eeF 101 a b).1 = x at e2 e3 ⊢
  generalize (eeF 101 a b).2.1 = y at e2 e3 ⊢
  generalize hρ : upd (upd (upd ρ' _ (D.int x)) _ (D.int y)) _ (D.int g) = ρ''
  have ra' : ρ'' "a" = some (.int a) := by rw [← hρ]; exact ra
  have rb' : ρ'' "b" = some (.int b) := by rw [← hρ]; exact rb
  have rN' : ρ'' "numbers" = some (.list (lsI N)) := by rw [← hρ]; exact rN
  have rx : ρ'' "x" = some (.int x) := by rw [← hρ]; rfl
  have ry : ρ'' "y" = some (.int y) := by rw [← hρ]; rfl
  have rm : ρ'' "most" = some (.int g) := by rw [← hρ]; rfl
  clear hρ ra rb rN
  have hfl : ((lsI (rngI 1 42)).flatMap fun d => match d with | .int x => (if decide (a.fmod x = 0) && decide (b.fmod x = 0) then [D.int x] else []) | _ => []) = lsI (divs a b) := by
    unfold divs
    generalize rngI 1 42 = l
    induction l with
    | nil => rfl
    | cons x l ih =>
      show (if decide (a.fmod x = 0) && decide (b.fmod x = 0) then [D.int x] else []) ++ (lsI l).flatMap _ = _
      rw [ih, List.filter_cons]
      split <;> rfl
  have hdl : (divs a b).length ≤ 100 := Nat.le_trans (List.length_filter_le ..) (by unfold rngI; rw [List.length_map, List.length_range]; decide)
  refine ExW.assign (d := .int g) (Ev.w (Ev.ite (x := decide (0 < a + b)) (Tst.cmp (.bin (.name ra') (.name rb') (Op2.add _ _)) (.int 0 _ _) (Op2.gt (a + b) 0)) (fun h => ?_) fun h => ?_)) (.name (by kernel_rfl)) ?_
  · have hs := of_decide_eq_true h
    have hm := divs_max (by omega) (by omega) (by omega) (by omega) hs
    rw [hg] at hm
    refine .call G gmax (.builtin _) (.cons (d := .list (lsI (divs a b))) (Ev.cast (ev_comp (N := 100) (scope := scK) (items := lsI (rngI 1 42)) (f := fun d => match d with | .int x => (if decide (a.fmod x = 0) && decide (b.fmod x = 0) then [D.int x] else []) | _ => []) (fun _ => inner scK ρ'') scK_ok
      (rng_eq 1 42 ▸ EvI.range2 G grange (.cons (.int 1 _ _) (.cons (.int 42 _ _) .nil)) ⟨by decide, by decide⟩ ⟨by decide, by decide⟩) (Sub.refl _) (fun pre d ds hp => ?_) ?_ (den_if _ _ _ _ _ _)) (congrArg D.list hfl)) .nil) (call_maxL _ g hm.1 hm.2)
    · obtain ⟨z, hz, rfl⟩ := cut_mem hp
      have hzr := mem_rngI hz
      have wa : (inner scK ρ'') "a" = some (.int a) := ra'
      have wb : (inner scK ρ'') "b" = some (.int b) := rb'
      refine ⟨_, _, .name (by kernel_rfl), body_if (by decide) (Tst.and (Tst.cmp (.bin (.name (show (upd (inner scK ρ'') _ _) _ = _ from wa)) (.name (by rfl)) (Op2.mod a z (by omega))) (.int 0 _ _) (Op2.eq _ 0)) fun _ => Tst.cmp (.bin (.name (show (upd (inner scK ρ'') _ _) _ = _ from wb)) (.name (by rfl)) (Op2.mod b z (by omega))) (.int 0 _ _) (Op2.eq _ 0)) (fun _ => .name (by rfl)), sub_fresh (by rfl)⟩
    · rw [hfl, lsI_len]; exact hdl
  · have hs := of_decide_eq_false h
    have ea : a = 0 := by omega
    have eb : b = 0 := by omega
    have : g = 0 := by rw [← hg, ea, eb]; rfl
    rw [this]; exact .int 0 _ _
  generalize hρ : upd ρ'' _ (D.int g) = ρ₃
  have ra : ρ₃ "a" = some (.int a) := by rw [← hρ]; exact ra'
  have rb : ρ₃ "b" = some (.int b) := by rw [← hρ]; exact rb'
  have rN : ρ₃ "numbers" = some (.list (lsI N)) := by rw [← hρ]; exact rN'
  have rx' : ρ₃ "x" = some (.int x) := by rw [← hρ]; exact rx
  have ry' : ρ₃ "y" = some (.int y) := by rw [← hρ]; exact ry
  have rm' : ρ₃ "most" = some (.int g) := by rw [← hρ]; exact rm
  have rd : ρ₃ "due" = some (.int g) := by rw [← hρ]; rfl
  clear hρ
  refine ExW.ite (x := false) (Tst.w (.cast (Tst.or (Tst.cmp (.name rm') (.name rd) (Op2.ne g g)) fun _ => Tst.cmp (.bin (.bin (.name ra) (.name rx') (Op2.mul a x (.of_left (intBits_le_64 (by omega) (by omega))))) (.bin (.name rb) (.name ry') (Op2.mul b y (.of_left (intBits_le_64 (by omega) (by omega))))) (Op2.add _ _)) (.name rd) (Op2.ne _ g)) ?_)) (fun h => by cases h) fun _ => ?_
  · rw [e2]; simp
  refine ExW.ite (x := false) (Tst.w (.cast (Tst.and (b₂ := false) (Tst.cmp (.name rd) (.int 0 _ _) (Op2.gt g 0)) fun h => .cast (Tst.or (b₁ := false) (b₂ := false) ?_ fun _ => ?_) rfl) (Bool.and_false _))) (fun h => by cases h) fun _ => ?_
  · have hgp := of_decide_eq_true h
    obtain ⟨⟨k1, k2⟩, _⟩ := e3 hgp
    refine .cast (Tst.cmp (.call G gabs (.builtin _) (.cons (.name rx') .nil) (call_abs x)) (.call G gmax (.builtin _) (.cons (.int 1 _ _) (.cons (.bin (.name rb) (.name rd) (Op2.div b g (by omega) (by omega) (by omega))) .nil)) (call_max2 1 _)) (Op2.gt _ _)) (decide_eq_false ?_)
    rw [Int.fdiv_eq_ediv_of_nonneg _ hg0]
    split <;> omega
  · have hgp := of_decide_eq_true h
    obtain ⟨_, k1, k2⟩ := e3 hgp
    refine .cast (Tst.cmp (.call G gabs (.builtin _) (.cons (.name ry') .nil) (call_abs y)) (.call G gmax (.builtin _) (.cons (.int 1 _ _) (.cons (.bin (.name ra) (.name rd) (Op2.div a g (by omega) (by omega) (by omega))) .nil)) (call_max2 1 _)) (Op2.gt _ _)) (decide_eq_false ?_)
    rw [Int.fdiv_eq_ediv_of_nonneg _ hg0]
    split <;> omega
  exact law_D G hsc hpl hpc rN hl h10 h11 F F'
end
end Dio

namespace Dio
set_option tactic.hygienic false
open PySem PySem.W PySem.Calls PyProof.Rows
open Sem (wp)
set_option maxRecDepth 100000

/-! Zz8. law, from the first a on -/
section
variable {c : Cx} {k : Nat} {sc : Scope} {ρ : Rho}
theorem ev_sorted {e : Expr} {p pos : Pos} {rs ss : List (List Int)} {d : Nat} (G : Gnd c) (g : Glo c sc "sorted" (.builtin "sorted")) (h : Ev c k sc ρ e (rowsD rs)) (hp : rs.Perm ss) (hs : Asc ss) (hd : ∀ r ∈ rs, r.length = d) (h64 : rs.length < 64)
    (hst : ∀ env, starEach [e] env = [(false, eval e env)] := by intro _; rfl) : EvW c k sc ρ (.Call (.Name "sorted" p) [e] [] pos) (rowsD ss) := by
  intro env X A s Q E S hA hfr hf hi he hQ
  refine wpAny_Call_NameR (g.eval G S hi.toIv ?_)
  refine callWith_of G (.builtin _) ?_
  rw [hst]
  refine Calls.evalArgs_plain (Calls.spliced_cons (h env X A s _ E S hA hi he fun v s₁ t₁ r₁ => Calls.spliced_nil ⟨(hi.tr t₁).toIv, rfl, ?_⟩))
  have hi₁ := hi.tr t₁
  have he₁ := he.step hi t₁
  obtain ⟨m, cm, V, hv⟩ := id he₁
  refine sorted_rows hi₁ r₁ hp hs hd h64 V.ns V.low fun u s₂ t₂ n₂ r₂ => ?_
  refine hQ u s₂ (t₁.ownL.then (t₂.mono (fun b _ hb => .inl hb) fun _ h => h)) ⟨m, cm, ⟨n₂, fun x b hx => ?_, V.apart, V.low, V.lowc, V.code⟩, fun x d hd => ?_⟩ r₂
  · obtain ⟨o, ho, hd⟩ := V.cell x b hx
    refine ⟨o, t₂.keep b o ho (fun h => V.lowc x b (mem_of_lookup hx) (h ▸ hi.lowP)) fun h => ?_, hd⟩
    subst h
    obtain ⟨o', es', ep, ho', hd', _⟩ := V.ns
    rw [ho] at ho'; cases ho'
    rw [hd] at hd'; cases hd'
  · obtain ⟨v, hr, h1⟩ := hv x d hd
    exact ⟨v, hr.tr hi₁.toIv t₂, h1⟩

noncomputable def BsFact (a b z : Int) : Prop := ((bs a b z).map fun p => [p.1, p.2]).Perm (sumsF z [a, b] [z, z]) ∧ Asc (sumsF z [a, b] [z, z]) ∧ (bs a b z).length < 64 ∧ ∀ i, i ≤ 2 → (rowsF z ((([a, b] : List Int).zip [z, z]).take i)).length ≤ 40000

theorem law_B (G : Gnd c) (hsc : c.wsc = dWk.scope) (hpl : c.pl = 41) (hpc : c.pc = 20) {N : List Int} (hN : ρ "numbers" = some (.list (lsI N))) (hl : N.length = 12)
    (F : ∀ (n : Int) (p : Nat), 0 ≤ n → n ≤ 4 → p ≤ 4 → WkFact n p) (F' : ∀ (v : List Int) (s : Int), v.length ≤ 4 → (∀ x ∈ v, 0 ≤ x ∧ x ≤ 3) → 0 ≤ s → s ≤ 7 → FvFact v s)
    (F2 : ∀ a b z : Int, 1 ≤ a → a ≤ 7 → 1 ≤ b → b ≤ 7 → 0 ≤ z → z ≤ 20 → BsFact a b z) : ExW c KL scL ρ ((bodyAt 12).drop 6) (fun d => d = .bool true) := by
  have kTold : scL.names.lookup ("_law_told" : Str) = some NameKind.globalImplicit := by kernel_rfl
  have kSums : scL.names.lookup ("_law_sums" : Str) = some NameKind.globalImplicit := by kernel_rfl
  have kBs : scL.names.lookup ("base_solution_linear" : Str) = some NameKind.globalImplicit := by kernel_rfl
  have gsort : Glo c scL "sorted" (.builtin "sorted") := glo_builtin G (by kernel_rfl) (by kernel_rfl) (by kernel_rfl) (by kernel_rfl) (by decide) (by decide)
  have hget : ∀ i, i < 12 → ∃ x, N[i]? = some x := fun i hi => ⟨_, List.getElem?_eq_getElem (by omega)⟩
  obtain ⟨n5, h5⟩ := hget 5 (by decide)
  obtain ⟨n6, h6⟩ := hget 6 (by decide)
  obtain ⟨n7, h7⟩ := hget 7 (by decide)
  obtain ⟨n8, h8⟩ := hget 8 (by decide)
  obtain ⟨n9, h9⟩ := hget 9 (by decide)
  obtain ⟨n10, h10⟩ := hget 10 (by decide)
  obtain ⟨n11, h11⟩ := hget 11 (by decide)
  have ma := mod_pos n5 (b := 9) (by decide)
  have mb := mod_pos n6 (b := 9) (by decide)
  have mz := mod_pos n7 (b := 22) (by decide)
  refine ExW.assign (d := .int (n5.fmod 9 - 1)) (Ev.w (.bin (.bin (.item (.name hN) (.inr rfl) ⟨by decide, by decide⟩ (lsI_get h5) fun _ _ => rfl) (.int 9 _ _) (Op2.mod _ _ (by decide))) (.int 1 _ _) (Op2.sub _ _))) (.nameC (by kernel_rfl)) ?_
  refine ExW.assign (d := .int (n6.fmod 9 - 1)) (Ev.w (.bin (.bin (.item (.name (show (upd ρ _ _) _ = _ from hN)) (.inr rfl) ⟨by decide, by decide⟩ (lsI_get h6) fun _ _ => rfl) (.int 9 _ _) (Op2.mod _ _ (by decide))) (.int 1 _ _) (Op2.sub _ _))) (.nameC (by kernel_rfl)) ?_
  refine ExW.assign (d := .int (n7.fmod 22 - 1)) (Ev.w (.bin (.bin (.item (.name (show (upd (upd ρ _ _) _ _) _ = _ from hN)) (.inr rfl) ⟨by decide, by decide⟩ (lsI_get h7) fun _ _ => rfl) (.int 22 _ _) (Op2.mod _ _ (by decide))) (.int 1 _ _) (Op2.sub _ _))) (.name (by kernel_rfl)) ?_
  have ma' : (-1 : Int) ≤ n5.fmod 9 - 1 ∧ n5.fmod 9 - 1 ≤ 7 := by omega
  have mb' : (-1 : Int) ≤ n6.fmod 9 - 1 ∧ n6.fmod 9 - 1 ≤ 7 := by omega
  have mz' : (-1 : Int) ≤ n7.fmod 22 - 1 ∧ n7.fmod 22 - 1 ≤ 20 := by omega
  generalize n5.fmod 9 - 1 = a at ma' ⊢
  generalize n6.fmod 9 - 1 = b at mb' ⊢
  generalize n7.fmod 22 - 1 = z at mz' ⊢
  generalize hρ : upd (upd (upd ρ _ (D.int a)) _ (D.int b)) _ (D.int z) = ρ'
  have ra : ρ' "a" = some (.int a) := by rw [← hρ]; rfl
  have rb : ρ' "b" = some (.int b) := by rw [← hρ]; rfl
  have rz : ρ' "c" = some (.int z) := by rw [← hρ]; rfl
  have rN : ρ' "numbers" = some (.list (lsI N)) := by rw [← hρ]; exact hN
  clear hρ hN
  have rest : ∀ d : D, ExW c KL scL (upd ρ' "told" d) ((bodyAt 12).drop 11) (fun d => d = .bool true) := fun d =>
    law_C G hsc hpl hpc (show (upd ρ' _ _) _ = _ from rN) hl h8 h9 h10 h11 F F'
  have tst : ∀ (d : D) {p1 p2 p3 p4 p5 p6 p7 p8 p9 p10 : Pos} {j1 j2 j3 : Nat}, Tst c KL scL (upd ρ' "told" d) (.BoolOp .Or [.Compare (.Name "a" p1) [.Lt] [.Constant (.int 1) j1 p2] p3, .Compare (.Name "b" p4) [.Lt] [.Constant (.int 1) j2 p5] p6, .Compare (.Name "c" p7) [.Lt] [.Constant (.int 0) j3 p8] p9] p10) (decide (a < 1) || decide (b < 1) || decide (z < 0)) := fun d =>
    .or3 (Tst.cmp (.name (show (upd ρ' _ _) _ = _ from ra)) (.int 1 _ _) (Op2.lt a 1)) (fun _ => Tst.cmp (.name (show (upd ρ' _ _) _ = _ from rb)) (.int 1 _ _) (Op2.lt b 1)) fun _ _ => Tst.cmp (.name (show (upd ρ' _ _) _ = _ from rz)) (.int 0 _ _) (Op2.lt z 0)
  have args : ∀ {p1 p2 p3 : Pos}, EvL c KL scL ρ' [.Name "a" p1, .Name "b" p2, .Name "c" p3] [.int a, .int b, .int z] := .cons (.name ra) (.cons (.name rb) (.cons (.name rz) .nil))
  by_cases hb : a < 1 ∨ b < 1 ∨ z < 0
  · obtain ⟨f, hf, hc, hg, hr⟩ := bs_boom (k := 197) G a b z (by omega)
    refine ExW.assign (d := .none) (ev_boom (k := 197) G kTold (glo_def kBs hf) hc args hg hr) (.name (by kernel_rfl)) ?_
    refine ExW.ite (x := true) (Tst.w (.cast (tst .none) (by simp only [Bool.or_eq_true, decide_eq_true_eq]; omega))) (fun _ => ?_) fun h => by cases h
    exact ExW.ite (x := false) (Tst.w (Tst.cmp (.name (by rfl)) (.none _ _) (Op2.isNotNone .none))) (fun h => by cases h) fun _ => rest .none
  · obtain ⟨f, hf, hc, hg⟩ := bs_gen G a b z (by omega) (by omega) (by omega) (by omega) (by omega) (by omega)
    obtain ⟨e1, e2, e3, e4⟩ := F2 a b z (by omega) (by omega) (by omega) (by omega) (by omega) (by omega)
    have er : (bs a b z).map pr = ((bs a b z).map fun p => [p.1, p.2]).map tupI := by rw [List.map_map]; rfl
    have el : ((bs a b z).map fun p => [p.1, p.2]).length = (bs a b z).length := List.length_map ..
    have e2l : ∀ r ∈ (bs a b z).map (fun p => [p.1, p.2]), r.length = 2 := fun r hr => by
      obtain ⟨q, _, rfl⟩ := List.mem_map.mp hr
      rfl
    rw [er] at hg
    generalize ((bs a b z).map fun p => [p.1, p.2]) = rs at hg e1 el e2l
    obtain ⟨fs, hfs, hcs, hs⟩ := sums_call (k := 199) G z [a, b] [z, z] (by omega) (by omega) rfl (by show 2 ≤ 10; decide) (fun x hx => by simp only [List.mem_cons, List.not_mem_nil, or_false] at hx; omega) (fun x hx => by simp only [List.mem_cons, List.not_mem_nil, or_false] at hx; omega) e4
    refine ExW.assign (d := rowsD rs) (Ev.w (ev_told (k := 198) G kTold (EvSrc.call G (glo_def kBs hf) hc args (hg.mono (by decide)) (by decide)) (by rw [List.length_map]; omega))) (.name (by kernel_rfl)) ?_
    refine ExW.ite (x := false) (Tst.w (.cast (tst _) (by simp only [Bool.or_eq_false_iff, decide_eq_false_iff_not]; omega))) (fun h => by cases h) fun _ => ?_
    refine ExW.ite (x := false) (TstW.cast (TstW.or (b₁ := false) (b₂ := false) (Tst.w (Tst.cmp (.name (by rfl)) (.none _ _) (Op2.isNone (rowsD rs)))) fun _ => TstW.cmp (ev_sorted (d := 2) G gsort (.name (by rfl)) e1 e2 e2l (by omega)) (.call G (glo_def kSums hfs) hcs (.cons (.name (show (upd ρ' _ _) _ = _ from rz)) (.cons (.listD (.cons (.name (show (upd ρ' _ _) _ = _ from ra)) (.cons (.name (show (upd ρ' _ _) _ = _ from rb)) .nil)) (by show 2 ≤ 100000; decide)) (.cons (.listD (.cons (.name (show (upd ρ' _ _) _ = _ from rz)) (.cons (.name (show (upd ρ' _ _) _ = _ from rz)) .nil)) (by show 2 ≤ 100000; decide)) .nil))) hs) (Op2.neRows _)) rfl) (fun h => by cases h) fun _ => rest _
end
end Dio

namespace Dio
set_option tactic.hygienic false
open PySem PySem.W PySem.Calls PyProof.Rows
open Sem (wp)
set_option maxRecDepth 100000

/-! Zz9. law, whole -/
section
variable {c : Cx} {k kg : Nat} {sc : Scope} {ρ : Rho}
theorem EvSrc.callG {nm : Str} {p pos : Pos} {es : List Expr} {as ys : List D} {f : Value} (G : Gnd c) (g : Glo c sc nm f) (hc : Callee c f) (ha : EvL c k sc ρ es as)
    (h : ∀ (X : Addr → Prop) (A : Around) (s : Shared) (vs : List Value) (Q : Value → Shared → Prop) (E : Value → Shared → Prop), okA 3 A → Ok c X s → RepL c X s.heap vs as →
        (∀ v s' O OG, Tr c X no no s s' → (∀ b, O b ∨ v = .ref b → ¬ Is s.heap b ∧ Is s'.heap b) → (∀ i, OG i → s.gens.size ≤ i) → (∀ a g, v = .ref a → GenAt s'.heap a g → s.gens.size ≤ g) → Src c kg false v ys X O OG s' → Q v s') → wpAny (MF c) A (PySem.call f vs []) Q E s)
    (hk : 3 ≤ k) (hst : NoStar es := by intro _ _; rfl) : EvSrc c k kg sc ρ (.Call (.Name nm p) es [] pos) ys := fun env X A s Q E S hA hi he hQ => by
  refine wp_call G g hc ha S hA hi he (fun vs s₁ t₁ r₁ => ?_) hst
  refine h X A s₁ vs _ E (hA.less hk) (hi.tr t₁) r₁ fun v s₂ O OG t₂ hO hOG hg hs => ?_
  exact hQ v s₂ O OG (t₁.seq t₂) (fun b hb => ⟨fun h => (hO b hb).1 (t₁.there b h), (hO b hb).2⟩) (fun i hi => Nat.le_trans t₁.gsize (hOG i hi)) (fun a g ha hg' => Nat.le_trans t₁.gsize (hg a g ha hg')) hs

noncomputable def SolFact (t : Int) (cs : List Int) : Prop := (solF 5 t cs).Perm (sumsF t cs (List.replicate cs.length t)) ∧ Asc (sumsF t cs (List.replicate cs.length t)) ∧ (solF 5 t cs).length < 64 ∧ ∀ i, i ≤ cs.length → (rowsF t ((cs.zip (List.replicate cs.length t)).take i)).length ≤ 40000
noncomputable def capL : List Int := [8, 8, 8, 8, 5, 4]
noncomputable def dfltL : List Int := [4, 1, 1, 2, 3, 5, 2, 9, 6, 4, 2, 3]

theorem cap_at : ∀ m, m < 6 → capL[m]? = some (capL.getD m 0) ∧ 0 < capL.getD m 0 ∧ capL.getD m 0 ≤ 8 := by decide
theorem EvL.ints : ∀ (l : List (Int × Nat × Pos)), EvL c k sc ρ (l.map fun x => Expr.Constant (.int x.1) x.2.1 x.2.2) (lsI (l.map fun x => x.1))
  | [] => .nil
  | x :: l => .cons (.int _ _ _) (EvL.ints l) fun _ => rfl
theorem Ev.listEq {es : List Expr} {p : Pos} {ns : List Int} {L : List (Int × Nat × Pos)} (he : es = L.map fun x => Expr.Constant (.int x.1) x.2.1 x.2.2) (hn : ns = L.map fun x => x.1) (hl : ns.length ≤ 100) : Ev c k sc ρ (.List es p) (.list (lsI ns)) := by
  subst he hn
  exact .listD (EvL.ints L) (by rw [lsI_len]; omega)

theorem law_A (G : Gnd c) (hsc : c.wsc = dWk.scope) (hpl : c.pl = 41) (hpc : c.pc = 20) {S : List Int} (hS : ρ "script" = some (.list (lsI S))) (hSl : S.length ≤ 1000)
    (F : ∀ (n : Int) (p : Nat), 0 ≤ n → n ≤ 4 → p ≤ 4 → WkFact n p) (F' : ∀ (v : List Int) (s : Int), v.length ≤ 4 → (∀ x ∈ v, 0 ≤ x ∧ x ≤ 3) → 0 ≤ s → s ≤ 7 → FvFact v s)
    (F2 : ∀ a b z : Int, 1 ≤ a → a ≤ 7 → 1 ≤ b → b ≤ 7 → 0 ≤ z → z ≤ 20 → BsFact a b z)
    (F3 : ∀ (t : Int) (cs : List Int), cs.length ≤ 5 → (∀ x ∈ cs, 1 ≤ x ∧ x ≤ 5) → 0 ≤ t → t < capL.getD cs.length 0 → SolFact t cs) : ExW c KL scL ρ (bodyAt 12) (fun d => d = .bool true) := by
  have kTold : scL.names.lookup ("_law_told" : Str) = some NameKind.globalImplicit := by kernel_rfl
  have kSums : scL.names.lookup ("_law_sums" : Str) = some NameKind.globalImplicit := by kernel_rfl
  have kSd : scL.names.lookup ("_law_solved" : Str) = some NameKind.globalImplicit := by kernel_rfl
  have gsort : Glo c scL "sorted" (.builtin "sorted") := glo_builtin G (by kernel_rfl) (by kernel_rfl) (by kernel_rfl) (by kernel_rfl) (by decide) (by decide)
  have glen : Glo c scL "len" (.builtin "len") := glo_builtin G (by kernel_rfl) (by kernel_rfl) (by kernel_rfl) (by kernel_rfl) (by decide) (by decide)
  have l1 : (lsI (S.take 12)).length ≤ 12 := by rw [lsI_len, List.length_take]; omega
  have hsl : ∀ {p1 p2 p3 p4 : Pos} {j2 : Nat}, Ev c KL scL ρ (.Subscript (.Name "script" p1) (.Slice none (some (.Constant (.int 12) j2 p2)) none p3) p4) (.list (lsI (S.take 12))) := fun {p1 p2 p3 p4 j2} =>
    .sliceT (.name hS) .nil (.some (.int 12 _ _)) (by rw [lsI_len]; omega) fun vs hv c X h r => by
      rw [show (some (12 : Int)) = some ((12 : Nat) : Int) from rfl, pick_upto, ← lsI_take]
      exact r.take 12
  refine ExW.assign (d := .list (lsI ((S.take 12 ++ dfltL).take 12))) (Ev.w (.sliceT (l := lsI (S.take 12 ++ dfltL)) (Ev.cast (.bin hsl (@Ev.listEq c KL scL ρ _ _ dfltL [(4, _, _), (1, _, _), (1, _, _), (2, _, _), (3, _, _), (5, _, _), (2, _, _), (9, _, _), (6, _, _), (4, _, _), (2, _, _), (3, _, _)] rfl rfl (by decide)) (Op2.addL _ _ (by have := lsI_len dfltL; have h12 : dfltL.length = 12 := rfl; omega))) ?_) .nil (.some (.int 12 _ _)) ?_ ?_)) (.name (by kernel_rfl)) ?_
  · unfold lsI; rw [List.map_append]
  · have h12 : dfltL.length = 12 := rfl
    rw [lsI_len, List.length_append, List.length_take]; omega
  · intro vs hv c X h r
    rw [show (some (12 : Int)) = some ((12 : Nat) : Int) from rfl, pick_upto, ← lsI_take]
    exact r.take 12
  have hNl : ((S.take 12 ++ dfltL).take 12).length = 12 := by
    rw [List.length_take, List.length_append, List.length_take]
    have : dfltL.length = 12 := rfl
    omega
  generalize (S.take 12 ++ dfltL).take 12 = N at hNl ⊢
  obtain ⟨n0, h0⟩ : ∃ x, N[0]? = some x := ⟨_, List.getElem?_eq_getElem (by omega)⟩
  have mm := mod_pos (n0.fdiv 10) (b := 6) (by decide)
  obtain ⟨m, hm⟩ : ∃ m : Nat, (if 3 < S.length then (n0.fdiv 10).fmod 6 else 2) = (m : Int) := ⟨(if 3 < S.length then (n0.fdiv 10).fmod 6 else 2).toNat, by split <;> omega⟩
  have hm5 : m ≤ 5 := by split at hm <;> omega
  refine ExW.assign (d := .int m) (Ev.w (Ev.ite (x := decide ((3 : Int) < (lsI S).length)) (Tst.cmp (.call G glen (.builtin _) (.cons (.name (show (upd ρ _ _) _ = _ from hS)) .nil) (call_len (.inr rfl) (by rw [lsI_len]; omega))) (.int 3 _ _) (Op2.gt _ 3)) (fun h => ?_) fun h => ?_)) (.name (by kernel_rfl)) ?_
  · have h' := of_decide_eq_true h
    rw [lsI_len] at h'
    rw [if_pos (by omega)] at hm
    rw [← hm]
    exact .bin (.bin (.item (.name (by rfl)) (.inr rfl) ⟨by decide, by decide⟩ (lsI_get h0) fun _ _ => rfl) (.int 10 _ _) (Op2.div _ _ (by decide) (by decide) (by decide))) (.int 6 _ _) (Op2.mod _ _ (by decide))
  · have h' := of_decide_eq_false h
    rw [lsI_len] at h'
    rw [if_neg (by omega)] at hm
    rw [← hm]
    exact .int 2 _ _
  clear hm mm
  have hcap := cap_at m (by omega)
  obtain ⟨cap, hcap, hc0, hc8⟩ : ∃ cap : Int, capL[m]? = some cap ∧ 0 < cap ∧ cap ≤ 8 := ⟨_, hcap⟩
  have mt := mod_pos n0 hc0
  refine ExW.assign (d := .int (n0.fmod cap)) (Ev.w (.bin (.item (.name (show (upd (upd ρ _ _) _ _) _ = _ from rfl)) (.inr rfl) ⟨by decide, by decide⟩ (lsI_get h0) fun _ _ => rfl) (.itemX (i := (m : Int)) (@Ev.listEq c KL scL _ _ _ capL [(8, _, _), (8, _, _), (8, _, _), (8, _, _), (5, _, _), (4, _, _)] rfl rfl (by decide)) (.name (by rfl)) ⟨by omega, by omega⟩ (show (lsI capL)[((m : Int)).toNat]? = some (D.int cap) from lsI_get hcap)) (Op2.mod _ _ (by omega)))) (.name (by kernel_rfl)) ?_
  generalize n0.fmod cap = t at mt ⊢
  generalize hρ : upd (upd (upd ρ _ (D.list (lsI N))) _ (D.int m)) _ (D.int t) = ρ'
  have rN : ρ' "numbers" = some (.list (lsI N)) := by rw [← hρ]; rfl
  have rm : ρ' "many" = some (.int m) := by rw [← hρ]; rfl
  have rt : ρ' "total" = some (.int t) := by rw [← hρ]; rfl
  clear hρ hS
  have hsn : ∀ {p1 p2 p3 p4 p5 p6 p7 : Pos} {j1 j2 : Nat}, Ev c KL scL ρ' (.Subscript (.Name "numbers" p1) (.Slice (some (.Constant (.int 1) j1 p2)) (some (.BinOp (.Constant (.int 1) j2 p3) .Add (.Name "many" p4) p5)) none p6) p7) (.list (lsI ((N.take (1 + m)).drop 1))) := fun {p1 p2 p3 p4 p5 p6 p7 j1 j2} =>
    .sliceT (.name rN) (.some (.int 1 _ _)) (.some (.bin (.int 1 _ _) (.name rm) (Op2.add _ _))) (by rw [lsI_len]; omega) fun vs hv c X h r => by
      rw [show (some (1 : Int)) = some ((1 : Nat) : Int) from rfl, show (some (1 + (m : Int))) = some ((1 + m : Nat) : Int) from by rw [Int.natCast_add]; rfl, pick_from_to 1 (1 + m) (by rw [hv, lsI_len]; omega) (by omega), ← lsI_drop, ← lsI_take]
      exact (r.take (1 + m)).drop 1
  have hitl : ((N.take (1 + m)).drop 1).length = m := by rw [List.length_drop, List.length_take]; omega
  generalize (N.take (1 + m)).drop 1 = its at hsn hitl
  have hfl : ((lsI its).flatMap fun d => match d with | .int x => [D.int (1 + x.fmod 5)] | _ => []) = lsI (its.map fun x => 1 + x.fmod 5) := by
    unfold lsI
    rw [List.flatMap_map, List.map_map]
    exact flatMap_one (fun u : Int => D.int (1 + u.fmod 5)) _
  have hcs : ∀ x ∈ its.map fun x => 1 + x.fmod 5, 1 ≤ x ∧ x ≤ 5 := fun x hx => by
    obtain ⟨y, _, rfl⟩ := List.mem_map.mp hx
    have := mod_pos y (b := 5) (by decide)
    omega
  have hcl : (its.map fun x => 1 + x.fmod 5).length = m := by rw [List.length_map, hitl]
  refine ExW.plain (ss := [_]) (R' := fun o => o = .next (upd ρ' "steps" (.list (lsI (its.map fun x => 1 + x.fmod 5))))) (ex_comp (N := 100) (scope := scB) (items := lsI its) (f := fun d => match d with | .int x => [.int (1 + x.fmod 5)] | _ => [])
      (fun _ => inner scB ρ') scB_ok (.val hsn (.inr rfl)) (Sub.refl _) (fun pre d ds hp => ?_) ?_ (den_one _ _ _ _ _) (As.name (by kernel_rfl)) (Ex.nil ?_) (fun env he => by cases env; subst he; rfl)) (fun ρ'' hρ'' => ?_) (fun d h => by cases h)
  · obtain ⟨x, hx, rfl⟩ := cut_mem hp
    exact ⟨_, _, .name (by kernel_rfl), body_emit (by decide) (.bin (.int 1 _ _) (.bin (.name (by rfl)) (.int 5 _ _) (Op2.mod x 5 (by decide))) (Op2.add _ _)), sub_fresh (by rfl)⟩
  · rw [hfl, lsI_len, hcl]; omega
  · rw [hfl]
  cases hρ''
  generalize (its.map fun x => 1 + x.fmod 5) = cs at hcs hcl ⊢
  have rs : (upd ρ' "steps" (.list (lsI cs))) "steps" = some (.list (lsI cs)) := rfl
  have rN' : (upd ρ' "steps" (.list (lsI cs))) "numbers" = some (.list (lsI N)) := rN
  have rm' : (upd ρ' "steps" (.list (lsI cs))) "many" = some (.int m) := rm
  have rt' : (upd ρ' "steps" (.list (lsI cs))) "total" = some (.int t) := rt
  generalize upd ρ' "steps" (.list (lsI cs)) = ρ₁ at rs rN' rm' rt' ⊢
  obtain ⟨e1, e2, e3, e4⟩ := F3 t cs (by omega) hcs mt.1 (by rw [hcl, List.getD_eq_getElem?_getD, hcap]; exact mt.2)
  obtain ⟨fd, hfd, hcd, hd⟩ := solved_call G t cs (by omega) (fun x hx => by have := hcs x hx; omega) mt.1 (by omega)
  obtain ⟨fs, hfs, hcs', hs⟩ := sums_call (k := 199) G t cs (List.replicate cs.length t) mt.1 (by omega) (by rw [List.length_replicate]) (by omega) (fun x hx => by have := hcs x hx; omega) (fun x hx => by rw [List.eq_of_mem_replicate hx]; omega) e4
  refine ExW.assign (d := rowsD (solF 5 t cs)) (Ev.w (Ev.mono (ev_told (k := 131) G kTold (EvSrc.callG G (glo_def kSd hfd) hcd (.cons (.name rt') (.cons (.name rs) .nil)) hd (by decide)) (by rw [List.length_map]; omega)) (by decide))) (.name (by kernel_rfl)) ?_
  refine ExW.ite (x := false) (TstW.cast (TstW.or (b₁ := false) (b₂ := false) (Tst.w (Tst.cmp (.name (by rfl)) (.none _ _) (Op2.isNone (rowsD (solF 5 t cs))))) fun _ => TstW.cmp (ev_sorted (d := cs.length) G gsort (.name (by rfl)) e1 e2 (solF_len 5 t cs) e3) (.call G (glo_def kSums hfs) hcs' (.cons (.name (show (upd ρ₁ _ _) _ = _ from rt')) (.cons (.name (show (upd ρ₁ _ _) _ = _ from rs))
    (.cons (Ev.cast (.bin (.listD (.cons (.name (show (upd ρ₁ _ _) _ = _ from rt')) .nil) (by show 1 ≤ 100000; decide)) (.name (show (upd ρ₁ _ _) _ = _ from rm')) (Op2.mulL [D.int t] m (by omega) (by omega) (by show 1 ≤ 1000; decide))) (by rw [Int.toNat_natCast, lsI_rep, hcl])) .nil))) hs) (Op2.neRows _)) rfl) (fun h => by cases h) fun _ => ?_
  exact law_B G hsc hpl hpc (show (upd ρ₁ _ _) _ = _ from rN') hNl F F' F2
end
end Dio

namespace Dio
set_option tactic.hygienic false
open PySem PySem.W PySem.Calls PyProof.Rows
open Sem (wp)
set_option maxRecDepth 100000

/-! Zza. the call of law, and the row -/
theorem wk_only : ∀ d ∈ recsOf q, d.scope = dWk.scope → d.name = dWk.name := by
  have h : ((recsOf q).all fun d => !(d.scope.names.map (·.1) == dWk.scope.names.map (·.1)) || d.name == dWk.name) = true := by kernel_rfl
  intro d hd hs
  have := List.all_eq_true.mp h d hd
  rw [hs] at this
  simpa using this

theorem loose_none : looseW q [] = [] := by kernel_rfl
theorem lits_none : litsOf q = [] := by kernel_rfl
theorem clss_none : clssOf q [] = [] := by kernel_rfl

theorem law_pre {args : List WData} (h : R0.row.toRowW.claim.pre args = true) : ∃ S : List Int, args = [.list (S.map .int)] ∧ S.length ≤ 63 := by
  obtain ⟨h1, h2⟩ := Bool.and_eq_true_iff.mp (show (WShape.hasAll [] args [.list .int] && R0.pre.holds [] { args := args }) = true from h)
  match args, h1, h2 with
  | [d], h1, h2 =>
    have h3 : WShape.has [] d (.list .int) = true := by simpa [WShape.hasAll] using h1
    obtain ⟨xs, rfl, hx⟩ := hasW_list h3
    obtain ⟨S, rfl⟩ := items_int hx
    refine ⟨S, rfl, ?_⟩
    have hp : R0.pre = .and (.not (.lt (.lit (.int 63)) (.len (.arg 0)))) (.lit (.bool true)) := by rfl
    rw [hp] at h2
    simp [WTm.holds, WTm.value] at h2
    have hless : less? (.int 63) (.int (S.length : Int)) = some (decide ((63 : Int) < S.length)) := by rfl
    rw [hless] at h2
    by_cases hl : (63 : Int) < S.length
    · rw [decide_eq_true hl] at h2
      cases h2
    · omega
  | [], h1, _ => simp [WShape.hasAll] at h1
  | _ :: _ :: _, h1, _ => simp [WShape.hasAll] at h1

theorem repL_well {c : Cx} {X : Addr → Prop} {P : Params} {h : Heap} : ∀ {vs : List Value} {S : List Int}, WellAll P h vs (S.map .int) → RepL c X h vs (lsI S)
  | _, [], .nil => .nil
  | _, x :: S, .cons w ws => by
    cases w with
    | int _ t => exact .cons (.int x t) (repL_well (S := S) ws)

section
variable {c : Cx}
/-- law called by the claim's caller -/
theorem call_law {S : List Int} (G : Gnd c) (hex : ∀ {ρ : Rho}, ρ "script" = some (.list (lsI S)) → ExW c KL scL ρ (bodyAt 12) (fun d => d = .bool true)) {X : Addr → Prop} {s : Shared} {v : Value} {a : Addr} {Q : Value → Shared → Prop} {E : Value → Shared → Prop} (hmg : c.mg "law" = some (.ref a))
    (hi : Ok c X s) (hr : Rep c X s.heap v (.list (lsI S))) (hQ : ∀ s', Tr c X no no s s' → Q (.bool true) s') : wpAny (MF c) callerA (call (.ref a) [v] []) Q E s := by
  obtain ⟨a', o, pm, code, doc, h1, h2, h3, h4⟩ := G.fn dLw (dd_mem ..)
  rw [dLw_name] at h1
  obtain rfl : a' = a := by rw [hmg] at h1; cases h1; rfl
  refine wpAny_call (codeAny_of_tree ?_)
  have ho := hi.toIv.get G h2 (by rw [h3]; intro z; cases z)
  show wpAny _ callerA.in1 (callAny (.ref a') ⟨[v], []⟩) _ _ s
  simp only [callAny]
  refine wpAny_bind (wpAny_load ho ?_)
  obtain ⟨cc, oc, fs, tq, hc, hoc, hdc, hq⟩ := hi.toIv.code G h4
  have hco : (docDef dLw.name dLw.params dLw.body dLw.scope pm code doc).scope.isCoroutine = false := by kernel_rfl
  have hgn : (docDef dLw.name dLw.params dLw.body dLw.scope pm code doc).scope.isGenerator = false := by kernel_rfl
  have hcode : (docDef dLw.name dLw.params dLw.body dLw.scope pm code doc).code = .ref cc := hc
  simp only [h3, callFunction, hco, hgn, hcode]
  refine wpAny_bind (m := field (.ref cc) 1) (wpAny_field hoc hdc hq (wpAny_bind (wpAny_pure ?_)))
  have hb : bindArgs (docDef dLw.name dLw.params dLw.body dLw.scope pm code doc) ⟨[v], []⟩ = pure ((["script"] : List Str).zip [v]) := by kernel_rfl
  refine wpAny_bind (wpAny_of_eq hb ?_)
  refine wpAny_bind (frame_ok (sc := dLw.scope) (ns := ["script"]) (scOk_of (by kernel_rfl)) hi (.cons hr .nil) (fun hw => hcode ▸ G.wfn dLw (dd_mem ..) hw a' o _ (by rw [dLw_name]; exact hmg) h2 h3) fun env s₁ S' he t₁ hown hfr _ _ => ?_)
  have hi₁ := hi.tr t₁
  have hA : okA (KL + 1) callerA := ⟨rfl, by decide, by decide⟩
  refine wpAny_bind (wpAny_enterFrame (hi₁.toIv.nolimit G) hA.depth (wpAny_pure (And.intro rfl (codeF_func ?_))))
  show wpAny (MF c) (callerA.deeper env) (execs dLw.body env) _ _ s₁
  rw [dLw_body]
  refine hex (ρ := bindR ["script"] [.list (lsI S)] fun _ => none) (by rfl) env X (callerA.deeper env) s₁ _ _ S' (okA.deeper (k := KL) hA) rfl hfr hi₁ he fun d u s₂ t₂ hd r => ?_
  subst hd
  cases r
  exact hQ s₂ (t₁.trans t₂ (fun x hx hw => hown x hw hx) (fun _ _ h => h) (fun _ _ h => h.elim id id))

theorem walk_law (F : ∀ (n : Int) (p : Nat), 0 ≤ n → n ≤ 4 → p ≤ 4 → WkFact n p) (F' : ∀ (v : List Int) (s : Int), v.length ≤ 4 → (∀ x ∈ v, 0 ≤ x ∧ x ≤ 3) → 0 ≤ s → s ≤ 7 → FvFact v s)
    (F2 : ∀ a b z : Int, 1 ≤ a → a ≤ 7 → 1 ≤ b → b ≤ 7 → 0 ≤ z → z ≤ 20 → BsFact a b z)
    (F3 : ∀ (t : Int) (cs : List Int), cs.length ≤ 5 → (∀ x ∈ cs, 1 ≤ x ∧ x ≤ 5) → 0 ≤ t → t < capL.getD cs.length 0 → SolFact t cs) : WalkJ q [] (fun _ _ => True) R0.row.toRowW dLaw.1 [] := by
  intro w s₀ s₁ mg mb Gr a o pm cd doc dV kV ho hd hcr hdf hmg hg0 args vals as L hpre hlay hreads hwell hlow
  obtain ⟨S, rfl, hSl⟩ := law_pre hpre
  obtain ⟨v, vs', rfl, W1, W2⟩ := wellAll_cons_inv hwell
  cases W2
  cases W1 with
  | @list l vs _ el hw =>
    obtain ⟨aw, ow, fd, cw, P, t1, t2, t3, t4, t5, t6⟩ := Gr.T.tab dWk (dd_mem ..)
    rw [dWk_name] at t1
    obtain ⟨c, hc⟩ : ∃ c : Cx, c = { hb := s₁.heap, cw := cw, P := P, os := s₁.os, w := w, mg := mg, mb := mb, pl := 41, pc := 20, wsc := dWk.scope, wg := by kernel_rfl } := ⟨_, rfl⟩
    have G : Gnd c := by
      subst hc
      refine ⟨Gr.T.g, Gr.T.b, Gr.T.nolimit, Gr.T.fn, Gr.T.builtins, t6, t5, fun d hd hs a' o' fd' e1 e2 e3 => ?_, fun x h1 h2 => Gr.T.free x h1 (by rw [loose_none]; simp) h2 (by rw [lits_none]; simp) (by rw [loose_none, clss_none]; simp), Gr.T.bmain⟩
      have e1 : mg d.name = some (.ref a') := e1
      have e2 : s₁.heap.get? a' = some o' := e2
      rw [wk_only d hd hs, dWk_name, t1] at e1
      cases e1
      rw [t2] at e2
      cases e2
      rw [t3] at e3
      cases e3
      exact t4
    have hiP : c.Old c.P := by subst hc; exact ⟨_, t6.2⟩
    have hiC : c.Old c.cw := by subst hc; obtain ⟨⟨o', vs', e1, e2⟩, e3⟩ := t6; exact ⟨o', e1⟩
    have hi : Ok c (fun _ => False) s₁ := by
      refine ⟨⟨fun b o e _ => by subst hc; exact e, ⟨#[], by subst hc; exact t5, by subst hc; exact t6, .inl rfl⟩, by subst hc; rfl, hiP, hiC⟩, fun b h => h.elim⟩
    have hr : Rep c (fun _ => False) s₁.heap (.ref l) (.list (lsI S)) := .list ⟨⟨0, el⟩, fun h => h, fun _ o e => by subst hc; exact e⟩ (repL_well hw)
    have hsc : c.wsc = dWk.scope := by subst hc; rfl
    have hpl : c.pl = 41 := by subst hc; rfl
    have hpc : c.pc = 20 := by subst hc; rfl
    have hMF : modelF R0.row.toRowW.prog w = MF c := by subst hc; rfl
    have hname : dLaw.1.name = "law" := by kernel_rfl
    rw [hname] at hmg
    rw [hMF]
    refine call_law G (fun hρ => law_A G hsc hpl hpc hρ (by omega) F F' F2 F3) (by subst hc; exact hmg) hi hr fun s' t => ?_
    have hi' := hi.tr t
    refine ⟨⟨.inl ⟨.bool true, .bool true, [], rfl, fun _ => rfl, .bool true, by kernel_rfl, fun _ => ⟨List.nodup_nil, fun _ h => nomatch h⟩⟩, ⟨fun b o e => ?_, fun b o e => ?_⟩, t.os, fun y hy => ?_⟩, fun y hy => ?_⟩
    · by_cases hP : b = c.P
      · subst hP
        obtain ⟨ps, _, ht, _⟩ := hi'.tab
        have h6 : s₁.heap.TableAt c.cw c.P #[] := by subst hc; exact t6
        rw [h6.2] at e
        cases e
        exact .inr (.inl ⟨h6.isCodeTable, rfl, #[], ps, rfl, by rw [ht.2]; simp⟩)
      · exact .inl (hi'.base b o (by subst hc; exact e) hP)
    · exact hi'.toIv.is_old ⟨o, by subst hc; exact e⟩
    · have hz : y.isSuspended = false := by
        obtain ⟨i, hlt, rfl⟩ := Array.mem_iff_getElem.mp hy
        exact t.gnew i _ (Array.getElem?_eq_getElem hlt) (by rw [hg0]; exact Nat.zero_le _) fun h => h
      cases y <;> first | rfl | cases hz
    · obtain ⟨i, hlt, rfl⟩ := Array.mem_iff_getElem.mp hy
      exact t.gnew i _ (Array.getElem?_eq_getElem hlt) (by rw [hg0]; exact Nat.zero_le _) fun h => h
end
end Dio

namespace Dio
set_option tactic.hygienic false
open PySem PySem.W PySem.Calls PyProof.Rows
set_option maxRecDepth 100000

/-! Na. The numbers: rows of sums -/
noncomputable def rowsG (total : Int) : List (Int × Int) → Row → List Row
  | [], p => [p]
  | sb :: r, p => (stepRow total sb.1 sb.2 p).flatMap (rowsG total r)
theorem rowsF_from (total : Int) : ∀ (sbs : List (Int × Int)) (rows : List Row), sbs.foldl (fun rows sb => stepRows total sb rows) rows = rows.flatMap (rowsG total sbs)
  | [], rows => by
    show rows = rows.flatMap fun p => [p]
    rw [flatMap_one, List.map_id']
  | sb :: r, rows => by
    rw [List.foldl_cons, rowsF_from total r]
    unfold stepRows
    rw [List.flatMap_assoc]
    rfl
theorem rowsF_eq (total : Int) (sbs : List (Int × Int)) : rowsF total sbs = rowsG total sbs ([], 0) := by
  unfold rowsF
  rw [rowsF_from]
  simp

noncomputable def GoodRow : List (Int × Int) → List Int → Prop
  | [], [] => True
  | sb :: r, x :: xs => 0 ≤ x ∧ x ≤ sb.2 ∧ GoodRow r xs
  | _, _ => False
noncomputable def dotp : List (Int × Int) → List Int → Int
  | sb :: r, x :: xs => x * sb.1 + dotp r xs
  | _, _ => 0
theorem dotp_nonneg : ∀ {sbs : List (Int × Int)} {xs : List Int}, (∀ p ∈ sbs, 1 ≤ p.1) → GoodRow sbs xs → 0 ≤ dotp sbs xs
  | [], [], _, _ => Int.le_refl _
  | sb :: r, x :: xs, h1, h => by
    have h2 := h1 sb List.mem_cons_self
    have h3 : 0 ≤ x * sb.1 := Int.mul_nonneg h.1 (by omega)
    have h4 := dotp_nonneg (fun p hp => h1 p (List.mem_cons_of_mem _ hp)) h.2.2
    show 0 ≤ x * sb.1 + dotp r xs
    omega
theorem goodRow_len : ∀ {sbs : List (Int × Int)} {xs : List Int}, GoodRow sbs xs → xs.length = sbs.length
  | [], [], _ => rfl
  | sb :: r, x :: xs, h => by rw [List.length_cons, List.length_cons, goodRow_len h.2.2]

theorem rngI_mem {a b x : Int} : x ∈ rngI a b ↔ a ≤ x ∧ x < b := ⟨mem_rngI, fun h => by
  unfold rngI
  exact List.mem_map.mpr ⟨(x - a).toNat, List.mem_range.mpr (by omega), by omega⟩⟩
theorem stepRow_mem {total s b : Int} {p q : Row} (hs : 1 ≤ s) : q ∈ stepRow total s b p ↔ ∃ x, q = (p.1 ++ [x], p.2 + x * s) ∧ 0 ≤ x ∧ x ≤ b ∧ p.2 + x * s ≤ total := by
  unfold stepRow
  rw [List.mem_map]
  constructor
  · rintro ⟨x, hx, rfl⟩
    rw [rngI_mem] at hx
    have h1 : x ≤ (total - p.2) / s := by omega
    have h2 := (Int.le_ediv_iff_mul_le (by omega)).mp h1
    exact ⟨x, rfl, hx.1, by omega, by omega⟩
  · rintro ⟨x, rfl, h0, hb, ht⟩
    have h1 : x ≤ (total - p.2) / s := (Int.le_ediv_iff_mul_le (by omega)).mpr (by omega)
    exact ⟨x, rngI_mem.mpr ⟨h0, by omega⟩, rfl⟩
theorem rowsG_mem {total : Int} : ∀ {sbs : List (Int × Int)} {p q : Row}, (∀ p ∈ sbs, 1 ≤ p.1) → p.2 ≤ total → (q ∈ rowsG total sbs p ↔ ∃ xs, q = (p.1 ++ xs, p.2 + dotp sbs xs) ∧ GoodRow sbs xs ∧ p.2 + dotp sbs xs ≤ total)
  | [], p, q, _, hp => by
    show q ∈ [p] ↔ _
    rw [List.mem_singleton]
    constructor
    · rintro rfl
      exact ⟨[], by simp [dotp], trivial, by simpa [dotp] using hp⟩
    · rintro ⟨xs, rfl, hg, _⟩
      cases xs with
      | nil => simp [dotp]
      | cons x xs => exact hg.elim
  | sb :: r, p, q, h1, hp => by
    show q ∈ (stepRow total sb.1 sb.2 p).flatMap (rowsG total r) ↔ _
    rw [List.mem_flatMap]
    have hs := h1 sb List.mem_cons_self
    have h1' : ∀ p ∈ r, 1 ≤ p.1 := fun p hp => h1 p (List.mem_cons_of_mem _ hp)
    constructor
    · rintro ⟨m, hm, hq⟩
      obtain ⟨x, rfl, h0, hb, ht⟩ := (stepRow_mem hs).mp hm
      obtain ⟨xs, rfl, hg, hle⟩ := (rowsG_mem h1' ht).mp hq
      refine ⟨x :: xs, ?_, ⟨h0, hb, hg⟩, ?_⟩
      · show (p.1 ++ [x] ++ xs, p.2 + x * sb.1 + dotp r xs) = (p.1 ++ x :: xs, p.2 + (x * sb.1 + dotp r xs))
        rw [List.append_assoc, Int.add_assoc]; rfl
      · show p.2 + (x * sb.1 + dotp r xs) ≤ total
        have hle' : p.2 + x * sb.1 + dotp r xs ≤ total := hle
        omega
    · rintro ⟨xs, rfl, hg, hle⟩
      cases xs with
      | nil => exact hg.elim
      | cons x xs =>
        have hn := dotp_nonneg h1' hg.2.2
        have hle' : p.2 + (x * sb.1 + dotp r xs) ≤ total := hle
        have ht : p.2 + x * sb.1 ≤ total := by omega
        refine ⟨(p.1 ++ [x], p.2 + x * sb.1), (stepRow_mem hs).mpr ⟨x, rfl, hg.1, hg.2.1, ht⟩, (rowsG_mem h1' ht).mpr ⟨xs, ?_, hg.2.2, by show p.2 + x * sb.1 + dotp r xs ≤ total; omega⟩⟩
        show (p.1 ++ x :: xs, p.2 + (x * sb.1 + dotp r xs)) = (p.1 ++ [x] ++ xs, p.2 + x * sb.1 + dotp r xs)
        rw [List.append_assoc, Int.add_assoc]; rfl

theorem sumsF_mem {total : Int} {steps bounds l : List Int} (ht : 0 ≤ total) (h1 : ∀ x ∈ steps, 1 ≤ x) : l ∈ sumsF total steps bounds ↔ GoodRow (steps.zip bounds) l ∧ dotp (steps.zip bounds) l = total := by
  have hz : ∀ p ∈ steps.zip bounds, 1 ≤ p.1 := fun p hp => h1 p.1 (List.of_mem_zip (a := p.1) (b := p.2) hp).1
  unfold sumsF
  rw [List.mem_map, rowsF_eq]
  constructor
  · rintro ⟨q, hq, rfl⟩
    rw [List.mem_filter, decide_eq_true_eq] at hq
    obtain ⟨xs, rfl, hg, _⟩ := (rowsG_mem hz (by exact ht)).mp hq.1
    have h2 : 0 + dotp (steps.zip bounds) xs = total := hq.2
    exact ⟨by simpa using hg, by simpa using h2⟩
  · rintro ⟨hg, hd⟩
    refine ⟨(l, total), List.mem_filter.mpr ⟨(rowsG_mem hz (by exact ht)).mpr ⟨l, by simp [hd], hg, by simp [hd]⟩, by simp⟩, rfl⟩

/-! ascending -/
theorem llt_pre : ∀ (a : List Int) {x y : Int} (xs ys : List Int), x < y → llt (a ++ x :: xs) (a ++ y :: ys) = true
  | [], x, y, xs, ys, h => by
    show (if x = y then llt xs ys else decide (x < y)) = true
    rw [if_neg (by omega)]; exact decide_eq_true h
  | z :: a, x, y, xs, ys, h => by
    show (if z = z then llt (a ++ x :: xs) (a ++ y :: ys) else decide (z < z)) = true
    rw [if_pos rfl]; exact llt_pre a xs ys h
theorem rngI_asc (a b : Int) : (rngI a b).Pairwise (· < ·) := by
  unfold rngI
  rw [List.pairwise_map]
  exact List.pairwise_lt_range.imp fun h => by omega
theorem rowsG_asc {total : Int} : ∀ {sbs : List (Int × Int)} {p : Row}, (∀ p ∈ sbs, 1 ≤ p.1) → p.2 ≤ total → (rowsG total sbs p).Pairwise fun q q' => llt q.1 q'.1 = true
  | [], p, _, _ => List.pairwise_singleton ..
  | sb :: r, p, h1, hp => by
    have hs := h1 sb List.mem_cons_self
    have h1' : ∀ p ∈ r, 1 ≤ p.1 := fun p hp => h1 p (List.mem_cons_of_mem _ hp)
    show ((stepRow total sb.1 sb.2 p).flatMap (rowsG total r)).Pairwise _
    rw [List.pairwise_flatMap]
    refine ⟨fun m hm => ?_, ?_⟩
    · obtain ⟨x, rfl, h0, hb, ht⟩ := (stepRow_mem hs).mp hm
      exact rowsG_asc h1' ht
    · have hmem : ∀ x ∈ rngI 0 (min sb.2 ((total - p.2) / sb.1) + 1), (p.2 + x * sb.1 ≤ total) := fun x hx => by
        rw [rngI_mem] at hx
        have h1 : x ≤ (total - p.2) / sb.1 := by omega
        have h2 := (Int.le_ediv_iff_mul_le (by omega)).mp h1
        omega
      unfold stepRow
      rw [List.pairwise_map]
      refine (rngI_asc _ _).imp_of_mem fun {x y} hx hy hxy q hq q' hq' => ?_
      obtain ⟨xs, rfl, _⟩ := (rowsG_mem h1' (by exact hmem x hx)).mp hq
      obtain ⟨ys, rfl, _⟩ := (rowsG_mem h1' (by exact hmem y hy)).mp hq'
      show llt (p.1 ++ [x] ++ xs) (p.1 ++ [y] ++ ys) = true
      rw [List.append_assoc, List.append_assoc]
      exact llt_pre p.1 xs ys hxy
theorem sumsF_asc {total : Int} {steps bounds : List Int} (ht : 0 ≤ total) (h1 : ∀ x ∈ steps, 1 ≤ x) : Asc (sumsF total steps bounds) := by
  have hz : ∀ p ∈ steps.zip bounds, 1 ≤ p.1 := fun p hp => h1 p.1 (List.of_mem_zip (a := p.1) (b := p.2) hp).1
  unfold sumsF
  rw [Asc, List.pairwise_map, rowsF_eq]
  exact (rowsG_asc hz (by exact ht)).filter _
theorem Asc.nodup {l : List (List Int)} (h : Asc l) : l.Nodup := h.imp fun {x y} h e => by rw [e, llt_irr] at h; cases h

/-! how many -/
noncomputable def cmb : Nat → Nat → Nat
  | 0, _ => 1
  | n + 1, r => ((List.range (r + 1)).map fun k => cmb n (r - k)).sum
theorem sum_le_map {l : List Nat} {f g : Nat → Nat} (h : ∀ x ∈ l, f x ≤ g x) : (l.map f).sum ≤ (l.map g).sum := by
  induction l with
  | nil => exact Nat.le_refl _
  | cons x l ih =>
    rw [List.map_cons, List.map_cons, List.sum_cons, List.sum_cons]
    exact Nat.add_le_add (h x List.mem_cons_self) (ih fun y hy => h y (List.mem_cons_of_mem _ hy))
theorem sum_range_le {f : Nat → Nat} {a b : Nat} (h : a ≤ b) : ((List.range a).map f).sum ≤ ((List.range b).map f).sum := by
  obtain ⟨d, rfl⟩ : ∃ d, b = a + d := ⟨b - a, by omega⟩
  rw [List.range_add, List.map_append, List.sum_append]
  exact Nat.le_add_right ..
theorem cmb_mono : ∀ (n : Nat) {r r' : Nat}, r ≤ r' → cmb n r ≤ cmb n r'
  | 0, _, _, _ => Nat.le_refl _
  | n + 1, r, r', h => Nat.le_trans (sum_le_map fun k _ => cmb_mono n (show r - k ≤ r' - k by omega)) (sum_range_le (f := fun k => cmb n (r' - k)) (by omega))
theorem length_flatMap_le {α β : Type} {l : List α} {f : α → List β} : (l.flatMap f).length = (l.map fun a => (f a).length).sum := by
  rw [List.length_flatMap]
theorem rowsG_len {total : Int} : ∀ {sbs : List (Int × Int)} {p : Row}, (∀ p ∈ sbs, 1 ≤ p.1) → p.2 ≤ total → (rowsG total sbs p).length ≤ cmb sbs.length (total - p.2).toNat
  | [], p, _, _ => Nat.le_refl _
  | sb :: r, p, h1, hp => by
    have hs := h1 sb List.mem_cons_self
    have h1' : ∀ p ∈ r, 1 ≤ p.1 := fun p hp => h1 p (List.mem_cons_of_mem _ hp)
    show ((stepRow total sb.1 sb.2 p).flatMap (rowsG total r)).length ≤ ((List.range ((total - p.2).toNat + 1)).map fun k => cmb r.length ((total - p.2).toNat - k)).sum
    rw [length_flatMap_le]
    unfold stepRow rngI
    rw [List.map_map, List.map_map]
    have hd : (total - p.2) / sb.1 ≤ total - p.2 := Int.ediv_le_self _ (by omega)
    refine Nat.le_trans (sum_le_map (g := fun k => cmb r.length ((total - p.2).toNat - k)) fun k hk => ?_) (sum_range_le (by omega))
    have hk' := List.mem_range.mp hk
    have hk1 : (k : Int) ≤ (total - p.2) / sb.1 := by omega
    have hk2 := (Int.le_ediv_iff_mul_le (by omega)).mp hk1
    have hk3 : (k : Int) ≤ k * sb.1 := by
      have := Int.mul_le_mul_of_nonneg_left hs (show (0 : Int) ≤ k by omega)
      omega
    refine Nat.le_trans (rowsG_len h1' (p := (p.1 ++ [0 + (k : Int)], p.2 + (0 + (k : Int)) * sb.1)) (by show p.2 + (0 + (k : Int)) * sb.1 ≤ total; rw [Int.zero_add]; omega)) (cmb_mono _ ?_)
    show (total - (p.2 + (0 + (k : Int)) * sb.1)).toNat ≤ (total - p.2).toNat - k
    rw [Int.zero_add]
    omega
theorem one_of_nodup {α : Type} {l : List α} (hn : l.Nodup) (h : ∀ x ∈ l, ∀ y ∈ l, x = y) : l.length ≤ 1 := by
  match l, hn, h with
  | [], _, _ => exact Nat.zero_le _
  | [_], _, _ => exact Nat.le_refl _
  | x :: y :: l, hn, h => exact absurd (h x (by simp) y (by simp)) ((List.pairwise_cons.mp hn).1 y (by simp))
theorem ends_len {total : Int} : ∀ {sbs : List (Int × Int)} {sb : Int × Int} {p : Row}, (∀ p ∈ sb :: sbs, 1 ≤ p.1) → p.2 ≤ total → ((rowsG total (sb :: sbs) p).filter fun q => decide (q.2 = total)).length ≤ cmb sbs.length (total - p.2).toNat
  | [], sb, p, h1, hp => by
    have hs := h1 sb List.mem_cons_self
    have nd : (rowsG total [sb] p).Nodup := (rowsG_asc h1 hp).imp fun {x y} h e => by rw [e, llt_irr] at h; cases h
    refine one_of_nodup (nd.filter _) fun x hx y hy => ?_
    rw [List.mem_filter, decide_eq_true_eq] at hx hy
    obtain ⟨xs, rfl, g1, _⟩ := (rowsG_mem h1 hp).mp hx.1
    obtain ⟨ys, rfl, g2, _⟩ := (rowsG_mem h1 hp).mp hy.1
    match xs, ys, g1, g2 with
    | [u], [v], _, _ =>
      have e1 : p.2 + (u * sb.1 + 0) = total := hx.2
      have e2 : p.2 + (v * sb.1 + 0) = total := hy.2
      have e3 : u * sb.1 = v * sb.1 := by omega
      have : u = v := Int.eq_of_mul_eq_mul_right (by omega) e3
      rw [this]
    | [], _, g1, _ => exact g1.elim
    | _ :: _ :: _, _, g1, _ => exact g1.2.2.elim
    | [_], [], _, g2 => exact g2.elim
    | [_], _ :: _ :: _, _, g2 => exact g2.2.2.elim
  | sb' :: r, sb, p, h1, hp => by
    have hs := h1 sb List.mem_cons_self
    have h1' : ∀ p ∈ sb' :: r, 1 ≤ p.1 := fun p hp => h1 p (List.mem_cons_of_mem _ hp)
    show (((stepRow total sb.1 sb.2 p).flatMap (rowsG total (sb' :: r))).filter _).length ≤ ((List.range ((total - p.2).toNat + 1)).map fun k => cmb r.length ((total - p.2).toNat - k)).sum
    rw [List.filter_flatMap, length_flatMap_le]
    unfold stepRow rngI
    rw [List.map_map, List.map_map]
    have hd : (total - p.2) / sb.1 ≤ total - p.2 := Int.ediv_le_self _ (by omega)
    refine Nat.le_trans (sum_le_map (g := fun k => cmb r.length ((total - p.2).toNat - k)) fun k hk => ?_) (sum_range_le (by omega))
    have hk' := List.mem_range.mp hk
    have hk1 : (k : Int) ≤ (total - p.2) / sb.1 := by omega
    have hk2 := (Int.le_ediv_iff_mul_le (by omega)).mp hk1
    have hk3 : (k : Int) ≤ k * sb.1 := by
      have := Int.mul_le_mul_of_nonneg_left hs (show (0 : Int) ≤ k by omega)
      omega
    refine Nat.le_trans (ends_len h1' (p := (p.1 ++ [0 + (k : Int)], p.2 + (0 + (k : Int)) * sb.1)) (by show p.2 + (0 + (k : Int)) * sb.1 ≤ total; rw [Int.zero_add]; omega)) (cmb_mono _ ?_)
    show (total - (p.2 + (0 + (k : Int)) * sb.1)).toNat ≤ (total - p.2).toNat - k
    rw [Int.zero_add]
    omega
theorem sumsF_len {total : Int} {steps bounds : List Int} {n : Nat} (ht : 0 ≤ total) (h1 : ∀ x ∈ steps, 1 ≤ x) (hl : (steps.zip bounds).length = n + 1) : (sumsF total steps bounds).length ≤ cmb n total.toNat := by
  have hz : ∀ p ∈ steps.zip bounds, 1 ≤ p.1 := fun p hp => h1 p.1 (List.of_mem_zip (a := p.1) (b := p.2) hp).1
  unfold sumsF
  rw [List.length_map, rowsF_eq]
  match steps.zip bounds, hl, hz with
  | sb :: sbs, hl, hz =>
    have : sbs.length = n := by simpa using hl
    subst this
    have := ends_len hz (p := ([], 0)) ht
    rw [show (total - (([], 0) : Row).2) = total from Int.sub_zero total] at this
    exact this
  | [], hl, _ => cases hl
theorem rowsF_len {total : Int} {sbs : List (Int × Int)} (ht : 0 ≤ total) (h1 : ∀ p ∈ sbs, 1 ≤ p.1) : (rowsF total sbs).length ≤ cmb sbs.length total.toNat := by
  rw [rowsF_eq]
  have := rowsG_len h1 (p := ([], 0)) ht
  rw [show (total - (([], 0) : Row).2) = total from Int.sub_zero total] at this
  exact this
theorem rows_few {total : Int} {steps bounds : List Int} {N M : Nat} (ht : 0 ≤ total) (ht' : total.toNat ≤ M) (h1 : ∀ x ∈ steps, 1 ≤ x) (hl : steps.length ≤ N) (hN : ∀ i, i ≤ N → cmb i M ≤ 40000) : ∀ i, i ≤ steps.length → (rowsF total ((steps.zip bounds).take i)).length ≤ 40000 := fun i hi => by
  have hz : ∀ p ∈ (steps.zip bounds).take i, 1 ≤ p.1 := fun p hp => h1 p.1 (List.of_mem_zip (a := p.1) (b := p.2) (List.mem_of_mem_take hp)).1
  refine Nat.le_trans (rowsF_len ht hz) (Nat.le_trans (cmb_mono _ ht') (hN _ ?_))
  rw [List.length_take]; omega
theorem few57 : ∀ i, i ≤ 5 → cmb i 7 ≤ 40000 := by decide +kernel
theorem few220 : ∀ i, i ≤ 2 → cmb i 20 ≤ 40000 := by decide +kernel
end Dio

namespace Dio
set_option tactic.hygienic false
open PySem PySem.W PySem.Calls PyProof.Rows
set_option maxRecDepth 100000

/-! Nb. The numbers: vectors within bounds, weak compositions -/
theorem perm_of_mem {a b : List (List Int)} (ha : a.Nodup) (hb : b.Nodup) (h : ∀ l, l ∈ a ↔ l ∈ b) : a.Perm b := (List.perm_ext_iff_of_nodup ha hb).mpr h
theorem eq_of_asc {a b : List (List Int)} (ha : Asc a) (hb : Asc b) (h : ∀ l, l ∈ a ↔ l ∈ b) : a = b := sorted_unique (perm_of_mem ha.nodup hb.nodup h) ha hb

noncomputable def InV : List Int → List Int → Prop
  | [], [] => True
  | m :: r, x :: xs => 0 ≤ x ∧ x ≤ m ∧ InV r xs
  | _, _ => False
theorem inV_sum : ∀ {v l : List Int}, InV v l → 0 ≤ l.sum ∧ l.sum ≤ v.sum
  | [], [], _ => by simp
  | m :: r, x :: xs, h => by
    have := inV_sum h.2.2
    rw [List.sum_cons, List.sum_cons]
    have := h.1; have := h.2.1
    omega
set_option tactic.hygienic true in
theorem fiv_mem : ∀ {v : List Int} {s : Int} {l : List Int}, l ∈ fiv v s ↔ InV v l ∧ l.sum = s
  | [], s, l => by
    unfold fiv
    constructor
    · intro h
      split at h
      · rename_i hs
        have : l = [] := by simpa using h
        subst this
        exact ⟨trivial, by rw [hs]; rfl⟩
      · cases h
    · rintro ⟨h, hs⟩
      match l, h with
      | [], _ =>
        rw [if_pos (by rw [← hs]; rfl)]
        simp
  | m :: r, s, l => by
    unfold fiv
    constructor
    · intro h
      split at h
      · obtain ⟨j, hj, hl⟩ := List.mem_flatMap.mp h
        obtain ⟨t, ht, rfl⟩ := List.mem_map.mp hl
        obtain ⟨h1, h2⟩ := fiv_mem.mp ht
        rw [rngI_mem] at hj
        exact ⟨⟨by omega, by omega, h1⟩, by rw [List.sum_cons]; omega⟩
      · cases h
    · rintro ⟨h, hs⟩
      match l, h with
      | x :: xs, h =>
        have h3 := inV_sum h.2.2
        have h1 := h.1
        have h2 := h.2.1
        rw [List.sum_cons] at hs
        rw [if_pos (by rw [List.sum_cons]; omega)]
        refine List.mem_flatMap.mpr ⟨x, rngI_mem.mpr ⟨by rw [List.sum_cons]; omega, by omega⟩, List.mem_map.mpr ⟨xs, fiv_mem.mpr ⟨h.2.2, by omega⟩, rfl⟩⟩
theorem fiv_asc : ∀ (v : List Int) (s : Int), Asc (fiv v s)
  | [], s => by
    unfold fiv
    split
    · exact List.pairwise_singleton ..
    · exact .nil
  | m :: r, s => by
    unfold fiv
    split
    · rw [Asc, List.pairwise_flatMap]
      refine ⟨fun j _ => ?_, (rngI_asc _ _).imp fun {x y} hxy q hq q' hq' => ?_⟩
      · rw [List.pairwise_map]
        refine (fiv_asc r (s - j)).imp fun {x y} h => ?_
        show (if j = j then llt x y else decide (j < j)) = true
        rw [if_pos rfl]; exact h
      · obtain ⟨t, _, rfl⟩ := List.mem_map.mp hq
        obtain ⟨t', _, rfl⟩ := List.mem_map.mp hq'
        exact llt_pre [] t t' hxy
    · exact .nil
theorem good_ones : ∀ {v l : List Int}, (GoodRow ((List.replicate v.length 1).zip v) l ↔ InV v l) ∧ (InV v l → dotp ((List.replicate v.length 1).zip v) l = l.sum)
  | [], [] => ⟨Iff.rfl, fun _ => rfl⟩
  | [], _ :: _ => ⟨Iff.rfl, fun h => h.elim⟩
  | m :: r, [] => ⟨Iff.rfl, fun h => h.elim⟩
  | m :: r, x :: xs => by
    have ih := good_ones (v := r) (l := xs)
    refine ⟨?_, fun h => ?_⟩
    · show (0 ≤ x ∧ x ≤ m ∧ GoodRow ((List.replicate r.length 1).zip r) xs) ↔ 0 ≤ x ∧ x ≤ m ∧ InV r xs
      rw [ih.1]
    · show x * 1 + dotp ((List.replicate r.length 1).zip r) xs = (x :: xs).sum
      rw [ih.2 h.2.2, List.sum_cons, Int.mul_one]
theorem ones_one {n : Nat} : ∀ x ∈ List.replicate n (1 : Int), 1 ≤ x := fun x hx => by rw [List.eq_of_mem_replicate hx]; decide

theorem fv_fact (v : List Int) (s : Int) (hl : v.length ≤ 4) (hv : ∀ x ∈ v, 0 ≤ x ∧ x ≤ 3) (h0 : 0 ≤ s) (h7 : s ≤ 7) : FvFact v s := by
  have e : fiv v s = sumsF s (List.replicate v.length 1) v := eq_of_asc (fiv_asc v s) (sumsF_asc h0 ones_one) fun l => by
    rw [fiv_mem, sumsF_mem h0 ones_one]
    have := good_ones (v := v) (l := l)
    constructor
    · rintro ⟨h1, h2⟩; exact ⟨this.1.mpr h1, (this.2 h1).trans h2⟩
    · rintro ⟨h1, h2⟩; exact ⟨this.1.mp h1, (this.2 (this.1.mp h1)).symm.trans h2⟩
  refine ⟨e, ?_, ?_⟩
  · rw [e]
    unfold sumsF
    rw [List.length_map]
    refine Nat.le_trans (List.length_filter_le ..) ?_
    have := rows_few (bounds := v) (N := 5) (M := 7) h0 (by omega) (ones_one (n := v.length)) (by rw [List.length_replicate]; omega) few57 v.length (by rw [List.length_replicate]; exact Nat.le_refl _)
    rw [List.take_of_length_le (by rw [List.length_zip]; omega)] at this
    exact Nat.le_trans this (by decide)
  · have := rows_few (bounds := v) (N := 5) (M := 7) h0 (by omega) (ones_one (n := v.length)) (by rw [List.length_replicate]; omega) few57
    rw [List.length_replicate] at this
    exact this

theorem wci_all : ∀ n, n < 5 → ∀ p, p < 5 → wci ((n : Nat) : Int) p = sumsF n (List.replicate p 1) (List.replicate p (n : Int)) := by decide +kernel
theorem wk_fact (n : Int) (p : Nat) (h0 : 0 ≤ n) (h4 : n ≤ 4) (hp : p ≤ 4) : WkFact n p := by
  obtain ⟨m, rfl⟩ : ∃ m : Nat, n = m := ⟨n.toNat, by omega⟩
  have e := wci_all m (by omega) p (by omega)
  have hc := rows_few (bounds := List.replicate p (m : Int)) (N := 5) (M := 7) h0 (by omega) (ones_one (n := p)) (by rw [List.length_replicate]; omega) few57
  rw [List.length_replicate] at hc
  refine ⟨e, ?_, hc⟩
  rw [e]
  unfold sumsF
  rw [List.length_map]
  refine Nat.le_trans (List.length_filter_le ..) ?_
  have := hc p (Nat.le_refl _)
  rw [List.take_of_length_le (by rw [List.length_zip, List.length_replicate]; omega)] at this
  exact Nat.le_trans this (by decide)
end Dio

namespace Dio
set_option tactic.hygienic false
open PySem PySem.W PySem.Calls PyProof.Rows
set_option maxRecDepth 100000

/-! Nc. The numbers: base_solution_linear tells every pair, once -/
theorem bsU_all {a b : Int} (ha : 1 ≤ a) : ∀ (n : Nat) (x y k : Int), 0 ≤ k → y < n → 0 ≤ x + k * b → 0 ≤ y - k * a → (x + k * b, y - k * a) ∈ bsU a b n x y
  | 0, x, y, k, hk, hy, h1, h2 => by
    have := Int.mul_nonneg hk (show (0 : Int) ≤ a by omega)
    omega
  | n + 1, x, y, k, hk, hy, h1, h2 => by
    have h3 := Int.mul_nonneg hk (show (0 : Int) ≤ a by omega)
    unfold bsU
    rw [if_pos (by omega), List.mem_append]
    by_cases h0 : k = 0
    · subst h0
      left
      rw [if_pos (by omega)]
      simp
    · right
      have e1 : x + k * b = (x + b) + (k - 1) * b := by rw [Int.sub_mul]; omega
      have e2 : y - k * a = (y - a) - (k - 1) * a := by rw [Int.sub_mul]; omega
      rw [e1, e2]
      exact bsU_all ha n (x + b) (y - a) (k - 1) (by omega) (by omega) (by omega) (by omega)
theorem bsD_all {a b : Int} (hb : 1 ≤ b) : ∀ (n : Nat) (x y k : Int), 0 ≤ k → x < n → 0 ≤ x - k * b → 0 ≤ y + k * a → (x - k * b, y + k * a) ∈ bsD a b n x y
  | 0, x, y, k, hk, hy, h1, h2 => by
    have := Int.mul_nonneg hk (show (0 : Int) ≤ b by omega)
    omega
  | n + 1, x, y, k, hk, hy, h1, h2 => by
    have h3 := Int.mul_nonneg hk (show (0 : Int) ≤ b by omega)
    unfold bsD
    rw [if_pos (by omega), List.mem_append]
    by_cases h0 : k = 0
    · subst h0
      left
      rw [if_pos (by omega)]
      simp
    · right
      have e1 : x - k * b = (x - b) - (k - 1) * b := by rw [Int.sub_mul]; omega
      have e2 : y + k * a = (y + a) + (k - 1) * a := by rw [Int.sub_mul]; omega
      rw [e1, e2]
      exact bsD_all hb n (x - b) (y + a) (k - 1) (by omega) (by omega) (by omega) (by omega)
theorem bsU_low {a b : Int} (hb : 1 ≤ b) : ∀ (n : Nat) (x y : Int), ∀ p ∈ bsU a b n x y, x ≤ p.1
  | 0, x, y, p, h => by cases h
  | n + 1, x, y, p, h => by
    unfold bsU at h
    split at h
    · rcases List.mem_append.mp h with h | h
      · split at h
        · have : p = (x, y) := by simpa using h
          rw [this]; exact Int.le_refl _
        · cases h
      · have := bsU_low hb n _ _ p h; omega
    · cases h
theorem bsD_high {a b : Int} (hb : 1 ≤ b) : ∀ (n : Nat) (x y : Int), ∀ p ∈ bsD a b n x y, p.1 ≤ x
  | 0, x, y, p, h => by cases h
  | n + 1, x, y, p, h => by
    unfold bsD at h
    split at h
    · rcases List.mem_append.mp h with h | h
      · split at h
        · have : p = (x, y) := by simpa using h
          rw [this]; exact Int.le_refl _
        · cases h
      · have := bsD_high hb n _ _ p h; omega
    · cases h
noncomputable abbrev Apart (l : List (Int × Int)) : Prop := l.Pairwise fun p q => p.1 ≠ q.1
theorem bsU_apart {a b : Int} (hb : 1 ≤ b) : ∀ (n : Nat) (x y : Int), Apart (bsU a b n x y)
  | 0, x, y => .nil
  | n + 1, x, y => by
    unfold bsU
    split
    · rw [Apart, List.pairwise_append]
      refine ⟨?_, bsU_apart hb n _ _, fun p hp q hq => ?_⟩
      · split
        · exact List.pairwise_singleton ..
        · exact .nil
      · split at hp
        · have : p = (x, y) := by simpa using hp
          have h2 := bsU_low hb n _ _ q hq
          rw [this]
          show x ≠ q.1
          omega
        · cases hp
    · exact .nil
theorem bsD_apart {a b : Int} (hb : 1 ≤ b) : ∀ (n : Nat) (x y : Int), Apart (bsD a b n x y)
  | 0, x, y => .nil
  | n + 1, x, y => by
    unfold bsD
    split
    · rw [Apart, List.pairwise_append]
      refine ⟨?_, bsD_apart hb n _ _, fun p hp q hq => ?_⟩
      · split
        · exact List.pairwise_singleton ..
        · exact .nil
      · split at hp
        · have : p = (x, y) := by simpa using hp
          have h2 := bsD_high hb n _ _ q hq
          rw [this]
          show x ≠ q.1
          omega
        · cases hp
    · exact .nil

theorem bs1_apart {a b z : Int} (hb : 1 ≤ b) : Apart (bs1 a b z) := by
  unfold bs1
  split
  · exact List.pairwise_singleton ..
  · split
    · exact .nil
    · split
      · exact bsU_apart hb _ _ _
      · exact bsD_apart hb _ _ _

theorem bs1_all {a b z p q : Int} (ha : 1 ≤ a) (hb : 1 ≤ b) (hb' : b ≤ 100) (hz : 0 ≤ z) (h1 : Int.gcd a (Int.gcd b z) = 1) (hp : 0 ≤ p) (hq : 0 ≤ q) (he : a * p + b * q = z) : (p, q) ∈ bs1 a b z := by
  unfold bs1
  by_cases hz0 : z = 0
  · rw [if_pos hz0]
    have k1 : p ≤ a * p := by have := Int.mul_le_mul_of_nonneg_right ha hp; omega
    have k2 : q ≤ b * q := by have := Int.mul_le_mul_of_nonneg_right hb hq; omega
    have e1 : p = 0 := by omega
    have e2 : q = 0 := by omega
    rw [e1, e2]; simp
  · rw [if_neg hz0]
    obtain ⟨s1, s2⟩ := ee_spec 101 a b (by omega) (by omega) (by omega)
    have hdz : ((Int.gcd a b : Nat) : Int) ∣ z := by
      rw [← he]
      exact Int.dvd_add (Int.dvd_mul_of_dvd_left (Int.gcd_dvd_left ..)) (Int.dvd_mul_of_dvd_left (Int.gcd_dvd_right ..))
    have hd1 : Int.gcd a b = 1 := by
      have k1 : ((Int.gcd a b : Nat) : Int) ∣ ((Int.gcd b z : Nat) : Int) := Int.dvd_coe_gcd (Int.gcd_dvd_right ..) hdz
      have k2 : ((Int.gcd a b : Nat) : Int) ∣ ((Int.gcd a (Int.gcd b z) : Nat) : Int) := Int.dvd_coe_gcd (Int.gcd_dvd_left ..) k1
      rw [h1] at k2
      have k3 := Int.le_of_dvd (by decide) k2
      have k4 := Int.gcd_pos_of_ne_zero_left (a := a) b (by omega)
      omega
    rw [s2, hd1]
    rw [if_neg (by simp)]
    rw [s2, hd1] at s1
    generalize (eeF 101 a b).1 = u at s1 ⊢
    generalize (eeF 101 a b).2.1 = v at s1 ⊢
    have s1 : a * u + b * v = 1 := s1
    have sz : a * (z * u) + b * (z * v) = z := by
      have : a * (z * u) + b * (z * v) = z * (a * u + b * v) := by rw [Int.mul_add, Int.mul_left_comm, Int.mul_left_comm b]
      rw [this, s1, Int.mul_one]
    have hco : b ∣ p - z * u := by
      have k1 : b ∣ a * (p - z * u) := ⟨z * v - q, by rw [Int.mul_sub, Int.mul_sub]; omega⟩
      have k2 : p - z * u = u * (a * (p - z * u)) + b * (v * (p - z * u)) := by
        generalize p - z * u = w
        rw [← Int.mul_assoc, ← Int.mul_assoc, ← Int.add_mul, Int.mul_comm u, s1, Int.one_mul]
      rw [k2]
      exact Int.dvd_add (Int.dvd_mul_of_dvd_right k1) (Int.dvd_mul_right ..)
    obtain ⟨k, hk⟩ := hco
    have ep : p = z * u + k * b := by rw [Int.mul_comm k b]; omega
    have eq' : q = z * v - k * a := by
      have : b * q = b * (z * v - k * a) := by
        rw [Int.mul_sub]
        have : a * p = a * (z * u) + b * (k * a) := by rw [ep, Int.mul_add, Int.mul_comm a (k * b), Int.mul_comm k b, Int.mul_assoc]
        omega
      exact Int.eq_of_mul_eq_mul_left (by omega) this
    by_cases hx : z * u ≤ 0
    · rw [if_pos hx]
      have hk0 : 0 ≤ k := by
        have : 0 ≤ k * b := by omega
        exact Int.nonneg_of_mul_nonneg_left this (by omega)
      have h5 := Int.mul_nonneg hk0 (show (0 : Int) ≤ a by omega)
      rw [ep, eq']
      exact bsU_all ha _ _ _ k hk0 (by omega) (by omega) (by omega)
    · rw [if_neg hx]
      have hu : 0 < u := by
        refine Int.not_le.mp fun h => hx ?_
        exact Int.mul_nonpos_of_nonneg_of_nonpos hz h
      have hv : v ≤ 0 := by
        refine Int.not_lt.mp fun hv => ?_
        have k1 : a * 1 ≤ a * u := Int.mul_le_mul_of_nonneg_left (by omega) (by omega)
        have k2 : b * 1 ≤ b * v := Int.mul_le_mul_of_nonneg_left (by omega) (by omega)
        omega
      have hzv : z * v ≤ 0 := Int.mul_nonpos_of_nonneg_of_nonpos hz hv
      have hk0 : k ≤ 0 := by
        refine Int.not_lt.mp fun hk => ?_
        have : 0 < k * a := Int.mul_pos hk (by omega)
        omega
      have e1 : p = z * u - (-k) * b := by rw [Int.neg_mul]; omega
      have e2 : q = z * v + (-k) * a := by rw [Int.neg_mul]; omega
      rw [e1, e2]
      have h5 := Int.mul_nonneg (show (0 : Int) ≤ -k by omega) (show (0 : Int) ≤ b by omega)
      exact bsD_all hb _ _ _ (-k) (by omega) (by omega) (by omega) (by omega)

theorem gg_dvd (a b z : Int) : gg a b z ∣ a ∧ gg a b z ∣ b ∧ gg a b z ∣ z := by
  unfold gg
  have h := Int.gcd_dvd_right (a := a) (b := (Int.gcd b z : Int))
  exact ⟨Int.gcd_dvd_left .., Int.dvd_trans h (Int.gcd_dvd_left ..), Int.dvd_trans h (Int.gcd_dvd_right ..)⟩
theorem gg_pos {a b z : Int} (ha : 1 ≤ a) : 0 < gg a b z := by
  have := Int.gcd_pos_of_ne_zero_left (a := a) (Int.gcd b z) (by omega)
  unfold gg
  omega
theorem bs_iff {a b z : Int} (ha : 1 ≤ a) (hb : 1 ≤ b) (hb' : b ≤ 100) (hz : 0 ≤ z) {p : Int × Int} : p ∈ bs a b z ↔ 0 ≤ p.1 ∧ 0 ≤ p.2 ∧ a * p.1 + b * p.2 = z := by
  refine ⟨bs_mem ha hb hb' hz p, fun ⟨h1, h2, h3⟩ => ?_⟩
  obtain ⟨d1, d2, d3⟩ := gg_dvd a b z
  have hg := gg_pos (b := b) (z := z) ha
  have hone := gg_one (b := b) (z := z) ha
  unfold bs
  generalize gg a b z = g at *
  have ea : a = g * (a / g) := (Int.mul_ediv_cancel' d1).symm
  have eb : b = g * (b / g) := (Int.mul_ediv_cancel' d2).symm
  have ez : z = g * (z / g) := (Int.mul_ediv_cancel' d3).symm
  have a1 : 1 ≤ a / g := (Int.le_ediv_iff_mul_le hg).mpr (by have := Int.le_of_dvd (by omega) d1; omega)
  have b1 : 1 ≤ b / g := (Int.le_ediv_iff_mul_le hg).mpr (by have := Int.le_of_dvd (by omega) d2; omega)
  have b2 : b / g ≤ b := Int.ediv_le_self _ (by omega)
  refine bs1_all a1 b1 (by omega) (Int.ediv_nonneg hz (by omega)) hone h1 h2 ?_
  refine Int.eq_of_mul_eq_mul_left (show g ≠ 0 by omega) ?_
  rw [← ez, Int.mul_add, ← Int.mul_assoc, ← Int.mul_assoc, ← ea, ← eb]
  exact h3
theorem bs_apart {a b z : Int} (ha : 1 ≤ a) (hb : 1 ≤ b) : Apart (bs a b z) := by
  obtain ⟨_, d2, _⟩ := gg_dvd a b z
  have hg := gg_pos (b := b) (z := z) ha
  exact bs1_apart ((Int.le_ediv_iff_mul_le hg).mpr (by have := Int.le_of_dvd (by omega) d2; omega))

theorem bs_fact (a b z : Int) (ha : 1 ≤ a) (ha' : a ≤ 7) (hb : 1 ≤ b) (hb' : b ≤ 7) (hz : 0 ≤ z) (hz' : z ≤ 20) : BsFact a b z := by
  have hone : ∀ x ∈ [a, b], 1 ≤ x := fun x hx => by
    simp only [List.mem_cons, List.not_mem_nil, or_false] at hx
    rcases hx with rfl | rfl <;> assumption
  have hasc := sumsF_asc (bounds := [z, z]) hz hone
  have hp : ((bs a b z).map fun p => [p.1, p.2]).Perm (sumsF z [a, b] [z, z]) := by
    refine perm_of_mem ?_ hasc.nodup fun l => ?_
    · rw [List.Nodup, List.pairwise_map]
      refine (bs_apart (z := z) ha hb).imp fun {p q} h e => h ?_
      simp only [List.cons.injEq] at e
      exact e.1
    · rw [sumsF_mem hz hone, List.mem_map]
      constructor
      · rintro ⟨p, hp, rfl⟩
        obtain ⟨h1, h2, h3⟩ := (bs_iff ha hb (by omega) hz).mp hp
        have k1 : p.1 ≤ a * p.1 := by have := Int.mul_le_mul_of_nonneg_right ha h1; omega
        have k2 : p.2 ≤ b * p.2 := by have := Int.mul_le_mul_of_nonneg_right hb h2; omega
        refine ⟨⟨h1, by show p.1 ≤ z; omega, h2, by show p.2 ≤ z; omega, trivial⟩, ?_⟩
        show p.1 * a + (p.2 * b + 0) = z
        rw [Int.mul_comm p.1, Int.mul_comm p.2]; omega
      · rintro ⟨hg, hd⟩
        match l, hg with
        | [x, y], hg =>
          have hd : x * a + (y * b + 0) = z := hd
          rw [Int.mul_comm x, Int.mul_comm y] at hd
          exact ⟨(x, y), (bs_iff ha hb (by omega) hz).mpr ⟨hg.1, hg.2.2.1, by show a * x + b * y = z; omega⟩, rfl⟩
        | [], hg => exact hg.elim
        | [_], hg => exact hg.2.2.elim
        | _ :: _ :: _ :: _, hg => exact hg.2.2.2.2.elim
  refine ⟨hp, hasc, ?_, rows_few (N := 2) (M := 20) hz (by omega) hone (by show 2 ≤ 2; decide) few220⟩
  have h1 := hp.length_eq
  rw [List.length_map] at h1
  have h2 := sumsF_len (n := 1) (bounds := [z, z]) hz hone rfl
  have h3 := cmb_mono 1 (show z.toNat ≤ 20 by omega)
  have h4 : cmb 1 20 = 21 := by decide +kernel
  omega
end Dio

namespace Dio
set_option tactic.hygienic false
open PySem PySem.W PySem.Calls PyProof.Rows
set_option maxRecDepth 100000

/-! Nd. The numbers: solve_linear_diop -/
noncomputable def dot : List Int → List Int → Int
  | c :: cs, x :: xs => c * x + dot cs xs
  | _, _ => 0
theorem dot_nonneg : ∀ {cs xs : List Int}, (∀ c ∈ cs, 1 ≤ c) → (∀ x ∈ xs, 0 ≤ x) → 0 ≤ dot cs xs
  | [], _, _, _ => Int.le_refl _
  | c :: cs, [], _, _ => Int.le_refl _
  | c :: cs, x :: xs, hc, hx => by
    have h1 := Int.mul_nonneg (show 0 ≤ c by have := hc c List.mem_cons_self; omega) (hx x List.mem_cons_self)
    have h2 := dot_nonneg (cs := cs) (xs := xs) (fun c h => hc c (List.mem_cons_of_mem _ h)) fun x h => hx x (List.mem_cons_of_mem _ h)
    show 0 ≤ c * x + dot cs xs
    omega
theorem dot_div {g : Int} (hg : 0 < g) : ∀ {cs xs : List Int}, (∀ c ∈ cs, g ∣ c) → dot cs xs = g * dot (cs.map (· / g)) xs
  | [], _, _ => by simp [dot]
  | c :: cs, [], _ => by simp [dot]
  | c :: cs, x :: xs, h => by
    show c * x + dot cs xs = g * (c / g * x + dot (cs.map (· / g)) xs)
    rw [Int.mul_add, ← Int.mul_assoc, Int.mul_ediv_cancel' (h c List.mem_cons_self), dot_div hg fun c hc => h c (List.mem_cons_of_mem _ hc)]
noncomputable def Sol (cs : List Int) (t : Int) (l : List Int) : Prop := l.length = cs.length ∧ (∀ x ∈ l, 0 ≤ x) ∧ dot cs l = t

theorem g3_le {b z : Int} {r : List Int} (h : ∀ x ∈ b :: z :: r, 1 ≤ x ∧ x ≤ 100) : 1 ≤ g3 (b :: z :: r) ∧ g3 (b :: z :: r) ≤ 100 ∧ ∀ x ∈ (b :: z :: r).map (· / g3 (b :: z :: r)), 1 ≤ x ∧ x ≤ 100 := by
  have hb := h b List.mem_cons_self
  have hp : 0 < g3 (b :: z :: r) := g3_pos (by omega)
  have hd := g3_dvd (b := b) (z := z) (r := r)
  have hle := Int.le_of_dvd (by omega) (hd b List.mem_cons_self)
  refine ⟨hp, by omega, fun x hx => ?_⟩
  obtain ⟨y, hy, rfl⟩ := List.mem_map.mp hx
  have h1 := h y hy
  have h2 := Int.le_of_dvd (by omega) (hd y hy)
  refine ⟨(Int.le_ediv_iff_mul_le hp).mpr (by omega), ?_⟩
  have := Int.ediv_le_self (a := y) (g3 (b :: z :: r)) (by omega)
  show y / g3 (b :: z :: r) ≤ 100
  omega

set_option tactic.hygienic true in
theorem solF_iff : ∀ {n : Nat} {t : Int} {cs l : List Int}, cs.length ≤ n + 2 → (∀ x ∈ cs, 1 ≤ x ∧ x ≤ 100) → 0 ≤ t → (l ∈ solF n t cs ↔ Sol cs t l)
  | n, t, [], l, hn, hc, ht => by
    unfold solF Sol
    constructor
    · intro h
      split at h
      · rename_i h0
        have : l = [] := by simpa using h
        subst this
        exact ⟨rfl, fun _ h => (nomatch h), h0.symm⟩
      · cases h
    · rintro ⟨h1, _, h3⟩
      have : l = [] := List.length_eq_zero_iff.mp h1
      subst this
      rw [if_pos (show t = 0 from h3.symm)]
      simp
  | n, t, [a], l, hn, hc, ht => by
    have ha := hc a List.mem_cons_self
    unfold solF Sol
    constructor
    · intro h
      split at h
      · rename_i h0
        have : l = [t / a] := by simpa using h
        subst this
        refine ⟨rfl, fun x hx => ?_, ?_⟩
        · have : x = t / a := by simpa using hx
          rw [this]; exact Int.ediv_nonneg ht (by omega)
        · show a * (t / a) + 0 = t
          rw [Int.add_zero]; exact Int.mul_ediv_cancel' (Int.dvd_of_emod_eq_zero h0)
      · cases h
    · rintro ⟨h1, h2, h3⟩
      match l, h1 with
      | [x], _ =>
        have h3 : a * x + 0 = t := h3
        rw [Int.add_zero] at h3
        rw [if_pos (by rw [← h3]; exact Int.mul_emod_right ..), ← h3, Int.mul_ediv_cancel_left _ (by omega)]
        simp
  | n, t, [a, b], l, hn, hc, ht => by
    have ha := hc a (by simp)
    have hb := hc b (by simp)
    unfold solF Sol
    rw [List.mem_map]
    constructor
    · rintro ⟨p, hp, rfl⟩
      obtain ⟨h1, h2, h3⟩ := (bs_iff ha.1 hb.1 hb.2 ht).mp hp
      refine ⟨rfl, fun x hx => ?_, ?_⟩
      · simp only [List.mem_cons, List.not_mem_nil, or_false] at hx
        rcases hx with rfl | rfl <;> assumption
      · show a * p.1 + (b * p.2 + 0) = t
        omega
    · rintro ⟨h1, h2, h3⟩
      match l, h1 with
      | [x, y], _ =>
        have h3 : a * x + (b * y + 0) = t := h3
        exact ⟨(x, y), (bs_iff ha.1 hb.1 hb.2 ht).mpr ⟨h2 x (by simp), h2 y (by simp), by show a * x + b * y = t; omega⟩, rfl⟩
  | 0, t, a :: b :: z :: r, l, hn, hc, ht => by simp at hn
  | n + 1, t, a :: b :: z :: r, l, hn, hc, ht => by
    have ha := hc a (by simp)
    have hc' : ∀ x ∈ b :: z :: r, 1 ≤ x ∧ x ≤ 100 := fun x hx => hc x (List.mem_cons_of_mem _ hx)
    obtain ⟨g1, g2, g4⟩ := g3_le hc'
    have hd := g3_dvd (b := b) (z := z) (r := r)
    rw [solF_s, List.mem_flatMap]
    have hlen : ((b :: z :: r).map (· / g3 (b :: z :: r))).length ≤ n + 2 := by rw [List.length_map]; simp at hn ⊢; omega
    have hll : ((b :: z :: r).map (· / g3 (b :: z :: r))).length = (b :: z :: r).length := List.length_map ..
    have hdd : ∀ xs, dot (b :: z :: r) xs = g3 (b :: z :: r) * dot ((b :: z :: r).map (· / g3 (b :: z :: r))) xs := fun xs => dot_div g1 hd
    generalize hcs : (b :: z :: r).map (· / g3 (b :: z :: r)) = cs' at g4 hlen hdd hll ⊢
    generalize hgg : g3 (b :: z :: r) = g at g1 g2 hdd ⊢
    constructor
    · rintro ⟨p, hp, hl⟩
      obtain ⟨m, hm, rfl⟩ := List.mem_map.mp hl
      obtain ⟨h1, h2, h3⟩ := (bs_iff ha.1 g1 g2 ht).mp hp
      obtain ⟨k1, k2, k3⟩ := (solF_iff hlen g4 h2).mp hm
      refine ⟨by rw [List.length_cons, k1, hll]; rfl, fun x hx => ?_, ?_⟩
      · rcases List.mem_cons.mp hx with rfl | hx
        · exact h1
        · exact k2 x hx
      · show a * p.1 + dot (b :: z :: r) m = t
        rw [hdd, k3]; exact h3
    · rintro ⟨h1, h2, h3⟩
      match l, h1 with
      | x :: xs, h1 =>
        have h3 : a * x + dot (b :: z :: r) xs = t := h3
        rw [hdd] at h3
        have hx0 := h2 x List.mem_cons_self
        have hxs : ∀ y ∈ xs, 0 ≤ y := fun y hy => h2 y (List.mem_cons_of_mem _ hy)
        have hd0 : 0 ≤ dot cs' xs := dot_nonneg (fun c hc => (g4 c hc).1) hxs
        refine ⟨(x, dot cs' xs), (bs_iff ha.1 g1 g2 ht).mpr ⟨hx0, hd0, h3⟩, List.mem_map.mpr ⟨xs, (solF_iff hlen g4 hd0).mpr ⟨?_, hxs, rfl⟩, rfl⟩⟩
        rw [hll]; simpa using h1

theorem solF_nodup : ∀ {n : Nat} {t : Int} {cs : List Int}, cs.length ≤ n + 2 → (∀ x ∈ cs, 1 ≤ x ∧ x ≤ 100) → (solF n t cs).Nodup
  | n, t, [], hn, hc => by
    unfold solF
    split
    · simp
    · exact .nil
  | n, t, [a], hn, hc => by
    unfold solF
    split
    · simp
    · exact .nil
  | n, t, [a, b], hn, hc => by
    unfold solF
    rw [List.Nodup, List.pairwise_map]
    refine (bs_apart (z := t) (hc a (by simp)).1 (hc b (by simp)).1).imp fun {p q} h e => h ?_
    simp only [List.cons.injEq] at e
    exact e.1
  | 0, t, a :: b :: z :: r, hn, hc => by simp at hn
  | n + 1, t, a :: b :: z :: r, hn, hc => by
    have ha := hc a (by simp)
    obtain ⟨g1, g2, g4⟩ := g3_le fun x hx => hc x (List.mem_cons_of_mem _ hx)
    have hlen : ((b :: z :: r).map (· / g3 (b :: z :: r))).length ≤ n + 2 := by rw [List.length_map]; simp at hn ⊢; omega
    rw [solF_s, List.Nodup, List.pairwise_flatMap]
    refine ⟨fun p _ => ?_, (bs_apart (z := t) ha.1 g1).imp fun {p q} h x hx y hy e => ?_⟩
    · rw [List.pairwise_map]
      refine (solF_nodup hlen g4).imp fun {x y} h e => h ?_
      simp only [List.cons.injEq] at e
      exact e.2
    · obtain ⟨x', _, rfl⟩ := List.mem_map.mp hx
      obtain ⟨y', _, rfl⟩ := List.mem_map.mp hy
      simp only [List.cons.injEq] at e
      exact h e.1

theorem good_sol {T : Int} : ∀ {cs l : List Int}, (∀ c ∈ cs, 1 ≤ c) → (dotp (cs.zip (List.replicate cs.length T)) l = dot cs l) ∧ (GoodRow (cs.zip (List.replicate cs.length T)) l → l.length = cs.length ∧ ∀ x ∈ l, 0 ≤ x) ∧
    (l.length = cs.length → (∀ x ∈ l, 0 ≤ x) → dot cs l ≤ T → GoodRow (cs.zip (List.replicate cs.length T)) l)
  | [], [], _ => ⟨rfl, fun _ => ⟨rfl, fun _ h => nomatch h⟩, fun _ _ _ => trivial⟩
  | [], _ :: _, _ => ⟨rfl, fun h => h.elim, fun h => by cases h⟩
  | c :: cs, [], _ => ⟨rfl, fun h => h.elim, fun h => by cases h⟩
  | c :: cs, x :: xs, hc => by
    have hc1 := hc c List.mem_cons_self
    have hc' : ∀ c ∈ cs, 1 ≤ c := fun y hy => hc y (List.mem_cons_of_mem _ hy)
    obtain ⟨i1, i2, i3⟩ := good_sol (T := T) (cs := cs) (l := xs) hc'
    refine ⟨?_, fun h => ?_, fun h1 h2 h3 => ?_⟩
    · show x * c + dotp (cs.zip (List.replicate cs.length T)) xs = c * x + dot cs xs
      rw [i1, Int.mul_comm]
    · have h : 0 ≤ x ∧ x ≤ T ∧ GoodRow (cs.zip (List.replicate cs.length T)) xs := h
      obtain ⟨k1, k2⟩ := i2 h.2.2
      refine ⟨by rw [List.length_cons, List.length_cons, k1], fun y hy => ?_⟩
      rcases List.mem_cons.mp hy with rfl | hy
      · exact h.1
      · exact k2 y hy
    · have hx := h2 x List.mem_cons_self
      have hxs : ∀ y ∈ xs, 0 ≤ y := fun y hy => h2 y (List.mem_cons_of_mem _ hy)
      have h3 : c * x + dot cs xs ≤ T := h3
      have h4 := dot_nonneg hc' hxs
      have h5 : x ≤ c * x := by have := Int.mul_le_mul_of_nonneg_right hc1 hx; omega
      exact ⟨hx, by show x ≤ T; omega, i3 (by simpa using h1) hxs (by omega)⟩

theorem sol_fact (t : Int) (cs : List Int) (hl : cs.length ≤ 5) (hc : ∀ x ∈ cs, 1 ≤ x ∧ x ≤ 5) (h0 : 0 ≤ t) (ht : t < capL.getD cs.length 0) : SolFact t cs := by
  have hone : ∀ x ∈ cs, 1 ≤ x := fun x hx => (hc x hx).1
  have hcc : ∀ x ∈ cs, 1 ≤ x ∧ x ≤ 100 := fun x hx => by have := hc x hx; omega
  have hasc := sumsF_asc (bounds := List.replicate cs.length t) h0 hone
  have hp : (solF 5 t cs).Perm (sumsF t cs (List.replicate cs.length t)) := perm_of_mem (solF_nodup (by omega) hcc) hasc.nodup fun l => by
    obtain ⟨g1, g2, g3⟩ := good_sol (T := t) (l := l) hone
    rw [solF_iff (by omega) hcc h0, sumsF_mem h0 hone, g1]
    constructor
    · rintro ⟨h1, h2, h3⟩; exact ⟨g3 h1 h2 (by omega), h3⟩
    · rintro ⟨h1, h2⟩; exact ⟨(g2 h1).1, (g2 h1).2, h2⟩
  have hcap : t.toNat ≤ 7 ∧ ∀ n, cs.length = n + 1 → cmb n t.toNat < 64 := by
    have c0 : cmb 0 7 < 64 := by decide +kernel
    have c1 : cmb 1 7 < 64 := by decide +kernel
    have c2 : cmb 2 7 < 64 := by decide +kernel
    have c3 : cmb 3 4 < 64 := by decide +kernel
    have c4 : cmb 4 3 < 64 := by decide +kernel
    generalize cs.length = m at hl ht
    match m, hl, ht with
    | 0, _, ht => exact ⟨by have : t < 8 := ht; omega, fun n h => by cases h⟩
    | 1, _, ht =>
      have : t < 8 := ht
      exact ⟨by omega, fun n h => by cases h; exact Nat.lt_of_le_of_lt (cmb_mono _ (by omega)) c0⟩
    | 2, _, ht =>
      have : t < 8 := ht
      exact ⟨by omega, fun n h => by cases h; exact Nat.lt_of_le_of_lt (cmb_mono _ (by omega)) c1⟩
    | 3, _, ht =>
      have : t < 8 := ht
      exact ⟨by omega, fun n h => by cases h; exact Nat.lt_of_le_of_lt (cmb_mono _ (by omega)) c2⟩
    | 4, _, ht =>
      have : t < 5 := ht
      exact ⟨by omega, fun n h => by cases h; exact Nat.lt_of_le_of_lt (cmb_mono _ (by omega)) c3⟩
    | 5, _, ht =>
      have : t < 4 := ht
      exact ⟨by omega, fun n h => by cases h; exact Nat.lt_of_le_of_lt (cmb_mono _ (by omega)) c4⟩
  refine ⟨hp, hasc, ?_, rows_few (N := 5) (M := 7) h0 hcap.1 hone hl few57⟩
  match cs, hp, hone, hcap with
  | [], _, _, _ =>
    unfold solF
    split <;> decide
  | c :: cs, hp, hone, hcap =>
    have h1 := hp.length_eq
    have h2 := sumsF_len (n := cs.length) (steps := c :: cs) (bounds := List.replicate (c :: cs).length t) h0 hone (by rw [List.length_zip, List.length_replicate, Nat.min_self]; rfl)
    have h3 := hcap.2 cs.length rfl
    omega

/-- the row -/
theorem dio_holds : R0.Holds := law_of_walk (walk_law wk_fact fv_fact bs_fact sol_fact)
end Dio

theorem PySem.Challenge.cw_iy0017_01_holds : PySem.Challenge.rw_iy0017_01.Holds :=
  Dio.dio_holds
