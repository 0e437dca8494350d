import PyProof.Rows.All
import Wide.All
import OpenK.AllK
import Wide.FinOn
import PySem.Challenge.RW_mr0035_01

section
open PySem PySem.W PyProof.Rows
set_option Elab.async false
set_option maxRecDepth 100000
namespace Mine
open PySem.Sem (wp)

/-- no codec that holds a buffer stands in this place of the stack -/
def offDec : Code → Bool
  | .builtin id _ => !Builtin.Bytes.decodersThatHold.contains id
  | _ => true
def CleanB (l : List (Code × Pos)) : Prop := ∀ x ∈ l, offDec x.1 = true
def Clean (Γ : Ctx) : Prop := offDec Γ.code = true ∧ CleanB Γ.below

def wpC {α : Type} (M : Model) (A : Around) (t : Sem α) (Q : α → Shared → Prop) (E : Value → Shared → Prop) (s : Shared) : Prop :=
  ∀ Γ p, Γ.In A → Clean Γ → wp M Γ t (fun a _ s' => Q a s') (fun e _ s' => E e s') p s
def codeC (M : Model) (A : Around) (c : Code) (R : Result → Shared → Prop) (s : Shared) : Prop :=
  ∀ Γ p, Γ.code = c → Γ.Below A → CleanB Γ.below → wpCode M Γ R p s

section
variable {α β : Type} {M : Model} {A : Around} {E : Value → Shared → Prop} {s : Shared}
theorem wpC_of {t : Sem α} {Q : α → Shared → Prop} (h : wpAny M A t Q E s) : wpC M A t Q E s := fun Γ p hΓ _ => h Γ p hΓ
theorem codeC_of {c : Code} {R : Result → Shared → Prop} (h : codeAny M A c R s) : codeC M A c R s := fun Γ p hc hΓ _ => h Γ p hc hΓ
theorem wpC_pure {a : α} {Q : α → Shared → Prop} (h : Q a s) : wpC M A (pure a) Q E s := wpC_of (wpAny_pure h)
theorem wpC_mono {t : Sem α} {Q Q' : α → Shared → Prop} {E' : Value → Shared → Prop} (h : wpC M A t Q E s)
    (hQ : ∀ a s, Q a s → Q' a s) (hE : ∀ e s, E e s → E' e s) : wpC M A t Q' E' s :=
  fun Γ p hΓ hc => Sem.wp_mono M Γ t (fun a _ s => hQ a s) (fun e _ s => hE e s) p s (h Γ p hΓ hc)
theorem wpC_bind {m : Sem α} {f : α → Sem β} {Q : β → Shared → Prop} (h : wpC M A m (fun a s' => wpC M A (f a) Q E s') E s) :
    wpC M A (m >>= f) Q E s := fun Γ p hΓ hc => by
  rw [Sem.wp_bind']
  exact Sem.wp_mono M Γ m (fun a p' s' h' => h' Γ p' hΓ hc) (fun _ _ _ h' => h') p s (h Γ p hΓ hc)
/-- the first part by the library's own logic, the rest by this one -/
theorem wpC_step {m : Sem α} {f : α → Sem β} {Q : β → Shared → Prop} (h : wpAny M A m (fun a s' => wpC M A (f a) Q E s') E s) :
    wpC M A (m >>= f) Q E s := wpC_bind (wpC_of h)
theorem wpC_onRaise {m : Sem α} {k : Value → Sem Unit} {Q : α → Shared → Prop}
    (h : wpC M A m Q (fun e s' => wpC M A (k e) (fun _ s'' => E e s'') E s') s) : wpC M A (m.onRaise k) Q E s := fun Γ p hΓ hc => by
  rw [Sem.wp_onRaise]
  exact Sem.wp_mono M Γ m (fun _ _ _ h' => h') (fun e p' s' h' => h' Γ p' hΓ hc) p s (h Γ p hΓ hc)
theorem wpC_attempt {m : Sem α} {Q : Except Value α → Shared → Prop} (h : wpC M A m (fun a => Q (.ok a)) (fun e => Q (.error e)) s) :
    wpC M A m.attempt Q E s := fun Γ p hΓ hc => by rw [Sem.wp_attempt]; exact h Γ p hΓ hc
theorem wpC_holding {vs : List Value} {m : Sem α} {Q : α → Shared → Prop} (h : wpC M A m Q E s) : wpC M A (holding vs m) Q E s :=
  fun Γ p hΓ hc => by rw [Sem.wp_holding]; exact h Γ p hΓ hc
theorem wpC_standAt {pos : Pos} {f : Unit → Sem α} {Q : α → Shared → Prop} (h : wpC M A (f ()) Q E s) : wpC M A (standAt pos >>= f) Q E s := wpC_step (wpAny_standAt h)
theorem wpC_eq {t : Sem α} {a : α} {f : α → Sem β} {Q : β → Shared → Prop} (e : t = pure a) (h : wpC M A (f a) Q E s) : wpC M A (t >>= f) Q E s := by
  subst e; exact h
theorem codeC_mono {c : Code} {R R' : Result → Shared → Prop} (h : codeC M A c R s) (hR : ∀ r s, R r s → R' r s) : codeC M A c R' s :=
  fun Γ p hc hΓ hb => wpCode_mono hR (h Γ p hc hΓ hb)
theorem clean_below {Γ : Ctx} (h : Clean Γ) (p : Pos) : CleanB ((Γ.code, p) :: Γ.below) := fun x hx => by
  rcases List.mem_cons.mp hx with rfl | hx
  · exact h.1
  · exact h.2 x hx
theorem wpC_run {c : Code} {h : Option Value} {Q : Flow → Shared → Prop}
    (hc : codeC M (A.mark h) c (fun r s' => match r with | .ok f => Q f s' | .error e => E e s') s) (hnb : h ≠ some byPass := by intro x; cases x) :
    wpC M A (run c h) Q E s :=
  fun Γ p hΓ hcl => by rw [Sem.wp_run]; exact hc _ p rfl (hΓ.enter c h p hnb) (clean_below hcl p)
theorem wpC_runValue {c : Code} {Q : Value → Shared → Prop}
    (hc : codeC M A c (fun r s' => match r with | .ok (.ret v) => Q v s' | .ok _ => False | .error e => E e s') s) :
    wpC M A (runValue c) Q E s := fun Γ p hΓ hcl => by
  rw [Sem.wp_runValue]; exact hc _ p rfl (hΓ.enter c none p (by intro x; cases x)) (clean_below hcl p)
theorem wpC_call {f : Value} {pos : List Value} {kw : List (Str × Value)} {Q : Value → Shared → Prop}
    (hc : codeC M A (.call f ⟨pos, kw⟩) (fun r s' => match r with | .ok (.ret v) => Q v s' | .ok _ => False | .error e => E e s') s) :
    wpC M A (call f pos kw) Q E s := wpC_runValue hc
theorem codeC_of_tree {c : Code} {R : Result → Shared → Prop} (ho : offDec c = true)
    (h : wpC M (A.under c) (M.den c) (fun fin s' => match fin with | .done f => R (.ok f) s' | .again c' => c'.quiet = true ∧ codeC M A c' R s')
      (fun e s' => R (.error e) s') s) : codeC M A c R s := fun Γ p hc hΓ hb => by
  rw [wpCode_iff_wp, hc]
  refine Sem.wp_mono M Γ _ (fun fin p' s' h' => ?_) (fun _ _ _ h' => h') p s (h Γ p (hc ▸ hΓ.in) ⟨hc ▸ ho, hb⟩)
  cases fin with
  | done f => exact h'
  | again c' => exact ⟨h'.1, h'.2 (Γ.goto c') p' rfl (hΓ.goto c') hb⟩
theorem guard_of {id : String} {args : Args} (h : guardIds.contains id = true) : (Code.builtin id args).isGuard = true := h
/-- the wish for room asks each place of the stack the same question, and a place that is neither a guard nor such a codec says no -/
theorem exported_any (self : Value) : ∃ P : Code × Pos → Bool, Builtin.Bytes.exported self = (do return (← stack).any P) ∧
    ∀ c p, c.isGuard = false → offDec c = true → P (c, p) = false := by
  refine ⟨_, rfl, fun c p h1 h2 => ?_⟩
  split
  all_goals first
    | rfl
    | (rename_i e; cases e; rw [guard_of (by decide +kernel)] at h1; cases h1)
    | (rename_i e; cases e; rw [show Builtin.Bytes.decodersThatHold.contains _ = false from Bool.not_eq_true' _ ▸ h2, Bool.and_false])
theorem none_holds {P : Code × Pos → Bool} (hP : ∀ c p, c.isGuard = false → offDec c = true → P (c, p) = false) :
    ∀ {l : List (Code × Pos)}, guardsOf l = [] → CleanB l → l.any P = false
  | [], _, _ => rfl
  | (c, p) :: l, h, hc => by
    rw [guardsOf_cons, List.append_eq_nil_iff] at h
    have hg : c.isGuard = false := Bool.eq_false_iff.mpr fun q => by
      have := h.1
      rw [Code.guards, q] at this
      cases this
    simp only [List.any_cons, hP c p hg (hc _ List.mem_cons_self), Bool.false_or]
    exact none_holds hP h.2 fun x hx => hc x (List.mem_cons_of_mem _ hx)
theorem wpC_exported {self : Value} {f : Bool → Sem α} {Q : α → Shared → Prop} (hg : A.guards = some []) (h : wpC M A (f false) Q E s) :
    wpC M A (Builtin.Bytes.exported self >>= f) Q E s := by
  obtain ⟨P, e, hP⟩ := exported_any self
  rw [e]
  refine wpC_bind fun Γ p hΓ hcl => ?_
  show wpC M A (f (((Γ.code, p) :: Γ.below).any P)) Q E s
  rwa [none_holds hP (by rw [guardsOf_cons]; exact hΓ.2.2.2.1 [] hg) (clean_below hcl p)]
end
end Mine
end

section
open PySem PySem.W PyProof.Rows PySem.Spec PySem.Calls
set_option Elab.async false
set_option maxRecDepth 100000
namespace Mine
open PySem.Sem (wp)

def cleanly (l : List (Code × Pos)) : Bool := l.all fun x => offDec x.1
theorem cleanly_iff {Γ : PySem.Ctx} {p : Pos} : cleanly ((Γ.code, p) :: Γ.below) = true ↔ Clean Γ := by
  simp only [cleanly, List.all_cons, Bool.and_eq_true, List.all_eq_true]
  exact Iff.rfl
/-- the same run behind a look at the stack: over a stack that bears such a codec it answers d at once -/
def looked {α : Type} (d : α) (t : Sem α) : Sem α := .stack fun l => if cleanly l then t else pure d
section
variable {α : Type} {M : Model} {A : Around} {d : α} {t : Sem α} {Q : α → Shared → Prop} {E : Value → Shared → Prop} {s : Shared}
/-- so the library's logic, which speaks of all stacks, says of it what mine says of the run itself -/
theorem looked_iff : wpAny M A (looked d t) Q E s ↔ ∀ Γ p, Γ.In A → (Clean Γ → wp M Γ t (fun a _ s' => Q a s') (fun e _ s' => E e s') p s) ∧ (¬ Clean Γ → Q d s) := by
  refine forall_congr' fun Γ => forall_congr' fun p => imp_congr_right fun _ => ?_
  show wp M Γ (if cleanly ((Γ.code, p) :: Γ.below) then t else pure d) _ _ p s ↔ _
  by_cases h : Clean Γ
  · rw [if_pos (cleanly_iff.mpr h)]
    exact ⟨fun x => ⟨fun _ => x, fun n => absurd h n⟩, fun x => x.1 h⟩
  · rw [if_neg fun q => h (cleanly_iff.mp q)]
    exact ⟨fun x => ⟨fun y => absurd y h, fun _ => x⟩, fun x => x.2 h⟩
theorem looked_of (h : wpC M A t Q E s) (hd : Q d s) : wpAny M A (looked d t) Q E s := looked_iff.mpr fun Γ p hΓ => ⟨h Γ p hΓ, fun _ => hd⟩
end
/-- the caller's own stack is clean: where the run behind the look keeps a claim, the run itself keeps it -/
theorem unlook {c : ClaimW} {tree : List Value → Sem Fin} {d : Fin} {defs kps : List Str} {wr : Bool}
    (hz : ∀ w s s₀, AfterRun (opening c.prog) w s → fenceModules? c.prog s = some s₀ → s₀.asleep)
    (H : c.HoldsOpenBy (fun vs => ⟨looked d (tree vs), .builtin "claim.caller" {}, default, []⟩) defs kps wr) :
    c.HoldsOpenBy (fun vs => ⟨tree vs, .builtin "claim.caller" {}, default, []⟩) defs kps wr := by
  refine ⟨H.1, H.2.1, fun w => ⟨(H.2.2 w).1, fun s hs => ?_⟩⟩
  obtain ⟨s₀, hf, x1, s₁, top, x2, x3, x4, go⟩ := (H.2.2 w).2 s hs
  refine ⟨s₀, hf, x1, s₁, top, x2, x3, x4, fun args y1 y2 ord y3 => ?_⟩
  obtain ⟨vs, s₂, lay, n, o, s', run, told⟩ := go args y1 y2 ord y3
  have z : s₂.asleep := Shared.asleep_of_life ((layAllW_rest _ _ _ lay).2.2.2.trans top.2.1) (hz w s s₀ hs hf)
  match n, run with
  | n + 1, run =>
    refine ⟨vs, s₂, lay, n, o, s', ?_, told⟩
    have one : step (denote table) c.prog w s₂ ⟨looked d (tree vs), .builtin "claim.caller" {}, default, []⟩ = .go s₂ ⟨tree vs, .builtin "claim.caller" {}, default, []⟩ := by
      have q : cleanly [(Code.builtin "claim.caller" {}, (default : Pos))] = true := by decide +kernel
      show Step.go s₂ ⟨if cleanly [(Code.builtin "claim.caller" {}, (default : Pos))] then tree vs else pure d, _, _, _⟩ = _
      rw [if_pos q]
    have calm : (⟨looked d (tree vs), .builtin "claim.caller" {}, default, []⟩ : Thread).calm = true := by
      show (Thread.calm ⟨Sem.stack _, _, _, _⟩) = true
      simp [Thread.calm, Thread.atCollectorCode, Thread.yieldsInsideHandler]
    rcases sstep_single (denote table) c.prog w s₂ _ calm z with e | e
    · rw [one] at e
      rw [schedN, e] at run
      exact run
    · rw [one] at e
      cases e

namespace PySem.W
/-- the head that the tactic open_top lays, for a run behind the look; by its full name, Mine.PySem.W.holds_open, the tactic finds it here -/
theorem holds_open {r : OpenRow} {q : Program} {loose : List Str} {Xt : Shared → Bool} {XP : (Str → Option Value) → Heap → Prop} {α : Type} {Yf : Shared → α} {Ya : World → α}
    {YP : World → Heap → Prop} {d : DefRec} {kwd : List (Str × Expr)} {N : Nat}
    (left : LeftO r.prog q loose Xt Yf Ya N)
    (a1 : ∀ w s, Yf s = Ya w → YP w s.heap)
    (a2 : ∀ w h h', YP w h → (∀ b o, h.get? b = some o → h'.get? b = some o) → YP w h')
    (a3 : ∀ s, Xt s = true → XP (s.heap.nsMap mainGlobals) s.heap)
    (a4 : ∀ mg h h', XP mg h → (∀ b o, h.get? b = some o → h'.get? b = some o) → XP mg h')
    (fd : defOf q r.name = some (d, kwd))
    (fp : r.prog.theDef r.name = some (d.params, d.body, d.scope))
    (fk : kwWritten? d.params.kwonlyargs d.params.kw_defaults = some kwd)
    (a5 : ∀ s, Xt s = true → RecFacts r.records s.heap)
    (a6 : (!r.writes || r.records.isEmpty) = true)
    (said : r.wellSaid = true)
    (ok : (chainsOk q && opensWell r.prog && (frees r.toRowW && r.within.isEmpty)) = true)
    (bare : r.prog.bare) (prom : r.toRowW.promised)
    (walk : WalkO q loose XP YP r.toRowW d kwd fun f vs => looked (.bool true) (PySem.call f vs)) : r.Holds := by
  have chain : chainsOk q = true := by
    simp only [Bool.and_eq_true] at ok
    exact ok.1.1
  have quiet : ∀ w s s₀, AfterRun (opening r.prog) w s → fenceModules? r.prog s = some s₀ → s₀.asleep := fun w s s₀ hs hf => by
    obtain ⟨s₀', hf', _, s₁, top, z, _⟩ := (left.behind a3 chain w).2 s hs
    obtain rfl : s₀' = s₀ := Option.some.inj (hf'.symm.trans hf)
    exact Shared.asleep_of_life top.2.1.symm z
  refine ⟨said, prom, unlook (d := .done (.ret (.bool true))) quiet (open_anyG (run := fun f vs => looked (.bool true) (PySem.call f vs)) left a1 a2 a3 a4 a5 a6 ok bare prom ?_ ?_ ?_)⟩
  · intro vs w s mg f Q E ns at_ h
    rw [looked_iff] at h ⊢
    intro Γ p hΓ
    refine ⟨fun cl => ?_, (h Γ p hΓ).2⟩
    have call : wpC (model r.prog w) callerA (PySem.call f vs) (fun v s' => Q (.done (.ret v)) s') E s := fun Γ p hΓ => (h Γ p hΓ).1
    refine (wpC_step (wpAny_nsGet ns ?_) : wpC _ _ _ Q E s) Γ p hΓ cl
    rw [at_]
    exact wpC_bind (wpC_mono call (fun _ _ x => wpC_pure x) fun _ _ x => x)
  · intro w s ns G n hn
    split at hn
    · rw [List.mem_singleton.mp hn]
      exact pinned_of_view ns G fd fp fk
    · cases hn
  · intro w s₀ s₁ mg mb G Y args vs as hp hl L low
    obtain ⟨a, o, pm, cd, doc, dV, kV, at_, rest⟩ := G.fn fd
    refine ⟨.ref a, at_, walk w s₀ s₁ mg mb G Y a o pm cd doc dV kV rest.1 rest.2.1 rest.2.2.1 rest.2.2.2 ?_ L.gens args vs as hp hl L.reads L.well (L.low low)⟩
    rw [defOf_name fd]
    exact at_
end PySem.W

set_option maxHeartbeats 8000000 in
open_top hd for PySem.Challenge.rw_mr0035_01
end Mine
end

section
open PySem PySem.W PyProof.Rows
set_option Elab.async false
set_option maxRecDepth 100000
namespace Mine
theorem ba_mro : mroOf (.type "bytearray") = pure [.type "bytearray", .type "object"] := by rw [mroOf_type]; kernel_rfl
theorem ba_lookup_new : typeLookup (.type "bytearray") "__new__" = pure (some (.builtin "bytearray.__new__")) := by rw [typeLookup_type, builtinLookup_eq_fast]; kernel_rfl
theorem ba_slot_init : Slot "bytearray" "__init__" "bytearray.__init__" :=
  .of (owner := "bytearray") (n := "__init__") (by rw [typeLookup_type, builtinLookup_eq_fast]; kernel_rfl) (by decide +kernel) (by decide +kernel) (by decide +kernel)
    (by first | exact .inl (by decide +kernel) | exact .inr (by decide +kernel)) (by rw [isSubtype_type]; kernel_rfl)
theorem ba_called : TypeCalled "bytearray" "bytearray.__new__" "bytearray.__init__" :=
  ⟨by decide +kernel, by decide +kernel, ⟨_, _, ba_mro⟩, madeBy_type ba_mro ba_lookup_new (by decide +kernel), by decide +kernel, by rw [isSubtype_type]; kernel_rfl, ba_slot_init⟩
theorem ba_typeCall (a : Value) : checkTypeCall "bytearray" ⟨[a], []⟩ = pure () := by kernel_rfl
theorem ba_newCall (a : Value) : checkBuiltinCall "bytearray.__new__" ⟨[.type "bytearray", a], []⟩ = pure () := by kernel_rfl
theorem ba_plain_new : plainId "bytearray.__new__" = true := by decide +kernel
theorem ba_entry_init : entryFor table "bytearray.__init__" = some Builtin.«bytearray.__init__» := by first | exact entryFor_of_fast (by kernel_rfl) | exact entryFor_of_tree (by kernel_rfl)
theorem ba_entry_new : entryFor table "bytearray.__new__" = some Builtin.«list.__new__» :=
  entryFor_alias (id' := "list.__new__") (by kernel_rfl) (by first | rfl | decide +kernel) (by decide +kernel) (by kernel_rfl)
theorem ba_bind (v : Value) : Builtin.Bytes.bindOptional "bytearray.__init__" "bytearray" ["source", "encoding", "errors"] [v] [] = pure [some v, none, none] := by kernel_rfl
theorem ba_slot_len : Slot "bytearray" "__len__" "bytearray.__len__" :=
  .of (owner := "bytearray") (n := "__len__") (by rw [typeLookup_type, builtinLookup_eq_fast]; kernel_rfl) (by decide +kernel) (by decide +kernel) (by decide +kernel)
    (by first | exact .inl (by decide +kernel) | exact .inr (by decide +kernel)) (by rw [isSubtype_type]; kernel_rfl)
theorem ba_typeIs {s : Shared} {a : Addr} {b : Array UInt8} {n : Nat} (h : s.heap.get? a = some { cls := .type "bytearray", data := .bytearray b n }) : s.TypeIs (.ref a) "bytearray" := ⟨_, h, rfl⟩
theorem ba_owner : ("bytearray.__new__".splitOn ".__new__").headD "" = "bytearray" := by simp +decide [String.splitOn, String.splitOnAux]
theorem ba_sub : isSubtype (.type "bytearray") (.type "bytearray") = pure true := by rw [isSubtype_type]; kernel_rfl
section
variable {prog : Program} {w : World} {A : Around} {E : Value → Shared → Prop} {s : Shared}
theorem ba_new (a : Value) {Q₁ : Value → Shared → Prop}
    (h : Q₁ (.ref s.heap.objs.size) { s with heap := s.heap.push { cls := .type "bytearray", data := .bytearray #[] } }) :
    codeAny (model prog w) A (.call (.builtin "bytearray.__new__") ⟨[.type "bytearray", a], []⟩) (wants Q₁ E) s := by
  refine codeAny_of_tree ?_
  show wpAny _ A.in1 (do checkBuiltinCall "bytearray.__new__" ⟨[.type "bytearray", a], []⟩; again (.builtin "bytearray.__new__" ⟨[.type "bytearray", a], []⟩)) _ _ s
  refine wpAny_bind (wpAny_of_eq (ba_newCall a) (wpAny_pure ⟨plainId_quiet ba_plain_new _, codeAny_builtin_stack ba_entry_new rfl fun p st => ?_⟩))
  rw [Around.under_plainId ba_plain_new _]
  have hsub := ba_sub
  have hown := ba_owner
  obtain ⟨hp, g, d, tk, os⟩ := s
  simp only [hown]
  wp_walk
  exact h
theorem ifC_false {α : Type} {M : Model} {c : Bool} {a b : Sem α} {Q : α → Shared → Prop} (hc : c = false) (h : wpC M A b Q E s) : wpC M A (if c = true then a else b) Q E s := by
  subst hc; exact h
theorem ifC_true {α : Type} {M : Model} {c : Bool} {a b : Sem α} {Q : α → Shared → Prop} (hc : c = true) (h : wpC M A a Q E s) : wpC M A (if c = true then a else b) Q E s := by
  subst hc; exact h
theorem codeC_builtin {id : String} {args : Args} {b : Builtin} {R : Result → Shared → Prop} (ho : offDec (.builtin id args) = true) (hb : entryFor table id = some b)
    (h : wpC (model prog w) (A.under (.builtin id args)) (b args)
      (fun fin s' => match fin with | .done f => R (.ok f) s' | .again c' => c'.quiet = true ∧ codeC (model prog w) A c' R s') (fun e s' => R (.error e) s') s) :
    codeC (model prog w) A (.builtin id args) R s := by
  refine codeC_of_tree ho ?_
  show wpC _ _ (match entryFor table id with | some b => b args | none => unsupported ((withoutEnding? id "#data").getD id)) _ _ s
  rw [hb]; exact h
theorem codeC_call_builtin {id : String} {args : Args} {b : Builtin} {R : Result → Shared → Prop} (ho : offDec (.builtin id args) = true) (hq : plainId id = true) (hb : entryFor table id = some b)
    (h : wpAny (model prog w) A.in1 (checkBuiltinCall id args) (fun _ s₁ => wpC (model prog w) A.in1 (b args)
      (fun fin s' => match fin with | .done f => R (.ok f) s' | .again c' => c'.quiet = true ∧ codeC (model prog w) A c' R s') (fun e s' => R (.error e) s') s₁)
      (fun e s' => R (.error e) s') s) : codeC (model prog w) A (.call (.builtin id) args) R s := by
  refine codeC_of_tree rfl ?_
  show wpC _ A.in1 (do checkBuiltinCall id args; again (.builtin id args)) _ _ s
  refine wpC_step (wpAny_mono h (fun _ s₁ h₁ => wpC_pure (And.intro (plainId_quiet hq args) (codeC_builtin ho hb ?_))) fun _ _ h' => h')
  rw [Around.under_plainId hq args]; exact h₁
theorem callType_codesC {T newId initId : String} {Bi : Builtin} {args : List Value} {Q Q₁ : Value → Shared → Prop} (ft : TypeCalled T newId initId)
    (hct : checkTypeCall T ⟨args, []⟩ = pure ()) (entryI : entryFor table initId = some Bi) (hoff : offDec (.builtin initId ⟨[], []⟩) = true)
    (hnew : codeAny (model prog w) A.in1 (.call (.builtin newId) ⟨.type T :: args, []⟩) (wants Q₁ E) s)
    (hnext : ∀ obj s₁, Q₁ obj s₁ → s₁.TypeIs obj T ∧ argsOk initId ⟨obj :: args, []⟩ ∧
      wpC (model prog w) A.in1.in1 (Bi ⟨obj :: args, []⟩)
        (fun fin s' => match fin with | .done f => wants (fun r s₂ => r = .none ∧ Q obj s₂) E (.ok f) s' | .again c' => c'.quiet = true ∧ codeC (model prog w) A.in1 c' (wants (fun r s₂ => r = .none ∧ Q obj s₂) E) s')
        (fun e s' => wants (fun r s₂ => r = .none ∧ Q obj s₂) E (.error e) s') s₁) :
    wpC (model prog w) A (call (.type T) args) Q E s := by
  obtain ⟨c, tl, hmro⟩ := ft.mro
  have hmade := ft.made
  have hsub := ft.sub
  refine wpC_call (codeC_of_tree rfl ?_)
  show wpC _ _ (callAny (.type T) _) _ _ _
  refine wpC_pure ⟨Code.quiet_builtin _ (by decide +kernel), codeC_builtin (by show (!Builtin.Bytes.decodersThatHold.contains "type.__call__") = true; decide +kernel) F.entry_type_call ?_⟩
  rw [Around.under_plain (weight_type_call_type T args []) rfl]
  have h1 := ft.notType
  have h2 := ft.canCreate
  unfold Builtin.«type.__call__»
  simp only [h1, h2, Bool.false_eq_true, if_false]
  refine wpC_eq hct ?_
  refine wpC_eq hmro ?_
  refine ifC_false rfl ?_
  refine wpC_eq hmade ?_
  refine wpC_eq rfl ?_
  refine wpC_bind (wpC_holding (wpC_call (codeC_of (codeAny_mono hnew fun r s₁ hr => ?_))))
  cases r with
  | error e => exact hr
  | ok fl =>
    cases fl with
    | ret obj =>
      obtain ⟨hT, hok, hsi⟩ := hnext _ _ hr
      have hli := ft.init.lookup
      have hbi := ft.init.bind obj
      show wpC _ _ (isInstance obj (.type T) >>= _) _ _ s₁
      refine wpC_step (wpAny_bind (wpAny_typeOf hT (wpAny_of_eq hsub ?_)))
      refine ifC_false rfl ?_
      refine wpC_bind (wpC_holding ?_)
      unfold callSpecial?
      refine wpC_step (wpAny_specialOf hT hli ?_)
      refine wpC_holding (wpC_eq hbi ?_)
      refine wpC_bind (wpC_call (codeC_call_builtin hoff ft.init.plain entryI (ft.init.check _ _ _ _ _ _ _ _ hT hok (wpC_mono hsi (fun fin s₂ hf => ?_) fun _ _ he => he))))
      cases fin with
      | again c' =>
        refine ⟨hf.1, codeC_mono hf.2 fun r₂ s₂ hr₂ => ?_⟩
        cases r₂ with
        | error e => exact hr₂
        | ok fl₂ =>
          cases fl₂ with
          | ret r => obtain ⟨rfl, hq⟩ := hr₂; exact wpC_pure (ifC_false rfl (wpC_pure hq))
          | _ => exact hr₂.elim
      | done fl₂ =>
        cases fl₂ with
        | ret r => obtain ⟨rfl, hq⟩ := hf; exact wpC_pure (ifC_false rfl (wpC_pure hq))
        | _ => exact hf.elim
    | _ => exact hr.elim
end
end Mine
end

section
open PySem PySem.W PyProof.Rows
set_option Elab.async false
set_option maxRecDepth 100000
namespace Mine
theorem ba_lookup_release : typeLookup (.type "bytearray") "__release_buffer__" = pure (some (.builtin "bytearray.__release_buffer__")) := by rw [typeLookup_type, builtinLookup_eq_fast]; kernel_rfl
theorem ba_release_end : ("bytearray.__release_buffer__".endsWith ("." ++ "__release_buffer__")) = true := by decide +kernel
theorem ba_release_drop : ("bytearray.__release_buffer__".dropRight ("__release_buffer__".length + 1)) = "bytearray" := by first | rfl | decide +kernel
theorem ba_int_index : typeLookup (.type "int") "__index__" = pure (some (.builtin "int.__index__")) := by rw [typeLookup_type, builtinLookup_eq_fast]; kernel_rfl
theorem ba_args_init (a b : Value) : argsOk "bytearray.__init__" ⟨[a, b], []⟩ := by first | exact rfl | decide +kernel | kernel_rfl
section
variable {prog : Program} {w : World} {A : Around} {E : Value → Shared → Prop} {s : Shared}
theorem ba_ownRelease {a : Addr} {Q : Bool → Shared → Prop} (hT : s.TypeIs (.ref a) "bytearray") (h : Q false s) : wpAny (model prog w) A (Builtin.Bytes.ownRelease (.ref a)) Q E s := by
  unfold Builtin.Bytes.ownRelease Builtin.Bytes.slotIsOwn
  refine wpAny_bind (wpAny_bind (wpAny_specialOf hT ba_lookup_release ?_))
  simp only [ba_release_end, ba_release_drop]
  refine wpAny_bind (wpAny_typeOf hT (wpAny_of_eq ba_sub ?_))
  exact wpAny_pure h
theorem ba_write {a : Addr} {b : Array UInt8} {f : Array UInt8 → Array UInt8} {Q : Unit → Shared → Prop} (h : s.heap.get? a = some { cls := .type "bytearray", data := .bytearray b }) (hz : (f b).size ≤ sizeLine)
    (hQ : ∀ h', h'.get? a = some { cls := .type "bytearray", data := .bytearray (f b) } → Heap.SameBut a s.heap h' → Q () { s with heap := h' }) : wpAny (model prog w) A (Builtin.Bytes.write (.ref a) f) Q E s := by
  show wpAny _ _ (updateBytearray a f) _ _ _
  unfold updateBytearray
  refine wpAny_bind (wpAny_load h ?_)
  show wpAny _ _ (update a (Obj.mapBytearray f) >>= fun _ => lookBehind a) _ _ _
  refine wpAny_bind (wpAny_update h ?_)
  have h₂ : (s.heap.update a (Obj.mapBytearray f)).get? a = some { cls := .type "bytearray", data := .bytearray (f b) } := Heap.get?_update_self (Obj.mapBytearray f) h rfl
  refine wpAny_lookBehind h₂ ?_ (hQ _ h₂ (Heap.SameBut.update ..))
  show (if (f b).size > sizeLine then some "bytearray:memory" else none) = none
  rw [if_neg (Nat.not_lt.mpr hz)]
theorem ba_payload {a : Addr} {b : Array UInt8} {n : Nat} {Q : Array UInt8 → Shared → Prop} (h : s.heap.get? a = some { cls := .type "bytearray", data := .bytearray b n }) (hQ : Q b s) : wpAny (model prog w) A (Builtin.Bytes.payload (.ref a)) Q E s := by
  unfold Builtin.Bytes.payload Builtin.Bytes.payload?
  refine wpAny_bind (wpAny_bind (wpAny_load h ?_))
  exact wpAny_pure (wpAny_pure hQ)
theorem ifP_neg {α : Type} {M : Model} {c : Prop} [Decidable c] {a b : Sem α} {Q : α → Shared → Prop} (hc : ¬ c) (h : wpC M A b Q E s) : wpC M A (if c then a else b) Q E s := by
  rw [if_neg hc]; exact h
theorem ifP_pos {α : Type} {M : Model} {c : Prop} [Decidable c] {a b : Sem α} {Q : α → Shared → Prop} (hc : c) (h : wpC M A a Q E s) : wpC M A (if c then a else b) Q E s := by
  rw [if_pos hc]; exact h
theorem sameBut_trans {a : Addr} {h₀ h₁ h₂ : Heap} (x : Heap.SameBut a h₀ h₁) (y : Heap.SameBut a h₁ h₂) : Heap.SameBut a h₀ h₂ := ⟨y.1.trans x.1, fun b hb => (y.2 b hb).trans (x.2 b hb)⟩
set_option maxHeartbeats 1000000 in
theorem ba_init_int {a : Addr} {k : Int} {t : Tok} {Q : Fin → Shared → Prop} (hg : A.guards = some []) (h : s.heap.get? a = some { cls := .type "bytearray", data := .bytearray #[] }) (h0 : 0 ≤ k) (h1 : k ≤ 65536)
    (hQ : ∀ h', h'.get? a = some { cls := .type "bytearray", data := .bytearray (Array.replicate k.toNat 0) } → Heap.SameBut a s.heap h' → Q (.done (.ret .none)) { s with heap := h' }) :
    wpC (model prog w) A (Builtin.«bytearray.__init__» ⟨[.ref a, .int k t], []⟩) Q E s := by
  unfold Builtin.«bytearray.__init__»
  refine wpC_step (ba_ownRelease (ba_typeIs h) ?_)
  refine ifC_false rfl ?_
  refine wpC_eq (ba_bind _) ?_
  refine wpC_eq (a := ()) rfl ?_
  refine wpC_eq (a := ()) rfl ?_
  refine wpC_bind ?_
  show wpC _ _ (Builtin.Bytes.exported (.ref a) >>= _) _ _ _
  refine wpC_exported hg ?_
  show wpC _ _ (Builtin.Bytes.exportsOf (.ref a) >>= _) _ _ _
  unfold Builtin.Bytes.exportsOf
  refine wpC_step (wpAny_bind (wpAny_load h ?_))
  refine wpAny_pure (wpC_pure ?_)
  refine ifC_false rfl ?_
  refine wpC_step (ba_write h (Nat.zero_le _) fun h₁ ha₁ hs₁ => ?_)
  refine wpC_eq (a := none) rfl ?_
  refine ifC_false rfl ?_
  refine wpC_eq (a := ()) rfl ?_
  refine wpC_step (wpAny_specialOf (T := "int") rfl ba_int_index ?_)
  refine ifC_true rfl ?_
  refine wpC_bind (wpC_attempt (wpC_of (wpAny_of_eq (rfl : asIndex (.int k t) = pure k) ?_)))
  refine ifC_false (by
    show (!(decide (-(2 ^ 63) ≤ k) && decide (k < 2 ^ 63))) = false
    rw [decide_eq_true (show -(2 ^ 63) ≤ k by omega), decide_eq_true (show k < 2 ^ 63 by omega)]; rfl) ?_
  refine ifP_neg (Int.not_lt.mpr h0) ?_
  refine ifC_false (beq_eq_false_iff_ne.mpr (by omega)) ?_
  refine ifC_false (by
    show decide (k.toNat > sizeLine) = false
    rw [sizeLine_eq]; exact decide_eq_false (by omega)) ?_
  refine wpC_step (wpAny_rule ?_)
  by_cases hp : k > 0
  · refine ifP_pos hp (wpC_step (ba_write ha₁ (by rw [Array.size_replicate, sizeLine_eq]; omega) fun h₂ ha₂ hs₂ => ?_))
    exact wpC_pure (hQ h₂ ha₂ (sameBut_trans hs₁ hs₂))
  · refine ifP_neg hp (wpC_pure (hQ h₁ ?_ hs₁))
    have : k = 0 := by omega
    subst this
    exact ha₁
theorem by_no_index : typeLookup (.type "bytes") "__index__" = pure none := by rw [typeLookup_type, builtinLookup_eq_fast]; kernel_rfl
theorem by_buffer : typeLookup (.type "bytes") "__buffer__" = pure (some (.builtin "bytes.__buffer__")) := by rw [typeLookup_type, builtinLookup_eq_fast]; kernel_rfl
theorem by_release : typeLookup (.type "bytes") "__release_buffer__" = pure none := by rw [typeLookup_type, builtinLookup_eq_fast]; kernel_rfl
theorem by_buffer_end : ("bytes.__buffer__".endsWith ("." ++ "__buffer__")) = true := by decide +kernel
theorem by_buffer_drop : ("bytes.__buffer__".dropRight ("__buffer__".length + 1)) = "bytes" := by first | rfl | decide +kernel
theorem by_buffer_get {id : String} {b : Array UInt8} {t : Tok} {full : Bool} {Q : Option (Array UInt8) → Shared → Prop} (h : Q (some b) s) : wpAny (model prog w) A (Builtin.Bytes.buffer? id (.bytes b t) full) Q E s := by
  have hT : ∀ s' : Shared, s'.TypeIs (.bytes b t) "bytes" := fun _ => rfl
  unfold Builtin.Bytes.buffer?
  refine wpAny_bind (wpAny_specialOf (hT _) by_buffer ?_)
  show wpAny _ _ (Builtin.Bytes.slotIsOwn (.bytes b t) "__buffer__" >>= _) _ _ _
  unfold Builtin.Bytes.slotIsOwn
  refine wpAny_bind (wpAny_bind (wpAny_specialOf (hT _) by_buffer ?_))
  simp only [by_buffer_end, by_buffer_drop]
  refine wpAny_bind (wpAny_typeOf (hT _) (wpAny_of_eq F.bm_sub ?_))
  refine bm_if_false rfl ?_
  refine wpAny_bind (wpAny_specialOf (hT _) by_buffer ?_)
  show wpAny _ _ (Builtin.Bytes.ownRelease (.bytes b t) >>= _) _ _ _
  unfold Builtin.Bytes.ownRelease Builtin.Bytes.slotIsOwn
  refine wpAny_bind (wpAny_bind (wpAny_bind (wpAny_specialOf (hT _) by_release ?_)))
  refine wpAny_pure (wpAny_pure ?_)
  refine bm_if_false rfl ?_
  exact wpAny_bind (wpAny_pure (wpAny_pure h))
theorem ba_buffer : typeLookup (.type "bytearray") "__buffer__" = pure (some (.builtin "bytearray.__buffer__")) := by rw [typeLookup_type, builtinLookup_eq_fast]; kernel_rfl
theorem ba_buffer_end : ("bytearray.__buffer__".endsWith ("." ++ "__buffer__")) = true := by decide +kernel
theorem ba_buffer_drop : ("bytearray.__buffer__".dropRight ("__buffer__".length + 1)) = "bytearray" := by first | rfl | decide +kernel
theorem ba_buffer_get {id : String} {a : Addr} {b : Array UInt8} {n : Nat} {full : Bool} {Q : Option (Array UInt8) → Shared → Prop} (ha : s.heap.get? a = some { cls := .type "bytearray", data := .bytearray b n }) (h : Q (some b) s) : wpAny (model prog w) A (Builtin.Bytes.buffer? id (.ref a) full) Q E s := by
  have hT := ba_typeIs ha
  unfold Builtin.Bytes.buffer?
  refine wpAny_bind (wpAny_specialOf hT ba_buffer ?_)
  show wpAny _ _ (Builtin.Bytes.slotIsOwn (.ref a) "__buffer__" >>= _) _ _ _
  unfold Builtin.Bytes.slotIsOwn
  refine wpAny_bind (wpAny_bind (wpAny_specialOf hT ba_buffer ?_))
  simp only [ba_buffer_end, ba_buffer_drop]
  refine wpAny_bind (wpAny_typeOf hT (wpAny_of_eq ba_sub ?_))
  refine bm_if_false rfl ?_
  refine wpAny_bind (wpAny_specialOf hT ba_buffer ?_)
  show wpAny _ _ (Builtin.Bytes.ownRelease (.ref a) >>= _) _ _ _
  refine wpAny_bind (ba_ownRelease hT ?_)
  refine bm_if_false rfl ?_
  exact wpAny_bind (ba_payload ha (wpAny_pure h))
set_option maxHeartbeats 1000000 in
theorem ba_init_bytes {a : Addr} {b : Array UInt8} {t : Tok} {Q : Fin → Shared → Prop} (hg : A.guards = some []) (h : s.heap.get? a = some { cls := .type "bytearray", data := .bytearray #[] }) (h1 : b.size ≤ sizeLine)
    (hQ : ∀ h', h'.get? a = some { cls := .type "bytearray", data := .bytearray b } → Heap.SameBut a s.heap h' → Q (.done (.ret .none)) { s with heap := h' }) :
    wpC (model prog w) A (Builtin.«bytearray.__init__» ⟨[.ref a, .bytes b t], []⟩) Q E s := by
  unfold Builtin.«bytearray.__init__»
  refine wpC_step (ba_ownRelease (ba_typeIs h) ?_)
  refine ifC_false rfl ?_
  refine wpC_eq (ba_bind _) ?_
  refine wpC_eq (a := ()) rfl ?_
  refine wpC_eq (a := ()) rfl ?_
  refine wpC_bind ?_
  show wpC _ _ (Builtin.Bytes.exported (.ref a) >>= _) _ _ _
  refine wpC_exported hg ?_
  show wpC _ _ (Builtin.Bytes.exportsOf (.ref a) >>= _) _ _ _
  unfold Builtin.Bytes.exportsOf
  refine wpC_step (wpAny_bind (wpAny_load h ?_))
  refine wpAny_pure (wpC_pure ?_)
  refine ifC_false rfl ?_
  refine wpC_step (ba_write h (Nat.zero_le _) fun h₁ ha₁ hs₁ => ?_)
  refine wpC_eq (a := none) rfl ?_
  refine ifC_false rfl ?_
  refine wpC_eq (a := ()) rfl ?_
  refine wpC_step (wpAny_specialOf (T := "bytes") rfl by_no_index ?_)
  refine ifC_false rfl ?_
  refine wpC_step (by_buffer_get ?_)
  refine wpC_step (wpAny_rule ?_)
  refine wpC_step (ba_write ha₁ h1 fun h₂ ha₂ hs₂ => ?_)
  exact wpC_pure (hQ h₂ ha₂ (sameBut_trans hs₁ hs₂))
end
/-- a bytearray of the call's own -/
abbrev baObj (b : Array UInt8) : Obj := { cls := .type "bytearray", data := .bytearray b }
section
variable {prog : Program} {w : World} {A : Around} {E : Value → Shared → Prop} {s : Shared} {h₀ : Heap} {L : Addr} {m : Str → Option Value} {news : List (Addr × Obj)}
theorem ba_made {b b' : Array UInt8} {h' : Heap} (F : Fr h₀ L s.heap m) (N : News h₀ L s.heap news) (ha : h'.get? s.heap.objs.size = some (baObj b')) (hs : Heap.SameBut s.heap.objs.size (s.heap.push (baObj b)) h') :
    Fr h₀ L h' m ∧ News h₀ L h' ((s.heap.objs.size, baObj b') :: news) ∧ ∀ p ∈ news, p.1 < s.heap.objs.size := by
  have lt : ∀ p ∈ news, p.1 < s.heap.objs.size := fun p hp => Heap.lt_size (N p hp).1
  have k : ∀ b o, s.heap.get? b = some o → h'.get? b = some o := fun b o e => hs.extBut b o (Nat.ne_of_lt (Heap.lt_size e)) (Heap.get?_push_of_some _ e)
  have N' := News.push F N (baObj b)
  refine ⟨F.keeps k, fun p hp => ?_, lt⟩
  rcases List.mem_cons.mp hp with rfl | hp
  · exact ⟨ha, (N' _ (.head _)).2⟩
  · exact ⟨k _ _ (N p hp).1, (N p hp).2⟩
theorem call_ba_int {k : Int} {t : Tok} {Q : Value → Shared → Prop} (hg : A.guards = some []) (F : Fr h₀ L s.heap m) (N : News h₀ L s.heap news) (h0 : 0 ≤ k) (h1 : k ≤ 65536)
    (hQ : ∀ a h', Fr h₀ L h' m → News h₀ L h' ((a, baObj (Array.replicate k.toNat 0)) :: news) → (∀ p ∈ news, p.1 < a) → Q (.ref a) { s with heap := h' }) :
    wpC (model prog w) A (call (.type "bytearray") [.int k t]) Q E s := by
  refine callType_codesC (Q₁ := fun obj s₁ => obj = .ref s.heap.objs.size ∧ s₁ = { s with heap := s.heap.push (baObj #[]) }) ba_called (ba_typeCall _) ba_entry_init (by show (!Builtin.Bytes.decodersThatHold.contains "bytearray.__init__") = true; decide +kernel) (ba_new _ ⟨rfl, rfl⟩) ?_
  rintro obj s₁ ⟨rfl, rfl⟩
  have hS : (s.heap.push (baObj #[])).get? s.heap.objs.size = some (baObj #[]) := Heap.get?_push_size _ rfl
  refine ⟨ba_typeIs hS, ba_args_init _ _, ba_init_int hg hS h0 h1 fun h' ha hs => ?_⟩
  obtain ⟨F', N', lt⟩ := ba_made F N ha hs
  exact ⟨rfl, hQ _ h' F' N' lt⟩
theorem call_ba_bytes {b : Array UInt8} {t : Tok} {Q : Value → Shared → Prop} (hg : A.guards = some []) (F : Fr h₀ L s.heap m) (N : News h₀ L s.heap news) (h1 : b.size ≤ sizeLine)
    (hQ : ∀ a h', Fr h₀ L h' m → News h₀ L h' ((a, baObj b) :: news) → (∀ p ∈ news, p.1 < a) → Q (.ref a) { s with heap := h' }) :
    wpC (model prog w) A (call (.type "bytearray") [.bytes b t]) Q E s := by
  refine callType_codesC (Q₁ := fun obj s₁ => obj = .ref s.heap.objs.size ∧ s₁ = { s with heap := s.heap.push (baObj #[]) }) ba_called (ba_typeCall _) ba_entry_init (by show (!Builtin.Bytes.decodersThatHold.contains "bytearray.__init__") = true; decide +kernel) (ba_new _ ⟨rfl, rfl⟩) ?_
  rintro obj s₁ ⟨rfl, rfl⟩
  have hS : (s.heap.push (baObj #[])).get? s.heap.objs.size = some (baObj #[]) := Heap.get?_push_size _ rfl
  refine ⟨ba_typeIs hS, ba_args_init _ _, ba_init_bytes hg hS h1 fun h' ha hs => ?_⟩
  obtain ⟨F', N', lt⟩ := ba_made F N ha hs
  exact ⟨rfl, hQ _ h' F' N' lt⟩
end
end Mine
end

section
open PySem PySem.W PyProof.Rows PySem.Calls
set_option Elab.async false
set_option maxRecDepth 100000
namespace Mine
theorem ba_slot_getitem : Slot "bytearray" "__getitem__" "bytearray.__getitem__" :=
  .of (owner := "bytearray") (n := "__getitem__") (by rw [typeLookup_type, builtinLookup_eq_fast]; kernel_rfl) (by decide +kernel) (by decide +kernel) (by decide +kernel)
    (by first | exact .inl (by decide +kernel) | exact .inr (by decide +kernel)) (by rw [isSubtype_type]; kernel_rfl)
theorem ba_slot_setitem : Slot "bytearray" "__setitem__" "bytearray.__setitem__" :=
  .of (owner := "bytearray") (n := "__setitem__") (by rw [typeLookup_type, builtinLookup_eq_fast]; kernel_rfl) (by decide +kernel) (by decide +kernel) (by decide +kernel)
    (by first | exact .inl (by decide +kernel) | exact .inr (by decide +kernel)) (by rw [isSubtype_type]; kernel_rfl)
theorem ba_slot_ne : Slot "bytearray" "__ne__" "bytearray.__ne__" :=
  .of (owner := "bytearray") (n := "__ne__") (by rw [typeLookup_type, builtinLookup_eq_fast]; kernel_rfl) (by decide +kernel) (by decide +kernel) (by decide +kernel)
    (by first | exact .inl (by decide +kernel) | exact .inr (by decide +kernel)) (by rw [isSubtype_type]; kernel_rfl)
theorem ba_entry_getitem : entryFor table "bytearray.__getitem__" = some Builtin.«bytearray.__getitem__» := by first | exact entryFor_of_fast (by kernel_rfl) | exact entryFor_of_tree (by kernel_rfl)
theorem ba_entry_setitem : entryFor table "bytearray.__setitem__" = some Builtin.«bytearray.__setitem__» := by first | exact entryFor_of_fast (by kernel_rfl) | exact entryFor_of_tree (by kernel_rfl)
theorem ba_entry_len : entryFor table "bytearray.__len__" = some Builtin.«bytearray.__len__» := by first | exact entryFor_of_fast (by kernel_rfl) | exact entryFor_of_tree (by kernel_rfl)
theorem ba_entry_ne : entryFor table "bytearray.__ne__" = some Builtin.«bytearray.__ne__» := by first | exact entryFor_of_fast (by kernel_rfl) | exact entryFor_of_tree (by kernel_rfl)
theorem ba_args_getitem (a b : Value) : argsOk "bytearray.__getitem__" ⟨[a, b], []⟩ := by first | exact rfl | decide +kernel | kernel_rfl
theorem ba_args_setitem (a b c : Value) : argsOk "bytearray.__setitem__" ⟨[a, b, c], []⟩ := by first | exact rfl | decide +kernel | kernel_rfl
theorem ba_args_len (a : Value) : argsOk "bytearray.__len__" ⟨[a], []⟩ := by first | exact rfl | decide +kernel | kernel_rfl
theorem ba_args_ne (a b : Value) : argsOk "bytearray.__ne__" ⟨[a, b], []⟩ := by first | exact rfl | decide +kernel | kernel_rfl
theorem ba_fits {k : Int} (h0 : 0 ≤ k) (h1 : k ≤ 131072) : Builtin.Bytes.fitsIndex k = true := by
  show (decide (-(2 ^ 63) ≤ k) && decide (k < 2 ^ 63)) = true
  rw [decide_eq_true (show -(2 ^ 63) ≤ k by omega), decide_eq_true (show k < 2 ^ 63 by omega)]; rfl
theorem seqIndex_in {k : Int} {n : Nat} (h0 : 0 ≤ k) (h1 : k < n) : seqIndex? k n = some k.toNat := by
  unfold seqIndex?
  rw [if_neg (Int.not_lt.mpr h0)]
  simp [h0, h1]
theorem seqIndex_out {k : Int} {n : Nat} (h0 : 0 ≤ k) (h1 : (n : Int) ≤ k) : seqIndex? k n = none := by
  unfold seqIndex?
  rw [if_neg (Int.not_lt.mpr h0)]
  simp only [ite_eq_right_iff]
  intro h
  simp only [Bool.and_eq_true, decide_eq_true_eq] at h
  omega
section
variable {prog : Program} {w : World} {A : Around} {E : Value → Shared → Prop} {s : Shared}
theorem ba_subscript {k : Int} {t : Tok} {Q : Option Int → Shared → Prop} (h0 : 0 ≤ k) (h1 : k ≤ 131072) (h : Q (some k) s) : wpAny (model prog w) A (Builtin.Bytes.subscript? (.int k t)) Q E s := by
  unfold Builtin.Bytes.subscript?
  refine wpAny_bind (wpAny_specialOf (T := "int") rfl ba_int_index ?_)
  refine bm_if_false rfl ?_
  refine wpAny_bind (wpAny_of_eq (rfl : asIndex (.int k t) = pure k) ?_)
  refine bm_if_false (by rw [ba_fits h0 h1]; rfl) ?_
  exact wpAny_pure h
theorem ba_getItem {a : Addr} {b : Array UInt8} {k : Int} {t : Tok} {Q : Value → Shared → Prop} (ha : s.heap.get? a = some (baObj b)) (h0 : 0 ≤ k) (h1 : k < b.size) (hb : b.size ≤ 65536)
    (h : Q (.int (b[k.toNat]'(by omega)).toNat s.toks) { s with toks := s.toks + 1 }) : wpAny (model prog w) A (getItem (.ref a) (.int k t)) Q E s := by
  have hT := ba_typeIs ha
  unfold getItem
  refine wpAny_holding ?_
  refine wpAny_bind (wpAny_sequenceKey hT (by decide) ?_)
  refine wpAny_bind (wpAny_callSpecial?_slot (name := Str.ofString "__getitem__") hT ba_slot_getitem (wpAny_call_entry ba_slot_getitem hT ba_entry_getitem ?_ (ba_args_getitem _ _)))
  show wpAny _ _ (Builtin.Bytes.subscript? (.int k t) >>= _) _ _ s
  refine wpAny_bind (ba_subscript h0 (by omega) ?_)
  refine wpAny_bind (ba_payload ha ?_)
  rw [seqIndex_in h0 h1]
  have e : (some k.toNat).bind (b[·]?) = some (b[k.toNat]'(by omega)) := by simp
  rw [e]
  refine wpAny_bind (wpAny_mkInt ?_)
  exact wpAny_pure ⟨_, rfl, wpAny_pure h⟩
theorem ba_setItem {a : Addr} {b : Array UInt8} {k v : Int} {t u : Tok} {Q : Unit → Shared → Prop} (ha : s.heap.get? a = some (baObj b)) (h0 : 0 ≤ k) (h1 : k < b.size) (hb : b.size ≤ 65536) (v0 : 0 ≤ v) (v1 : v < 256)
    (hQ : ∀ h', h'.get? a = some (baObj (b.setIfInBounds k.toNat v.toNat.toUInt8)) → Heap.SameBut a s.heap h' → Q () { s with heap := h' }) : wpAny (model prog w) A (setItem (.ref a) (.int k t) (.int v u)) Q E s := by
  have hT := ba_typeIs ha
  unfold setItem
  refine wpAny_holding ?_
  refine wpAny_bind (wpAny_sequenceKey hT (by decide) ?_)
  refine wpAny_bind (wpAny_callSpecial?_slot (name := Str.ofString "__setitem__") hT ba_slot_setitem (wpAny_call_entry ba_slot_setitem hT ba_entry_setitem ?_ (ba_args_setitem _ _ _)))
  unfold Builtin.«bytearray.__setitem__»
  refine bm_if_false rfl ?_
  refine wpAny_bind (ba_subscript h0 (by omega) ?_)
  refine wpAny_bind ?_
  show wpAny _ _ (asIndex (.int v u) >>= _) _ _ _
  refine wpAny_bind (wpAny_of_eq (rfl : asIndex (.int v u) = pure v) ?_)
  refine bm_if_false (by simp only [Bool.or_eq_false_iff, decide_eq_false_iff_not]; omega) ?_
  refine wpAny_pure (wpAny_bind (ba_payload ha ?_))
  rw [seqIndex_in h0 h1]
  refine wpAny_bind (ba_write ha (by rw [Array.size_setIfInBounds, sizeLine_eq]; omega) fun h' ha' hs' => ?_)
  exact wpAny_pure ⟨_, rfl, wpAny_pure (hQ h' ha' hs')⟩
theorem ba_setItem_out {a : Addr} {b : Array UInt8} {k v : Int} {t u : Tok} {Q : Unit → Shared → Prop} (hh : A.handled = none) (ha : s.heap.get? a = some (baObj b)) (h0 : 0 ≤ k) (h1 : (b.size : Int) ≤ k) (hb : k ≤ 131072) (v0 : 0 ≤ v) (v1 : v < 256)
    (hE : ∀ h' tk e, Heap.NewExc s.heap h' e "IndexError" → E (.ref e) { s with heap := h', toks := tk }) : wpAny (model prog w) A (setItem (.ref a) (.int k t) (.int v u)) Q E s := by
  have hT := ba_typeIs ha
  unfold setItem
  refine wpAny_holding ?_
  refine wpAny_bind (wpAny_sequenceKey hT (by decide) ?_)
  refine wpAny_bind (wpAny_callSpecial?_slot (name := Str.ofString "__setitem__") hT ba_slot_setitem (wpAny_call_entry ba_slot_setitem hT ba_entry_setitem ?_ (ba_args_setitem _ _ _)))
  unfold Builtin.«bytearray.__setitem__»
  refine bm_if_false rfl ?_
  refine wpAny_bind (ba_subscript h0 hb ?_)
  refine wpAny_bind ?_
  show wpAny _ _ (asIndex (.int v u) >>= _) _ _ _
  refine wpAny_bind (wpAny_of_eq (rfl : asIndex (.int v u) = pure v) ?_)
  refine bm_if_false (by simp only [Bool.or_eq_false_iff, decide_eq_false_iff_not]; omega) ?_
  refine wpAny_pure (wpAny_bind (ba_payload ha ?_))
  rw [seqIndex_out h0 h1]
  refine wpAny_bind ?_
  show wpAny _ _ (rule "bytearray.subscript.out-of-range" >>= fun _ => raiseErrorWords "IndexError" _) _ _ _
  refine wpAny_bind (wpAny_rule ?_)
  exact wpAny_raiseErrorWords plainExc_IndexError hh hE
theorem ba_no_bytes : typeLookup (.type "bytearray") "__bytes__" = pure none := by rw [typeLookup_type, builtinLookup_eq_fast]; kernel_rfl
theorem ba_no_index : typeLookup (.type "bytearray") "__index__" = pure none := by rw [typeLookup_type, builtinLookup_eq_fast]; kernel_rfl
theorem bytes_new_ba {a : Addr} {b : Array UInt8} {Q : Value → Shared → Prop} (ha : s.heap.get? a = some (baObj b)) (hb : b.size ≤ sizeLine)
    (hQ : Q (.bytes b s.toks) { s with toks := s.toks + 1 }) :
    codeAny (model prog w) A (.call (.builtin "bytes.__new__") ⟨[.type "bytes", .ref a], []⟩) (wants Q E) s := by
  refine codeAny_of_tree ?_
  show wpAny _ A.in1 (do checkBuiltinCall "bytes.__new__" ⟨[.type "bytes", .ref a], []⟩; again (.builtin "bytes.__new__" ⟨[.type "bytes", .ref a], []⟩)) _ _ s
  refine wpAny_bind (wpAny_of_eq (F.bm_newCall _) (wpAny_pure ⟨plainId_quiet F.bm_plain _, codeAny_builtin F.bm_entry ?_⟩))
  rw [Around.under_plainId F.bm_plain _]
  have hT := ba_typeIs ha
  unfold Builtin.«bytes.__new__»
  refine wpAny_bind (wpAny_of_eq (a := true) rfl ?_)
  refine bm_if_false rfl ?_
  refine wpAny_bind (wpAny_of_eq F.bm_sub ?_)
  refine bm_if_false rfl ?_
  refine wpAny_bind (wpAny_of_eq (F.bm_bind _) ?_)
  refine wpAny_bind (wpAny_of_eq (a := ()) rfl ?_)
  refine wpAny_bind (wpAny_of_eq (a := ()) rfl ?_)
  refine bm_if_false rfl ?_
  refine wpAny_bind (wpAny_specialOf hT ba_no_bytes ?_)
  refine wpAny_bind (wpAny_bind ?_)
  show wpAny _ _ (load a >>= _) _ _ _
  refine wpAny_bind (wpAny_load ha ?_)
  refine wpAny_pure (wpAny_pure ?_)
  refine bm_if_false rfl ?_
  refine wpAny_bind (wpAny_specialOf hT ba_no_index ?_)
  refine bm_if_true rfl ?_
  refine wpAny_bind (ba_buffer_get ha ?_)
  refine wpAny_bind (wpAny_rule ?_)
  refine wpAny_bind (wpAny_mkBytes ?_ hb)
  show wpAny _ _ (if (Value.type "bytes" == Value.type "bytes") = true then _ else _) _ _ _
  refine bm_if_true (by decide) ?_
  exact wpAny_pure hQ
theorem call_bytes_ba {a : Addr} {b : Array UInt8} {Q : Value → Shared → Prop} (ha : s.heap.get? a = some (baObj b)) (hb : b.size ≤ sizeLine)
    (hQ : Q (.bytes b s.toks) { s with toks := s.toks + 1 }) : wpAny (model prog w) A (call (.type "bytes") [.ref a]) Q E s := by
  refine callType_codes (Q₁ := fun obj s₁ => s₁.TypeIs obj "bytes" ∧ Q obj s₁) F.bm_called (F.bm_typeCall _) F.entry_object_init
    (bytes_new_ba ha hb ⟨PySem.W.typeIs_bytes _ _ _, hQ⟩) fun obj s₁ h₁ => ?_
  exact ⟨h₁.1, F.args_object_init_2 obj _, object_init_meets F.bm_called.init.lookup F.bm_called.made (by decide) prog w A.in1 _ s₁ ⟨h₁.1, rfl, h₁.2⟩⟩
end
section
variable {prog : Program} {w : World} {A : Around} {E : Value → Shared → Prop} {s : Shared}
theorem call_len_ba {a : Addr} {b : Array UInt8} {Q : Value → Shared → Prop} (ha : s.heap.get? a = some (baObj b)) (hb : b.size ≤ 65536)
    (h : Q (.int b.size (s.toks + 1)) { s with toks := s.toks + 1 + 1 }) : wpAny (model prog w) A (call (.builtin "len") [.ref a]) Q E s := by
  have hT := ba_typeIs ha
  refine Calls.call_function_entry kind_len plain_len entry_len (args_len1 _) ?_
  unfold Builtin.«len»
  refine wpAny_bind (m := oneArg "len" _) (wpAny_pure ?_)
  refine wpAny_bind (m := callSpecial? (.ref a) (Str.ofString "__len__")) (wpAny_callSpecial?_slot (name := Str.ofString "__len__") hT ba_slot_len
    (wpAny_call_entry ba_slot_len hT ba_entry_len ?_ (ba_args_len _)))
  show wpAny _ _ (do retInt ((← Builtin.Bytes.payload (.ref a)).size)) _ _ s
  refine wpAny_bind (ba_payload ha ?_)
  refine wpAny_bind (wpAny_mkInt (wpAny_pure ⟨_, rfl, ?_⟩))
  refine wpAny_bind (wpAny_holding (wpAny_pure ?_))
  refine wpAny_bind (wpAny_letGo ?_)
  show wpAny _ _ (if ((b.size : Nat) : Int) < 0 then _ else _) _ _ _
  rw [if_neg (by omega)]
  show wpAny _ _ (if ((b.size : Nat) : Int) ≥ 2 ^ 63 then _ else _) _ _ _
  rw [if_neg (by omega)]
  exact wpAny_bind (wpAny_mkInt (wpAny_pure ⟨_, rfl, h⟩))
theorem order_refl (l : List UInt8) : Builtin.Bytes.order l l = .eq := by
  induction l with
  | nil => rfl
  | cons x xs ih =>
    unfold Builtin.Bytes.order
    rw [if_neg (UInt8.lt_irrefl x), if_neg (UInt8.lt_irrefl x)]
    exact ih
theorem ba_ne_same {a c : Addr} {b : Array UInt8} {Q : Value → Shared → Prop} (hu : A.units < cLine) (ha : s.heap.get? a = some (baObj b)) (hc : s.heap.get? c = some (baObj b)) (h : Q (.bool false) s) :
    wpAny (model prog w) A (compareOp .NotEq (.ref a) (.ref c)) Q E s := by
  have hT := ba_typeIs ha
  have hT' := ba_typeIs hc
  show wpAny _ _ (richCompare .NotEq (.ref a) (.ref c)) _ _ _
  refine wpAny_richCompare_same_room (op := .NotEq) hT hT' ba_slot_ne ?_ hu
  refine wpAny_call_entry ba_slot_ne hT ba_entry_ne ?_ (ba_args_ne _ _)
  show wpAny _ _ (Builtin.Bytes.buffer? _ (.ref a) false >>= _) _ _ _
  refine wpAny_bind (ba_buffer_get ha ?_)
  show wpAny _ _ (Builtin.Bytes.bufferQuiet? _ (.ref c) >>= _) _ _ _
  unfold Builtin.Bytes.bufferQuiet?
  refine wpAny_bind (wpAny_bind (wpAny_attempt (ba_buffer_get hc ?_)))
  refine wpAny_pure (wpAny_pure ⟨_, rfl, ?_⟩)
  rw [order_refl]
  exact ⟨(fun e => by cases e), h⟩
end
end Mine
end

section
open PySem PySem.W PyProof.Rows PySem.Calls
set_option Elab.async false
set_option maxRecDepth 100000
namespace Mine
section
variable {prog : Program} {w : World} {A A₀ : Around} {E : Value → Shared → Prop} {s : Shared} {R : Result → Shared → Prop}
theorem codeC_func {body env}
    (h : wpC (model prog w) (A.deeper env) (execs body env) (fun f s' => R (.ok (.ret (match f with | .ret v => v | _ => .none))) s')
      (fun e s' => wpAny (model prog w) (A.deeper env) (leaving env e) (fun _ s'' => R (.error e) s'') (fun e' s'' => R (.error e') s'') s') s) :
    codeC (model prog w) A (.func body env) R s := by
  refine codeC_of_tree rfl ?_
  show wpC _ (A.deeper env) (do point; match ← (execs body env).onRaise (leaving env) with | .ret v => ret v | _ => ret .none) _ _ s
  refine wpC_step (wpAny_point (wpC_bind (wpC_onRaise (wpC_mono h (fun f s' h' => ?_) fun _ _ h' => wpC_of h'))))
  cases f <;> exact wpC_pure h'
theorem codeC_call_function {a : Addr} {args : Args} {o : Obj} {fd : FuncData} {body : List Stmt} (hroom : A.depth < recursionLimit)
    (ho : s.heap.get? a = some o)
    (hd' : o.data = .func fd) (hco : fd.scope.isCoroutine = false) (hgen : fd.scope.isGenerator = false) (hbody : fd.body = .stmts body) (hcd : s.heap.CodeRec fd.code fd.qualname)
    (h : wpAny (model prog w) A.in1 (bindArgs fd args) (fun binds s₁ =>
      wpAny (model prog w) A.in1 (newFunctionEnv fd.scope fd.globals fd.closure binds (fd.qualname ++ ".<locals>.") (some a) fd.code none fd.builtins)
        (fun env s₂ => s₂.heap.NoLimit ∧ codeC (model prog w) A (.func body env) R s₂) (fun e s' => R (.error e) s') s₁) (fun e s' => R (.error e) s') s) :
    codeC (model prog w) A (.call (.ref a) args) R s := by
  refine codeC_of_tree rfl ?_
  show wpC _ A.in1 (callAny (.ref a) args) _ _ s
  simp only [callAny]
  refine wpC_step (wpAny_load ho ?_)
  obtain ⟨c, oc, vs, tq, hc, hoc, hdc, hq⟩ := hcd
  simp only [hd', callFunction, hco, hgen, hbody, hc]
  rw [hc] at h
  refine wpC_step (m := field (.ref c) 1) (wpAny_field hoc hdc hq (wpC_eq rfl ?_))
  exact wpC_step (wpAny_mono h (fun binds s₁ h₁ => wpC_step (wpAny_mono h₁ (fun env s₂ h₂ => wpC_step (wpAny_enterFrame h₂.1 hroom
    (wpC_pure (And.intro rfl h₂.2)))) fun _ _ h' => h')) fun _ _ h' => h')
end
section
variable {prog : Program} {w : World} {A A₀ : Around} {s : Shared} {K : Frag} {L : Addr} {h₀ base : Heap} {m mg mb : Str → Option Value} {news : List (Addr × Obj)} {p : Program} {loose : List Str} {mean : ExcName → Option Value}
/-- a call of a def of the text, over a clean stack -/
theorem codeC_def {env : Env} {outer : List Env} {R : Result → Shared → Prop} {name qual : Str} {params : Arguments} {body : List Stmt} {scope : Scope} {dV kV doc pm cdv ct oc : Value} {an od : Option Addr} {osl : Array (Option Value)} {f : Addr} {args : Args} {binds : List (Str × Value)}
    (B : Below A₀ base outer h₀) (F : Fr h₀ L s.heap m) (X₀ : K.In h₀) (N : News h₀ L s.heap news) (T : Top p loose mean mg mb h₀) (hA : A.frames = some (env :: outer)) (hf : env.frame = some L) (hke : env.scope.kind = .function)
    (ho : K.lookup f = some ⟨oc, od, .func (fnOf name qual params body scope dV kV doc pm an cdv ct), osl⟩) (hcd : codeIn K cdv qual = true) (hroom : A.depth < recursionLimit)
    (hbind : BindsTo s (fnOf name qual params body scope dV kV doc pm an cdv ct) args binds) (hloc : ∀ y ∈ binds, scope.names.lookup y.1 = some .local)
    (h : ∀ g L' h₁, Fr h₀ L g m → Fr g L' h₁ (fun y => binds.reverse.lookup y) → News g L' h₁ news → Below A base (env :: outer) g → K.In g → Top p loose mean mg mb g → (∀ p ∈ news, p.1 < L') →
      wpC (model prog w) (A.deeper (envOf qual scope L' f cdv)) (execs body (envOf qual scope L' f cdv))
        (fun fl s' => LeaveK h₀ L m g R (match fl with | .ret v => v | _ => .none) s')
        (fun e s' => wpAny (model prog w) (A.deeper (envOf qual scope L' f cdv)) (leaving (envOf qual scope L' f cdv) e) (fun _ s'' => R (.error e) s'') (fun e' s'' => R (.error e') s'') s')
        { s with heap := h₁, toks := s.toks + binds.length })
    (hco : scope.isCoroutine = false) (hgen : scope.isGenerator = false) (hk : scope.kind = .function)
    (hcell : ∀ x ∈ scope.names, x.2 ≠ .cell) : codeC (model prog w) A (.call (.ref f) args) R s := by
  have X := X₀.keeps F.keep
  obtain ⟨FG, BG, st, lv⟩ := groundX (R := R) B F N hA hf hke
  refine codeC_call_function (fd := fnOf name qual params body scope dV kV doc pm an cdv ct) hroom (X _ _ ho) rfl hco hgen rfl (codeRec_of X hcd) (hbind _ _ _ _ ?_)
  refine wpAny_newFunctionEnv hcell hloc (fun h₁ hns₁ hsb₁ => ⟨(T.nolimit.keeps F.keep).fresh _ hsb₁, codeC_func ?_⟩) hk
  have hk₁ : ∀ b o, s.heap.get? b = some o → h₁.get? b = some o := fun b o e => hsb₁.extBut b o (Nat.ne_of_lt (Heap.lt_size e)) (Heap.get?_push_of_some _ e)
  exact wpC_mono (h _ s.heap.objs.size h₁ FG ⟨hns₁, fun b o e => hk₁ b o (of_hideAll _ e), Nat.le_of_eq (hideAll_size _ _)⟩
    (fun p hp => ⟨hk₁ _ _ (N p hp).1, Nat.ne_of_lt (Heap.lt_size (N p hp).1), hideAll_none _ (List.mem_map_of_mem hp)⟩) BG (X₀.keeps st) (T.keeps st) (fun p hp => Heap.lt_size (N p hp).1)) (fun fl s' hl => lv _ _ hl) fun _ _ y => y
end
section
variable {M : Model} {A : Around} {E : Value → Shared → Prop} {s : Shared} {env : Env}
theorem wpC_keep {α : Type} {vs : List Value} {m : Sem α} {Q : α → Shared → Prop} (h : wpC M A m Q E s) : wpC M A (m.keep vs) Q E s := fun Γ p hΓ hc => by
  rw [Sem.wp_keep]; exact h Γ p hΓ hc
theorem execsC_cons {st rest} {Q : Flow → Shared → Prop}
    (h : wpC M A (exec st env) (fun f s' => match f with | .next => wpC M A (execs rest env) Q E s' | f => Q f s') E s) :
    wpC M A (execs (st :: rest) env) Q E s := fun Γ p hΓ hcl => by
  rw [execs_cons, Sem.wp_bind']
  refine Sem.wp_mono M Γ _ (fun f p' s' h' => ?_) (fun _ _ _ h' => h') _ _ (h Γ p hΓ hcl)
  cases f <;> first | exact h' Γ p' hΓ hcl | exact h'
theorem AssignC {x pos' value pos} {Q : Flow → Shared → Prop}
    (h : wpC M A (eval value env) (fun v s₁ => wpAny M A (storeName env x v) (fun _ => Q .next) E s₁) E s)
    (hs : swapsWith value (some (.Name x pos')) pos.line env = pure false := by rfl) :
    wpC M A (exec (.Assign [.Name x pos'] value pos) env) Q E s := fun Γ p hΓ hcl => by
  simp only [exec_Assign_Name env x pos' value pos hs, Sem.wp_bind', Sem.wp_cmd_standAt, Sem.wp_bindName, Sem.wp_pure']
  exact Sem.wp_mono M Γ _ (fun v _ s₁ h₁ => h₁ Γ _ hΓ) (fun _ _ _ h' => h') _ _ (h Γ _ hΓ hcl)
theorem IfC {test body orelse pos} {Q : Flow → Shared → Prop}
    (h : wpC M A (isTrue test env (eval test env))
      (fun b s₂ => if b then wpC M A (execs body env) Q E s₂ else wpC M A (execs orelse env) Q E s₂) E s) :
    wpC M A (exec (.If test body orelse pos) env) Q E s := fun Γ p hΓ hcl => by
  simp only [exec_If, Sem.wp_bind', Sem.wp_cmd_standAt]
  refine Sem.wp_mono M Γ _ (fun b p₂ s₂ h₂ => ?_) (fun _ _ _ h' => h') _ _ (h Γ _ hΓ hcl)
  cases b <;> exact h₂ Γ p₂ hΓ hcl
theorem runOwnC {c : Code} {h : Option Value} {Q : Flow → Shared → Prop}
    (hc : codeC M (A.mark h) c (fun r s' => match r with | .ok f => Q f s' | .error e => cameBackBy M A env E e s') s) (hnb : h ≠ some byPass := by intro x; cases x) :
    wpC M A (runOwn c env h) Q E s := by
  unfold runOwn
  exact wpC_onRaise (wpC_mono (wpC_run hc hnb) (fun _ _ x => x) fun _ _ x => wpC_of x)
theorem CallC {func : Expr} {args : List Expr} {pos : Pos} {Q : Value → Shared → Prop}
    (h : wpAny M A (eval func env) (fun f s₁ => wpC M A (callWith pos f [] (backTo pos (starEach args env)) []) Q E s₁) E s)
    (he : eval (.Call func args [] pos) env = (do callWith pos (← eval func env) [] (backTo pos (starEach args env)) (backToKw pos (keywordEach [] env))) := by rfl) :
    wpC M A (eval (.Call func args [] pos) env) Q E s := by
  rw [he]; exact wpC_step h
theorem callWithC_of {P : Heap → Prop} {f : Value} {first : List Value} {pos : Pos} {Q : Value → Shared → Prop} {args : List (Bool × Sem Value)} {keywords : List (Option Str × Sem Value)} (hplain : (args.any (·.1) || keywords.any (·.1.isNone)) = false)
    (hk : ∀ h, P h → ∃ k, (k = Keeper.frame ∨ k = Keeper.machine ∨ k = Keeper.boundFrame) ∧ Looks M h (keeperOf f) k)
    (h : wpAny M A (evalArgs f true args keywords) (fun a s₁ => P s₁.heap ∧ wpC M A (call f (first ++ a.pos) a.kw) Q E s₁) E s) : wpC M A (callWith pos f first args keywords) Q E s := by
  unfold callWith
  refine wpC_bind (wpC_holding (wpC_mono (wpC_of h) (fun a s₁ h₁ => wpC_standAt ?_) fun _ _ x => x))
  obtain ⟨k, hk', L⟩ := hk _ h₁.1
  simp only [hplain]
  refine wpC_step (L.here ?_)
  have tail : ∀ {t : Sem Value}, wpC M A t Q E s₁ → wpC M A (t >>= fun r => holding [r] point >>= fun _ => pure r) Q E s₁ :=
    fun ht => wpC_bind (wpC_mono ht (fun r s₂ hr => wpC_bind (wpC_holding (wpC_of (wpAny_point (wpC_pure hr))))) fun _ _ x => x)
  have marked (mk : Value) : wpC M A (callMarked mk f (first ++ a.pos) a.kw) Q E s₁ := by unfold callMarked; exact wpC_keep h₁.2
  rcases hk' with rfl | rfl | rfl <;> dsimp only <;> first | exact tail h₁.2 | (split <;> first | exact tail h₁.2 | exact tail (marked _))
theorem callWithC_type {pos : Pos} {T : String} {first : List Value} {args : List (Bool × Sem Value)} {Q : Value → Shared → Prop}
    (hplain : args.any (·.1) = false)
    (h : wpAny M A (evalArgs (.type T) true args []) (fun a s₁ => wpC M A (call (.type T) (first ++ a.pos) a.kw) Q E s₁) E s) :
    wpC M A (callWith pos (.type T) first args []) Q E s := by
  unfold callWith
  refine wpC_bind (wpC_holding (wpC_mono (wpC_of h) (fun a s₁ h₁ => wpC_standAt ?_) fun _ _ x => x))
  simp only [hplain, List.any_nil, Bool.or_false]
  refine wpC_eq (a := Keeper.machine) rfl ?_
  exact wpC_bind (wpC_mono h₁ (fun r s₂ hr => wpC_bind (wpC_holding (wpC_of (wpAny_point (wpC_pure hr))))) fun _ _ x => x)
/-- a def of the text called with at least one argument -/
theorem callWithC_K {K : Frag} {f : Value} {pos : Pos} {Q : Value → Shared → Prop} {e : Expr} {rest : List Expr} (hk : keepIn K f = true) (h : wpAny M A (spliced (backTo pos (starEach (e :: rest) env))) (fun vs s₁ => K.In s₁.heap ∧ wpC M A (call f vs) Q E s₁) E s)
    (he : starEach (e :: rest) env = (false, eval e env) :: starEach rest env := by rfl) (hplain : (backTo pos (starEach rest env)).any (·.1) = false := by rfl) :
    wpC M A (callWith pos f [] (backTo pos (starEach (e :: rest) env)) []) Q E s := by
  rw [he] at h ⊢
  exact callWithC_of (by show ((false || (backTo pos (starEach rest env)).any (·.1)) || false) = false; rw [hplain]; rfl) (keeps_K hk) (evalArgs_plain h)
theorem callWithC_T {T : String} {pos : Pos} {Q : Value → Shared → Prop} {e : Expr} {rest : List Expr} (h : wpAny M A (spliced (backTo pos (starEach (e :: rest) env))) (fun vs s₁ => wpC M A (call (.type T) vs) Q E s₁) E s)
    (he : starEach (e :: rest) env = (false, eval e env) :: starEach rest env := by rfl) (hplain : (backTo pos (starEach rest env)).any (·.1) = false := by rfl) :
    wpC M A (callWith pos (.type T) [] (backTo pos (starEach (e :: rest) env)) []) Q E s := by
  rw [he] at h ⊢
  exact callWithC_type (by show (false || (backTo pos (starEach rest env)).any (·.1)) = false; rw [hplain]; rfl) (evalArgs_plain h)
end
end Mine
end

section
open PySem PySem.W PyProof.Rows PySem.Calls
set_option Elab.async false
set_option maxRecDepth 100000
namespace Mine
/-- where the walk is to wait for a word of mine -/
def Stop (p : Prop) : Prop := p
theorem Stop.go {p : Prop} (h : p) : Stop p := h
theorem Stop.out {p : Prop} (h : Stop p) : p := h
section
variable {prog : Program} {w : World} {A : Around} {E : Value → Shared → Prop} {s : Shared} {env : Env} {h₀ : Heap} {x : Str} {body : List Stmt} {Q : Flow → Shared → Prop}
theorem ForStop {m : Str → Option Value} {px pos : Pos} {iter : Expr} (F : Fr h₀ env.locals s.heap m) (hx : env.kindOf x = some .local)
    (hp : (env.scope.kind == .class || (env.scope.kind == .module && env.locals != env.globals)) = false)
    (h : wpAny (model prog w) A (eval iter env) (fun xv s₁ => Stop (wpAny (model prog w) A (pyIter xv) (fun it s₂ => LoopAtV prog w A h₀ env x body Q E it s₂) E s₁)) E s)
    (hs : ∀ x, foldedSetIterable iter env x = pure x := by intro _; rfl)
    (hE : PassesOwn (model prog w) A env E := by passes_own) :
    wpAny (model prog w) A (exec (.For (.Name x px) iter body [] pos) env) Q E s := For_invVF F hx hp h hs hE
theorem unr_mono {L : Addr} {s₁ s₂ : Shared} {I : Addr} {it : Obj} {r r' : (Str → Option Value) → List (Addr × Obj) → Prop} {f : Flow} (hr : ∀ m n, r m n → r' m n) (h : UnrPost h₀ L s₁ I it r Q f s₂) : UnrPost h₀ L s₁ I it r' Q f s₂ := by
  cases f with
  | ret v => exact h
  | brk => exact h
  | next => obtain ⟨h', tk, m', n', e, F, N, o, q⟩ := h; exact ⟨h', tk, m', n', e, F, N, o, hr _ _ q⟩
  | cont => obtain ⟨h', tk, m', n', e, F, N, o, q⟩ := h; exact ⟨h', tk, m', n', e, F, N, o, hr _ _ q⟩
/-- a range's loop by what holds ahead of each turn -/
theorem krs_all {I : Addr} {a c : Int} {n : Nat} {m₀ : Str → Option Value} {news₀ : List (Addr × Obj)} (J : Nat → (Str → Option Value) → List (Addr × Obj) → Prop) (h0 : J 0 m₀ news₀)
    (turn : ∀ i m news, i < n → J i m news → ∀ t h tk, Fr h₀ env.locals h (fun y => if y = x then some (.int (a + (i : Int) * c) t) else m y) →
      News h₀ env.locals h ((I, krsIt (a + ((i + 1 : Nat) : Int) * c) ((n : Int) - ((i + 1 : Nat) : Int)) c) :: news) →
      wpAny (model prog w) A (execs body env) (UnrPost h₀ env.locals { s with heap := h, toks := tk } I (krsIt (a + ((i + 1 : Nat) : Int) * c) ((n : Int) - ((i + 1 : Nat) : Int)) c) (J (i + 1)) Q) E { s with heap := h, toks := tk })
    (done : ∀ m news h tk, J n m news → Fr h₀ env.locals h m → News h₀ env.locals h news → Q .next { s with heap := h, toks := tk }) :
    KrsRest prog w A E h₀ env x body Q s I a c n n 0 m₀ news₀ := by
  have key : ∀ (k i : Nat) (m : Str → Option Value) (news : List (Addr × Obj)), i + k = n → J i m news → KrsRest prog w A E h₀ env x body Q s I a c n k i m news := by
    intro k
    induction k with
    | zero =>
      intro i m news hi hj
      have e : i = n := by omega
      subst e
      exact KrsRest.zero fun h tk F N => done m news h tk hj F N
    | succ k ih =>
      intro i m news hi hj
      refine KrsRest.succ rfl fun t h tk F N => ?_
      exact wpAny_mono (turn i m news (by omega) hj t h tk F N) (fun f s₂ q => unr_mono (fun m' n' hj' => ih (i + 1) m' n' (by omega) hj') q) fun _ _ e => e
  exact key n 0 m₀ news₀ (by omega) h0
end
end Mine
end

section
open PySem PySem.W PyProof.Rows
set_option Elab.async false
set_option maxRecDepth 100000
namespace Mine
/-- the place that a swap by blocks of wd takes a byte from -/
def srcI (wd p : Nat) : Nat := p / wd * wd + (wd - 1 - p % wd)
def swapA (b : Array UInt8) (wd : Nat) : Array UInt8 := Array.ofFn (n := b.size) fun p => b.getD (srcI wd p) 0
theorem swapA_size (b : Array UInt8) (wd : Nat) : (swapA b wd).size = b.size := by simp [swapA]
theorem swapA_get {b : Array UInt8} {wd p : Nat} (h : p < b.size) : (swapA b wd).getD p 0 = b.getD (srcI wd p) 0 := by
  unfold swapA
  rw [Array.getD_eq_getD_getElem?, Array.getElem?_ofFn]
  simp [h]
/-- what the two loops have done ahead of turn j of block i -/
def SwInv (b : Array UInt8) (wd i j : Nat) (X : Array UInt8) : Prop :=
  X.size = b.size ∧ ∀ p, p < b.size → (p / wd < i ∨ (p / wd = i ∧ wd - j ≤ p % wd)) → X.getD p 0 = b.getD (srcI wd p) 0
theorem SwInv.start (b : Array UInt8) (wd : Nat) (h : 1 ≤ wd) : SwInv b wd 0 0 (Array.replicate ((b.size : Int)).toNat 0) := by
  refine ⟨by simp, fun p _ h' => ?_⟩
  have := Nat.mod_lt p (show wd > 0 by omega)
  rcases h' with h' | ⟨_, h'⟩
  · exact absurd h' (Nat.not_lt_zero _)
  · omega
theorem SwInv.block {b X : Array UInt8} {wd i : Nat} (h : 1 ≤ wd) (x : SwInv b wd i wd X) : SwInv b wd (i + 1) 0 X := by
  refine ⟨x.1, fun p hp h' => x.2 p hp ?_⟩
  have := Nat.mod_lt p (show wd > 0 by omega)
  omega
theorem SwInv.step {b X : Array UInt8} {wd i j : Nat} {v : UInt8} (hj : j < wd) (hi : (i + 1) * wd ≤ b.size) (x : SwInv b wd i j X) (hv : v = b.getD (i * wd + j) 0) :
    SwInv b wd i (j + 1) (X.setIfInBounds (i * wd + (wd - 1 - j)) v) := by
  have hb : i * wd + wd ≤ b.size := by rw [Nat.add_mul, Nat.one_mul] at hi; exact hi
  refine ⟨by rw [Array.size_setIfInBounds]; exact x.1, fun p hp h' => ?_⟩
  have hm := Nat.mod_lt p (show wd > 0 by omega)
  have hd := Nat.div_add_mod p wd
  by_cases e : p = i * wd + (wd - 1 - j)
  · have hq : p / wd = i := by
      rw [e, Nat.mul_comm, Nat.mul_add_div (by omega), Nat.div_eq_of_lt (by omega)]; rfl
    have hr : p % wd = wd - 1 - j := by
      rw [e, Nat.mul_comm, Nat.mul_add_mod, Nat.mod_eq_of_lt (by omega)]
    have hs : srcI wd p = i * wd + j := by unfold srcI; rw [hq, hr]; omega
    rw [hs, ← hv, Array.getD_eq_getD_getElem?, ← e, Array.getElem?_setIfInBounds_self_of_lt (by rw [x.1]; exact hp)]
    rfl
  · rw [Array.getD_eq_getD_getElem?, Array.getElem?_setIfInBounds_ne (fun q => e q.symm), ← Array.getD_eq_getD_getElem?]
    refine x.2 p hp ?_
    rcases h' with h' | ⟨h1, h2⟩
    · exact .inl h'
    · refine .inr ⟨h1, ?_⟩
      have : p % wd ≠ wd - (j + 1) := fun q => e (by rw [← hd, h1, q, Nat.mul_comm]; omega)
      omega
theorem SwInv.done {b X : Array UInt8} {wd : Nat} (hw : b.size % wd = 0) (x : SwInv b wd (b.size / wd) 0 X) : X = swapA b wd := by
  refine Array.ext (by rw [x.1, swapA_size]) fun p h1 h2 => ?_
  have hp : p < b.size := by rw [← x.1]; exact h1
  have hlt : p / wd < b.size / wd := Nat.div_lt_of_lt_mul (by rw [Nat.mul_comm, Nat.div_mul_cancel (Nat.dvd_of_mod_eq_zero hw)]; exact hp)
  have e := x.2 p hp (.inl hlt)
  rw [← swapA_get hp, Array.getD_eq_getD_getElem?, Array.getD_eq_getD_getElem?, Array.getElem?_eq_getElem h1, Array.getElem?_eq_getElem h2] at e
  exact e
theorem small_step {n k : Nat} (hn : n ≤ 65536) (h1 : 1 ≤ k) (hk : k ≤ 65536) : Builtin.Range.small 0 (n : Int) (k : Int) = true := by
  unfold Builtin.Range.small
  rw [rangeSize_pos (by omega) (by omega)]
  have h2 : ((n : Int) + k - 1) / k ≤ n + k - 1 := Int.ediv_le_self _ (by omega)
  have h3 : 0 ≤ ((n : Int) + k - 1) / k := Int.ediv_nonneg (by omega) (by omega)
  simp only [Builtin.Range.rangeFitsLong, Bool.and_eq_true, Bool.or_eq_true, decide_eq_true_eq, beq_iff_eq]
  rw [if_pos (show (k : Int) > 0 by omega)]
  generalize ((n : Int) + k - 1) / k = q at h2 h3
  simp only [Bool.and_eq_true, decide_eq_true_eq]
  omega
theorem blocks {n k : Nat} (h1 : 1 ≤ k) (hd : n % k = 0) : Builtin.Range.rangeSize 0 (n : Int) (k : Int) = ((n / k : Nat) : Int) := by
  rw [rangeSize_pos (by omega) (by omega)]
  obtain ⟨q, rfl⟩ := Nat.dvd_of_mod_eq_zero hd
  rw [Nat.mul_div_cancel_left _ (by omega)]
  have e : ((k * q : Nat) : Int) + k - 1 = (k - 1 : Int) + (k : Int) * q := by push_cast; omega
  rw [e, Int.add_mul_ediv_left _ _ (by omega), Int.ediv_eq_zero_of_lt (by omega) (by omega)]
  omega
theorem blocks_up {n k : Nat} (h1 : 1 ≤ k) (hd : n % k ≠ 0) : Builtin.Range.rangeSize 0 (n : Int) (k : Int) = ((n / k + 1 : Nat) : Int) := by
  rw [rangeSize_pos (by omega) (by omega)]
  have hm := Nat.mod_lt n (show k > 0 by omega)
  have hq := Nat.div_add_mod n k
  have e : (n : Int) + k - 1 = ((n % k + k - 1 : Nat) : Int) + (k : Int) * (n / k : Nat) := by
    have : (n : Int) = (k : Int) * (n / k : Nat) + (n % k : Nat) := by exact_mod_cast hq.symm
    omega
  rw [e, Int.add_mul_ediv_left _ _ (by omega)]
  have : ((n % k + k - 1 : Nat) : Int) / k = 1 := by
    have e2 : ((n % k + k - 1 : Nat) : Int) = ((n % k - 1 : Nat) : Int) + (k : Int) * 1 := by omega
    rw [e2, Int.add_mul_ediv_left _ _ (by omega), Int.ediv_eq_zero_of_lt (by omega) (by omega)]; rfl
  rw [this]
  omega
theorem foldSwap_size (ws : List Nat) : ∀ b : Array UInt8, (ws.foldl swapA b).size = b.size := by
  induction ws with
  | nil => intro b; rfl
  | cons k ws ih => intro b; rw [List.foldl_cons, ih, swapA_size]
/-- the value that a fold holds ahead of width i -/
def CurV (v0 : Value) (b : Array UInt8) (ws : List Nat) (i : Nat) (v : Value) : Prop := (i = 0 ∧ v = v0) ∨ (0 < i ∧ ∃ t, v = .bytes ((ws.take i).foldl swapA b) t)
theorem CurV.step {v0 : Value} {b : Array UInt8} {ws : List Nat} {i k : Nat} {t : Tok} (hk : ws[i]? = some k) : CurV v0 b ws (i + 1) (.bytes (swapA ((ws.take i).foldl swapA b) k) t) := by
  refine .inr ⟨by omega, t, ?_⟩
  rw [List.take_add_one, hk]
  simp
end Mine
end

section
open PySem PySem.W PyProof.Rows PySem.Calls
set_option Elab.async false
set_option maxRecDepth 100000
namespace Mine
section
variable {prog : Program} {w : World} {A : Around} {E : Value → Shared → Prop} {s : Shared}
theorem item_bytes {value slice : Expr} {b : Array UInt8} {k : Int} {t u : Tok} {Q : Value → Shared → Prop} (hb : b.size ≤ 65536) (h0 : 0 ≤ k) (h1 : k < b.size)
    (h : Q (.int (b.getD k.toNat 0).toNat s.toks) { s with toks := s.toks + 1 })
    (hs : subscripted slice false (.bytes b u) (.int k t) = operate [.bytes b u, .int k t] (getItem (.bytes b u) (.int k t)) := by with_unfolding_all rfl) :
    wpAny (model prog w) A (subscriptTail value slice (.bytes b u) (.int k t)) Q E s := by
  refine tail_any (typeIs_bytes s b u) FB.slot_bytes_getitem.lookup ?_ hs
  have e : b.toList.toArray = b := by simp
  have hi : wpAny (model prog w) A (getItem (.bytes b.toList.toArray u) (.int k t)) Q E s := by
    refine getItem_bytes (by simp; omega) h0 (by simpa using h1) ?_
    have e2 : b.toList.getD k.toNat 0 = b.getD k.toNat 0 := by
      rw [List.getD_eq_getElem?_getD, Array.getD_eq_getD_getElem?, Array.getElem?_toList]
    rw [e2]; exact h
  rw [e] at hi
  exact hi
theorem item_ba {value slice : Expr} {a : Addr} {b : Array UInt8} {k : Int} {t : Tok} {Q : Value → Shared → Prop} (ha : s.heap.get? a = some (baObj b)) (hb : b.size ≤ 65536) (h0 : 0 ≤ k) (h1 : k < b.size)
    (h : Q (.int (b.getD k.toNat 0).toNat s.toks) { s with toks := s.toks + 1 })
    (hs : subscripted slice false (.ref a) (.int k t) = operate [.ref a, .int k t] (getItem (.ref a) (.int k t)) := by with_unfolding_all rfl) :
    wpAny (model prog w) A (subscriptTail value slice (.ref a) (.int k t)) Q E s := by
  refine tail_any (ba_typeIs ha) ba_slot_getitem.lookup (ba_getItem ha h0 h1 hb ?_) hs
  have e2 : b.getD k.toNat 0 = b[k.toNat]'(by omega) := by
    rw [Array.getD_eq_getD_getElem?, Array.getElem?_eq_getElem (by omega)]; rfl
  rw [← e2]; exact h
theorem byte_back (x : UInt8) : ((x.toNat : Int)).toNat.toUInt8 = x := by simp
theorem byte_lt (x : UInt8) : (x.toNat : Int) < 256 := by have := x.toNat_lt; omega
/-- a byte stored into a bytearray of the ledger, at its head -/
theorem store_ba {h₀ : Heap} {L : Addr} {m : Str → Option Value} {pre post : List (Addr × Obj)} {d : Addr} {b : Array UInt8} {k v : Int} {t u : Tok} {Q : Unit → Shared → Prop} (F : Fr h₀ L s.heap m) (N : News h₀ L s.heap (pre ++ (d, baObj b) :: post))
    (h1 : ∀ p ∈ pre, p.1 ≠ d) (h2 : ∀ p ∈ post, p.1 ≠ d) (hb : b.size ≤ 65536) (k0 : 0 ≤ k) (k1 : k < b.size) (v0 : 0 ≤ v) (v1 : v < 256)
    (hQ : ∀ h', Fr h₀ L h' m → News h₀ L h' (pre ++ (d, baObj (b.setIfInBounds k.toNat v.toNat.toUInt8)) :: post) → Q () { s with heap := h' }) :
    wpAny (model prog w) A (setItem (.ref d) (.int k t) (.int v u)) Q E s := by
  have D := N (d, baObj b) (by simp)
  refine ba_setItem D.1 k0 k1 hb v0 v1 fun h' ha hs => ?_
  refine hQ h' (F.change hs D.2.1 D.2.2) fun p hp => ?_
  rcases List.mem_append.mp hp with q | q
  · have P := N p (List.mem_append_left _ q); exact ⟨(hs.2 p.1 (h1 p q)).trans P.1, P.2⟩
  · rcases List.mem_cons.mp q with rfl | q
    · exact ⟨ha, D.2⟩
    · have P := N p (List.mem_append_right _ (.tail _ q)); exact ⟨(hs.2 p.1 (h2 p q)).trans P.1, P.2⟩
end
end Mine
end

section
open PySem PySem.W PyProof.Rows PySem.Calls
set_option Elab.async false
set_option maxRecDepth 100000
namespace Mine
/-- a list's iterator that stands ahead of item i -/
def IsLI (o : Obj) (l : Addr) (i : Nat) : Prop := o.cls = .type "list_iterator" ∧ o.data = .fields #[.ref l, .int i 0]
/-- a list of the call's own -/
def IsLst (o : Obj) (items : List Value) : Prop := o.cls = .type "list" ∧ ∃ n, o.data = .seq items.toArray n
theorem IsLI.at {o : Obj} {l I : Addr} {i : Nat} {h : Heap} (x : IsLI o l i) (e : h.get? I = some o) : h.IsListIter I l i := ⟨o, e, x⟩
theorem IsLst.at {o : Obj} {l : Addr} {items : List Value} {h : Heap} (x : IsLst o items) (e : h.get? l = some o) : h.IsList l items.toArray := ⟨o, e, x.1, x.2⟩
section
variable {prog : Program} {w : World} {A : Around} {E : Value → Shared → Prop} {s : Shared}
theorem li_entry_iter : entryFor table "iter" = some Builtin.«iter» := by first | exact entryFor_of_fast (by kernel_rfl) | exact entryFor_of_tree (by kernel_rfl)
theorem li_args_iter (a : Value) : checkBuiltinCall "iter" ⟨[a], []⟩ = pure () := by kernel_rfl
theorem call_iter_list {l : Addr} {items : Array Value} {Q : Value → Shared → Prop} (hl : s.heap.IsList l items)
    (hQ : Q (.ref s.heap.objs.size) { s with heap := s.heap.push { cls := .type "list_iterator", data := .fields #[.ref l, .int 0 0] } }) :
    wpAny (model prog w) A (call (.builtin "iter") [.ref l]) Q E s := by
  refine call_function_entry (by decide +kernel) (by decide +kernel) li_entry_iter (li_args_iter _) ?_
  unfold Builtin.«iter»
  refine wpAny_bind (m := someArgs "iter" 1 2 _) (wpAny_of_eq (a := [Value.ref l]) (by first | rfl | kernel_rfl!) ?_)
  exact wpAny_bind (wpAny_pyIter_list hl (wpAny_pure ⟨_, rfl, hQ⟩))
theorem call_iter_li {I l : Addr} {i : Nat} {Q : Value → Shared → Prop} (hl : s.heap.IsListIter I l i) (hQ : Q (.ref I) s) :
    wpAny (model prog w) A (call (.builtin "iter") [.ref I]) Q E s := by
  refine call_function_entry (by decide +kernel) (by decide +kernel) li_entry_iter (li_args_iter _) ?_
  unfold Builtin.«iter»
  refine wpAny_bind (m := someArgs "iter" 1 2 _) (wpAny_of_eq (a := [Value.ref I]) (by first | rfl | kernel_rfl!) ?_)
  exact wpAny_bind (wpAny_pyIter_listiter hl (wpAny_pure ⟨_, rfl, hQ⟩))
theorem call_next_li {it l : Addr} {i : Nat} {items} {x : Value} {Q : Value → Shared → Prop} (hit : s.heap.IsListIter it l i)
    (hl : s.heap.IsList l items) (hx : items[i]? = some x)
    (hQ : ∀ h', h'.IsListIter it l (i + 1) → Heap.SameBut it s.heap h' → Q x { s with heap := h' }) :
    wpAny (model prog w) A (call (.builtin "next") [.ref it]) Q E s := by
  obtain ⟨o, ho, hc, hd⟩ := id hit
  obtain ⟨ol, hol, _, nl, hdl⟩ := hl
  refine call_function_entry (by decide +kernel) (by decide +kernel) kdk_entry_next (kdk_args_next _) ?_
  unfold Builtin.«next»
  refine wpAny_bind (m := someArgs "next" 1 2 _) (wpAny_of_eq (a := [Value.ref it]) (by first | rfl | kernel_rfl!) ?_)
  dsimp only
  refine wpAny_bind (wpAny_specialOf (name := Str.ofString "__next__") hit.typeIs slot_listiter_next.lookup ?_)
  refine wpAny_ite_split (fun hab => absurd hab (by decide)) (fun _ => ?_)
  refine wpAny_bind (wpAny_callSpecial?_slot (name := Str.ofString "__next__") hit.typeIs slot_listiter_next
    (wpAny_call_entry slot_listiter_next hit.typeIs entry_listiter_next ?_ (args_listiter_next _)))
  show wpAny _ _ (field (.ref it) 0 >>= _) _ _ s
  refine wpAny_bind (wpAny_field ho hd (x := .ref l) rfl ?_)
  show wpAny _ _ (if (Value.ref l == Value.none) = true then _ else _) _ _ s
  rw [if_neg (show ¬ ((Value.ref l == Value.none) = true) from Bool.false_ne_true)]
  show wpAny _ _ (field (.ref it) 1 >>= _) _ _ s
  refine wpAny_bind (wpAny_field ho hd (x := .int i 0) rfl ?_)
  show wpAny _ _ (seqItems? (.ref l) >>= _) _ _ s
  refine wpAny_bind (wpAny_seqItems hol hdl ?_)
  simp only [Int.toNat_natCast, hx]
  refine wpAny_bind (wpAny_setField ho hd (by simp) (wpAny_pure ⟨x, rfl, wpAny_pure ⟨_, rfl, hQ _ ?_ (Heap.SameBut.update ..)⟩⟩))
  exact ⟨_, Heap.get?_update_self _ ho (Obj.isFreed_of_fields (Obj.data_mapFields hd _)), (Obj.cls_mapFields ..).trans hc, by
    rw [Obj.data_mapFields hd]; simp [rawInt]⟩
end
section
variable {prog : Program} {w : World} {A : Around} {E : Value → Shared → Prop} {s : Shared} {env : Env}
theorem wpC_noted {α : Type} {m : Sem α} {Q : α → Shared → Prop} {M : Model} (h : wpC M A m Q (notedBy M A env E) s) : wpC M A (m.onRaise fun x => do noteFrame x env; theTreesLotGoes x) Q E s :=
  wpC_onRaise (wpC_mono h (fun _ _ x => x) fun _ _ x => wpC_step (wpAny_mono x (fun _ _ y => wpC_of (wpAny_theTreesLotGoes y)) fun _ _ y => y))
theorem codeC_forLoop {R : Result → Shared → Prop} {x : Str} {px : Pos} {it : Value} {body : List Stmt} (I : Nat → Shared → Prop)
    (turn : ∀ n s, I n s → wpAny (model prog w) A (pyNext it) (fun r s₁ => match r with
      | none => R (.ok .next) s₁
      | some v => wpAny (model prog w) A (storeName env x v) (fun _ s₂ => wpC (model prog w) A (execs body env) (fun f s₃ => match f with
          | .next | .cont => ∃ m, m < n ∧ I m s₃
          | .brk => R (.ok .next) s₃
          | .ret v => R (.ok (.ret v)) s₃) (notedBy (model prog w) A env fun e s' => R (.error e) s') s₂) (notedBy (model prog w) A env fun e s' => R (.error e) s') s₁) (notedBy (model prog w) A env fun e s' => R (.error e) s') s)
    (n : Nat) (h : I n s) : codeC (model prog w) A (.forLoop (.Name x px) it body [] env) R s := by
  induction n using Nat.strongRecOn generalizing s with
  | ind n ih =>
    refine codeC_of_tree rfl ?_
    show wpC _ _ ((forTurn (.Name x px) it body [] env).onRaise (fun x => do noteFrame x env; theTreesLotGoes x)) _ _ s
    rw [Around.under_of_weight (c := .forLoop (.Name x px) it body [] env) rfl]
    refine wpC_noted ?_
    simp only [forTurn]
    refine wpC_standAt (wpC_bind (wpC_onRaise (wpC_mono (wpC_of (turn n s h)) (fun r s₁ h₁ => ?_) fun _ _ h' => wpC_of (wpAny_standAt h'))))
    cases r with
    | none => exact wpC_pure ⟨rfl, codeC_of (codeAny_block (wpAny_execs_nil h₁))⟩
    | some v =>
      refine wpC_eq (a := ()) rfl ?_
      refine wpC_step (wpAny_assign_Name (wpAny_mono h₁ (fun _ s₂ h₂ => wpC_bind (wpC_mono h₂ (fun f s₃ h₃ => ?_) fun _ _ h' => h')) fun _ _ h' => h'))
      cases f with
      | next => obtain ⟨m, hm, hI⟩ := h₃; exact wpC_pure ⟨rfl, ih m hm hI⟩
      | cont => obtain ⟨m, hm, hI⟩ := h₃; exact wpC_pure ⟨rfl, ih m hm hI⟩
      | brk => exact wpC_pure h₃
      | ret v => exact wpC_pure h₃
theorem ForC {x : Str} {px pos : Pos} {iter : Expr} {body : List Stmt} {Q : Flow → Shared → Prop} {M : Model}
    (h : wpAny M A (eval iter env) (fun x' s₁ => wpAny M A (pyIter x') (fun it s₂ =>
      codeC M A (.forLoop (.Name x px) it body [] env) (fun r s' => match r with | .ok f => Q f s' | .error e => cameBackBy M A env E e s') s₂) E s₁) E s)
    (hs : ∀ x, foldedSetIterable iter env x = pure x := by intro _; rfl) :
    wpC M A (exec (.For (.Name x px) iter body [] pos) env) Q E s := by
  rw [exec_For]
  exact wpC_standAt (wpC_step (wpAny_mono h (fun x s₁ h₁ => wpC_eq (hs x) (wpC_standAt (wpC_bind (wpC_holding
    (wpC_of (wpAny_mono h₁ (fun it s₂ h₂ => runOwnC h₂) fun _ _ h' => h')))))) fun _ _ h' => h'))
/-- a loop down a list's iterator that stands ready, its ledger else unchanged -/
theorem codeC_for_li {R : Result → Shared → Prop} {h₀ : Heap} {x : Str} {px : Pos} {body : List Stmt} {I l : Addr} {items : List Value} {oI oL : Obj} {rest : List (Addr × Obj)} {i0 : Nat} {m₀ : Str → Option Value} (J : Nat → (Str → Option Value) → Prop)
    (hh : A.handled = none) (hx : env.kindOf x = some .local) (hp : (env.scope.kind == .class || (env.scope.kind == .module && env.locals != env.globals)) = false)
    (F : Fr h₀ env.locals s.heap m₀) (N : News h₀ env.locals s.heap ((I, oI) :: rest)) (hI : IsLI oI l i0) (hl : (l, oL) ∈ rest) (hL : IsLst oL items) (hoff : ∀ p ∈ rest, p.1 ≠ I) (hi0 : i0 ≤ items.length) (h0 : J i0 m₀)
    (turn : ∀ i v m oI' h tk, items[i]? = some v → i0 ≤ i → J i m → IsLI oI' l (i + 1) → Fr h₀ env.locals h (fun y => if y = x then some v else m y) → News h₀ env.locals h ((I, oI') :: rest) →
      wpC (model prog w) A (execs body env) (fun f s₃ => f = .next ∧ ∃ h' tk' m', s₃ = { s with heap := h', toks := tk' } ∧ Fr h₀ env.locals h' m' ∧ News h₀ env.locals h' ((I, oI') :: rest) ∧ J (i + 1) m')
        (notedBy (model prog w) A env fun e s' => R (.error e) s') { s with heap := h, toks := tk })
    (done : ∀ m h tk, J items.length m → Fr h₀ env.locals h m → News h₀ env.locals h rest → R (.ok .next) { s with heap := h, toks := tk }) :
    codeC (model prog w) A (.forLoop (.Name x px) (.ref I) body [] env) R s := by
  refine codeC_forLoop (fun k s' => ∃ h tk m oI' i, s' = { s with heap := h, toks := tk } ∧ Fr h₀ env.locals h m ∧ News h₀ env.locals h ((I, oI') :: rest) ∧ IsLI oI' l i ∧ J i m ∧ i0 ≤ i ∧ i ≤ items.length ∧ k = items.length + 1 - i) ?_ (items.length + 1 - i0)
    ⟨s.heap, s.toks, m₀, oI, i0, rfl, F, N, hI, h0, Nat.le_refl _, hi0, rfl⟩
  rintro k s' ⟨h, tk, m, oI', i, rfl, F', N', hI', hJ, hge, hle, rfl⟩
  have DI := N' (I, oI') (.head _)
  have hit := hI'.at DI.1
  have hlst := hL.at (N' (l, oL) (.tail _ hl)).1
  by_cases hlt : i < items.length
  · have hv : items.toArray[i]? = some items[i] := by simp [hlt]
    refine wpAny_pyNext_list_item (s := { s with heap := h, toks := tk }) hit hlst hv fun h₁ hit₁ hs₁ => ?_
    obtain ⟨oN, eN, hN⟩ := hit₁
    have F₁ : Fr h₀ env.locals h₁ m := F'.change hs₁ DI.2.1 DI.2.2
    have N₁ : News h₀ env.locals h₁ ((I, oN) :: rest) := fun p hq => by
      rcases List.mem_cons.mp hq with rfl | hq
      · exact ⟨eN, DI.2⟩
      · exact ⟨(hs₁.2 p.1 (hoff p hq)).trans (N' p (.tail _ hq)).1, (N' p (.tail _ hq)).2⟩
    refine wpAny_storeName_local (s := { s with heap := h₁, toks := tk }) hx F₁.ns (fun h₂ hn₂ hs₂ => ?_) hp
    refine wpC_mono (turn i items[i] m oN h₂ _ (by simp [hlt]) hge hJ hN (F₁.set hn₂ hs₂) (N₁.set hs₂)) (fun f s₃ h₃ => ?_) fun _ _ e => e
    obtain ⟨rfl, h', tk', m', e, F₃, N₃, hJ₃⟩ := h₃
    exact ⟨items.length + 1 - (i + 1), by omega, h', tk', m', oN, i + 1, e, F₃, N₃, hN, hJ₃, by omega, hlt, rfl⟩
  · have hie : i = items.length := by omega
    subst hie
    refine wpAny_pyNext_list_end (s := { s with heap := h, toks := tk }) hh hit hlst (by simp) fun h₁ he₁ => ?_
    have k₁ : ∀ b o, b ≠ I → h.get? b = some o → h₁.get? b = some o := fun b o hb e => he₁ b o hb e
    refine done m h₁ tk hJ ⟨F'.ns.at' fun o e => k₁ _ o (Ne.symm DI.2.1) e, fun b o e => k₁ b o (fun q => by rw [q, DI.2.2] at e; cases e) (F'.keep b o e), F'.above⟩ fun p hq => ?_
    exact ⟨k₁ _ _ (hoff p hq) (N' p (.tail _ hq)).1, (N' p (.tail _ hq)).2⟩
end
end Mine
end

section
open PySem PySem.W PyProof.Rows PySem.Calls PySem.Spec
set_option Elab.async false
set_option maxRecDepth 100000
set_option linter.unusedVariables false
namespace Mine
/-- e is a record whose third field (an exception's context) is None -/
def NoCtx (e : Addr) (h : Heap) : Prop := ∃ o vs, h.get? e = some o ∧ o.data = .fields vs ∧ vs[2]? = some .none
/-- a tree keeps that, wherever it ends -/
def Pres {α : Type} (e : Addr) (t : Sem α) : Prop := ∀ (M : Model) (Γ : PySem.Ctx) (Q : α → Pos → Shared → Prop) (E : Value → Pos → Shared → Prop) (p : Pos) (s : Shared), NoCtx e s.heap → Sem.wp M Γ t Q E p s →
  Sem.wp M Γ t (fun a p' s' => Q a p' s' ∧ NoCtx e s'.heap) (fun x p' s' => E x p' s' ∧ NoCtx e s'.heap) p s
section
variable {α β : Type} {e : Addr}
theorem Pres.pure (a : α) : Pres e (Pure.pure a : Sem α) := fun M Γ Q E p s hn h => ⟨h, hn⟩
theorem Pres.unsup (w : String) : Pres e (unsupported w : Sem α) := fun M Γ Q E p s hn h => h.elim
theorem Pres.bind {m : Sem α} {f : α → Sem β} (hm : Pres e m) (hf : ∀ a, Pres e (f a)) : Pres e (m >>= f) := fun M Γ Q E p s hn h => by
  rw [Sem.wp_bind'] at h ⊢
  refine Sem.wp_mono M Γ m (fun a p' s' h' => ?_) (fun _ _ _ h' => h') p s (hm M Γ _ _ p s hn h)
  exact hf a M Γ Q E p' s' h'.2 h'.1
theorem Pres.load (a : Addr) : Pres e (PySem.load a) := fun M Γ Q E p s hn h => by
  obtain ⟨o, ho, h⟩ := h
  exact ⟨o, ho, h, hn⟩
theorem Pres.alloc (o : Obj) : Pres e (PySem.alloc o) := fun M Γ Q E p s hn h => by
  refine ⟨h, ?_⟩
  obtain ⟨o', vs, h1, h2, h3⟩ := hn
  exact ⟨o', vs, Heap.get?_push_of_some _ h1, h2, h3⟩
theorem Pres.stack : Pres e PySem.stack := fun M Γ Q E p s hn h => ⟨h, hn⟩
theorem Pres.update (a : Addr) (f : Obj → Obj) (hf : ∀ o vs, o.data = .fields vs → vs[2]? = some .none → ∃ vs', (f o).data = .fields vs' ∧ vs'[2]? = some .none) : Pres e (PySem.update a f) := fun M Γ Q E p s hn h => by
  refine ⟨h.1, h.2, ?_⟩
  obtain ⟨o', vs, h1, h2, h3⟩ := hn
  by_cases ha : a = e
  · subst ha
    obtain ⟨vs', g1, g2⟩ := hf o' vs h2 h3
    exact ⟨f o', vs', Heap.get?_update_self f h1 (Obj.isFreed_of_fields g1), g1, g2⟩
  · exact ⟨o', vs, (Heap.get?_update_other _ _ ha).trans h1, h2, h3⟩
theorem Pres.ite {c : Prop} [Decidable c] {a b : Sem α} (ha : Pres e a) (hb : Pres e b) : Pres e (if c then a else b) := by
  by_cases h : c
  · rw [if_pos h]; exact ha
  · rw [if_neg h]; exact hb
theorem pres_fieldsOf (v : Value) : Pres e (fieldsOf v) := by
  unfold fieldsOf
  split
  · refine Pres.bind (Pres.load _) fun o => ?_
    split
    · exact Pres.pure _
    · exact Pres.unsup _
  · exact Pres.unsup _
theorem pres_field (v : Value) (i : Nat) : Pres e (field v i) := by
  unfold field
  refine Pres.bind (pres_fieldsOf v) fun vs => ?_
  split
  · exact Pres.pure _
  · exact Pres.unsup _
theorem pres_updateField (a : Addr) (i : Nat) (x : Value) (hi : i ≠ 2) : Pres e (updateField a i x) := by
  unfold updateField
  refine Pres.bind (Pres.load _) fun o => ?_
  split
  · refine Pres.ite (Pres.update _ _ fun o vs h1 h2 => ⟨_, Obj.data_mapFields h1 _, ?_⟩) (Pres.unsup _)
    rw [Array.getElem?_setIfInBounds_ne hi]; exact h2
  · exact Pres.unsup _
theorem pres_setField (v : Value) (i : Nat) (x : Value) (hi : i ≠ 2) : Pres e (setField v i x) := by
  unfold setField
  split
  · exact pres_updateField _ _ _ hi
  · exact Pres.unsup _
theorem pres_setFlight (x : Value) (fr : Option Addr) : Pres e (setFlight x fr) := by
  unfold setFlight
  refine Pres.bind (pres_field _ _) fun tb => Pres.ite (pres_setField _ _ _ (by decide)) (Pres.pure _)
theorem pres_behind (env : Env) (outer : List Env) : Pres e (behindIsImport env outer) := by
  unfold behindIsImport
  refine Pres.ite (Pres.pure _) (Pres.ite (Pres.pure _) (Pres.bind (pres_field _ _) fun _ => Pres.pure _))
theorem pres_caller : Pres e underTheClaimsCaller := by
  unfold underTheClaimsCaller
  exact Pres.bind Pres.stack fun _ => Pres.pure _
theorem pres_kept (env : Env) (b : Bool) : ∀ outer : List Env, Pres e (keptBack env b outer)
  | [] => by
    unfold keptBack
    exact Pres.ite (Pres.pure _) (Pres.bind pres_caller fun _ => Pres.pure _)
  | _ :: _ => by
    unfold keptBack
    exact Pres.pure _
theorem pres_ready : ∀ l : List Env, Pres e (readyFrames l)
  | [] => by unfold readyFrames; exact Pres.pure _
  | env :: outer => by
    unfold readyFrames
    split
    · refine Pres.bind (Pres.load _) fun o => Pres.ite (Pres.pure _) (Pres.bind (pres_behind _ _) fun i => Pres.bind (pres_kept _ _ _) fun b => Pres.bind (Pres.update _ _ fun o vs h1 h2 => ⟨vs, h1, h2⟩) fun _ => pres_ready outer)
    · exact Pres.unsup _
theorem pres_frameOf (env : Env) : Pres e (PySem.frameOf env) := by
  unfold PySem.frameOf
  refine Pres.bind ?_ fun envs => Pres.bind ?_ fun r => ?_
  · unfold frameEnvs; exact Pres.bind Pres.stack fun _ => Pres.pure _
  · cases List.dropWhile (fun x => x.frame != env.frame) envs with
    | nil => unfold frameObject; exact Pres.pure _
    | cons a b => unfold frameObject; exact Pres.bind (pres_ready _) fun _ => Pres.pure _
  · split
    · exact Pres.pure _
    · exact Pres.unsup _
theorem pres_place (f : Addr) (b : Bool) : Pres e (entryPlaceOf f b) := by
  unfold entryPlaceOf
  refine Pres.bind Pres.stack fun acts => ?_
  split <;> exact Pres.pure _
theorem pres_entry (a b c d f : Value) (l : List Value) : Pres e (EntryCells.newEntry a b c d f l) := by
  unfold EntryCells.newEntry newFields newObj
  dsimp only
  have tail : Pres e (newObjAsIs (.type "traceback") (.fields ([a, b, c, d, f] ++ if l.isEmpty = true then List.replicate 6 Value.none else l).toArray)) := by
    unfold newObjAsIs
    exact Pres.bind (Pres.alloc _) fun _ => Pres.pure _
  exact Pres.ite (Pres.bind (Pres.unsup _) fun _ => tail) tail
theorem pres_noteFrame (x : Value) (env : Env) : Pres e (noteFrame x env) := by
  unfold noteFrame
  split
  · refine Pres.bind (pres_field _ _) fun head => ?_
    have tail : ∀ f : Addr, Pres e (do
        let a ← PySem.frameOf env
        let pl ← entryPlaceOf f (head != .none)
        let b ← EntryCells.newEntry head a .none (rawInt f) .none pl
        setField x 1 b) := fun f => Pres.bind (pres_frameOf _) fun a => Pres.bind (pres_place _ _) fun pl => Pres.bind (pres_entry _ _ _ _ _ _) fun b => pres_setField _ _ _ (by decide)
    refine Pres.ite (Pres.bind (pres_field _ _) fun y => Pres.ite (Pres.pure _) (Pres.bind (pres_setField _ _ _ (by decide)) fun _ => tail _)) (tail _)
  · exact Pres.unsup _
theorem pres_leaving (env : Env) (x : Value) : Pres e (leaving env x) := by
  unfold leaving
  exact Pres.bind (pres_noteFrame _ _) fun _ => pres_setFlight _ _
end
theorem wpAny_keep {α : Type} {M : Model} {A : Around} {E : Value → Shared → Prop} {s : Shared} {Q : α → Shared → Prop} {t : Sem α} {e : Addr} (hp : Pres e t) (hn : NoCtx e s.heap) (h : wpAny M A t Q E s) :
    wpAny M A t (fun a s' => Q a s' ∧ NoCtx e s'.heap) E s := fun Γ p hΓ =>
  Sem.wp_mono M Γ t (fun _ _ _ x => x) (fun _ _ _ x => x.1) p s (hp M Γ _ _ p s hn (h Γ p hΓ))
theorem noCtx_new {h h' : Heap} {e : Addr} {cls : String} (x : Heap.NewExc h h' e cls) : NoCtx e h' := by
  obtain ⟨ob, t, h1, _, h3⟩ := x.there
  exact ⟨ob, _, h1, h3, rfl⟩
section
variable {M : Model} {A : Around} {E : Value → Shared → Prop} {s' : Shared} {base g g₂ h : Heap} {outer : List Env} {L a e : Addr} {m : Str → Option Value} {name : Str} {scope : Scope} {cd : Value} {Q : Unit → Shared → Prop} {news : List (Addr × Obj)}
theorem leave_newC {cls : String} (K : Below A base outer g) (hx : Heap.NewExc h s'.heap e cls) (F : Fr g L h m) (N : News g L h news)
    (hQ : ∀ h', RaisedN base outer e (.type cls) news h' → g.UpToSlots h' → NoCtx e h' → Q () { s' with heap := h' }) (hk : scope.kind = .function := by rfl) :
    wpAny M (A.deeper (envOf name scope L a cd)) (leaving (envOf name scope L a cd) (.ref e)) Q E s' := by
  refine wpAny_mono (wpAny_keep (pres_leaving _ _) (noCtx_new hx) (leave_newK (Q := fun _ s'' => ∃ h', s'' = { s' with heap := h' } ∧ RaisedN base outer e (.type cls) news h' ∧ g.UpToSlots h') K hx F N (fun h' x y => ⟨h', rfl, x, y⟩) hk)) (fun _ s'' hq => ?_) fun _ _ x => x
  obtain ⟨⟨h', rfl, x, y⟩, z⟩ := hq
  exact hQ h' x y z
theorem leave_onC {cls : Value} (K : Below A base outer g) (F : Fr g L g₂ m) (R : RaisedN base (envOf name scope L a cd :: outer) e cls news s'.heap) (hsm : g₂.UpToSlots s'.heap) (hn : NoCtx e s'.heap)
    (hQ : ∀ h', RaisedN base outer e cls news h' → g.UpToSlots h' → NoCtx e h' → Q () { s' with heap := h' }) :
    wpAny M (A.deeper (envOf name scope L a cd)) (leaving (envOf name scope L a cd) (.ref e)) Q E s' := by
  refine wpAny_mono (wpAny_keep (pres_leaving _ _) hn (leave_onN (Q := fun _ s'' => ∃ h', s'' = { s' with heap := h' } ∧ RaisedN base outer e cls news h' ∧ g.UpToSlots h') K F R hsm (fun h' x y => ⟨h', rfl, x, y⟩))) (fun _ s'' hq => ?_) fun _ _ x => x
  obtain ⟨⟨h', rfl, x, y⟩, z⟩ := hq
  exact hQ h' x y z
end
end Mine
end

section
open PySem PySem.W PyProof.Rows PySem.Calls
set_option Elab.async false
set_option maxRecDepth 100000
namespace Mine
set_option pp.deepTerms false
set_option pp.deepTerms.threshold 4
set_option pp.proofs false
set_option maxHeartbeats 4000000
theorem map_start {m : Str → Option Value} {x y : Str} (hx : m x = none) (hy : m y = none) : m = fun z => if z = y then none else if z = x then none else m z := by
  funext z
  by_cases h : z = y
  · rw [if_pos h, h, hy]
  · rw [if_neg h]
    by_cases h' : z = x
    · rw [if_pos h', h', hx]
    · rw [if_neg h']
theorem map_i {m : Str → Option Value} {x y : Str} {v oi oj : Option Value} (h : x ≠ y) : (fun z => if z = x then v else (fun z => if z = y then oj else if z = x then oi else m z) z) = fun z => if z = y then oj else if z = x then v else m z := by
  funext z
  by_cases h1 : z = x
  · subst h1; simp [h]
  · simp [h1]
theorem map_j {m : Str → Option Value} {y : Str} {v oj : Option Value} : (fun z => if z = y then v else (fun z => if z = y then oj else m z) z) = fun z => if z = y then v else m z := by
  funext z
  by_cases h1 : z = y
  · simp [h1]
  · simp [h1]
theorem bs_bytes {w : World} {A A₀ : Around} {s : Shared} {L : Addr} {h₀ base : Heap} {m mg mb : Str → Option Value} {news : List (Addr × Obj)} {mean : ExcName → Option Value} {env : Env} {outer : List Env} {R : Result → Shared → Prop}
    {b : Array UInt8} {k : Nat} {t u : Tok} :
    (hd.heap_39 w.params).In h₀ → Below A₀ base outer h₀ → Fr h₀ L s.heap m → News h₀ L s.heap news → Top hd.view_39 (looseW hd.view_39 [Str.ofString "_initial_missing", Str.ofString "reduce"]) mean mg mb h₀ → A.frames = some (env :: outer) → env.frame = some L → env.scope.kind = .function →
    A.depth < recursionLimit → A.handled = none → A.guards = some [] → b.size ≤ 65536 → 1 ≤ k → k ≤ 65536 → b.size % k = 0 →
    (∀ h' tk t', Fr h₀ L h' m → News h₀ L h' news → R (.ok (.ret (.bytes (swapA b k) t'))) { s with heap := h', toks := tk }) →
    codeC (model PySem.Challenge.rw_mr0035_01.row.prog w) A (.call (.ref 30) ⟨[.bytes b u, .int k t], []⟩) R s := by
  k_fill
  intro X₀ B F N T hA hf hke hroom hh hg hb hk1 hk2 hmod hR
  refine' codeC_def B F X₀ N T hA hf hke ?k6 ?k7 hroom ?k9 ?kB ?_ ?c2 ?c3 ?c4 ?c5
  case k6 => k_is
  case k7 => k_is
  case k9 => exact BindsTo.of_eq rfl
  case c5 => decide
  case kB => exact locs rfl
  case c2 => exact rfl
  case c3 => exact rfl
  case c4 => exact rfl
  intro g' L' h' FG' F' N' B' X' T' lt'
  dsimp only
  refine wpC_mono (E := fun _ _ => False) ?_ (fun _ _ x => x) (fun _ _ x => x.elim)
  refine execsC_cons (AssignC (CallC ?_))
  w_on
  k_steps
  refine callWithC_T ?_
  k_steps
  refine call_ba_int hg (by assumption) (by assumption) (by omega) (by omega) ?_
  intro d' hD' FD' ND' ltD'
  k_steps
  refine wpC_of (wpAny_execs_cons ?_)
  with_unfolding_all refine ForStop (by assumption) rfl rfl ?_
  k_steps
  refine Stop.go ?_
  refine krs_iter hh (by assumption) (small_step hb hk1 hk2) (blocks hk1 hmod) (by assumption) (by assumption) fun I hI => ?_
  have hId : d' < I := hI _ (.head _)
  refine krs_all (fun i m news' => ∃ X oi oj, SwInv b k i 0 X ∧ news' = (d', baObj X) :: news ∧ m = fun y => if y = Str.ofString "j" then oj else if y = Str.ofString "i" then oi else if y = Str.ofString "swapped_data" then some (Value.ref d') else
      List.lookup y [(Str.ofString "width", Value.int k t), (Str.ofString "data", Value.bytes b u)]) ?_ ?_ ?_
  · refine ⟨_, none, none, SwInv.start b k hk1, rfl, ?_⟩
    exact map_start rfl rfl
  · rintro i _ _ hi ⟨X, oi, oj, hX, rfl, rfl⟩ ti hh1 tk1 Fi Ni
    rw [map_i (by decide)] at Fi
    refine wpAny_execs_cons ?_
    with_unfolding_all refine ForStop (by assumption) rfl rfl ?_
    k_steps
    refine Stop.go ?_
    refine krs_iter hh (by assumption) (small_step hk2 (Nat.le_refl 1) (by decide)) (rangeSize_nat _ _) (by assumption) (by assumption) fun I2 hI2 => ?_
    have hI2I : I < I2 := hI2 _ (.head _)
    have hI2d : d' < I2 := hI2 _ (.tail _ (.head _))
    refine krs_all (fun j m news' => ∃ X oj, SwInv b k i j X ∧ news' = (I, krsIt (0 + ((i + 1 : Nat) : Int) * (k : Int)) (((b.size / k : Nat) : Int) - ((i + 1 : Nat) : Int)) k) :: (d', baObj X) :: news ∧ m = fun y => if y = Str.ofString "j" then oj else if y = Str.ofString "i" then some (Value.int (0 + (i : Int) * (k : Int)) ti) else if y = Str.ofString "swapped_data" then some (Value.ref d') else
      List.lookup y [(Str.ofString "width", Value.int k t), (Str.ofString "data", Value.bytes b u)]) ⟨_, _, hX, rfl, rfl⟩ ?_ ?_
    · rintro j _ _ hj ⟨X, oj, hX, rfl, rfl⟩ tj hh2 tk2 Fj Nj
      rw [map_j] at Fj
      have hj' : j < k := by omega
      have hik : (i + 1) * k ≤ b.size := by
        have := Nat.mul_le_mul_right k (show i + 1 ≤ b.size / k from hi)
        exact Nat.le_trans this (Nat.div_mul_le_self _ _)
      have hP1 : (i : Int) * (k : Int) + k ≤ b.size := by
        have e : (((i + 1) * k : Nat) : Int) = (i : Int) * k + k := by push_cast; rw [Int.add_mul, Int.one_mul]
        omega
      have hP0 : 0 ≤ (i : Int) * (k : Int) := Int.mul_nonneg (by omega) (by omega)
      k_steps
      refine item_bytes hb (by omega) (by omega) ?_
      k_steps
      refine store_ba (pre := [_, _]) (by assumption) (by assumption) ?_ ?_ (by rw [hX.1]; exact hb) ?_ ?_ (by omega) (byte_lt _) ?_
      · intro p hp
        rcases List.mem_cons.mp hp with rfl | hp
        · exact Nat.ne_of_gt hI2d
        · rcases List.mem_cons.mp hp with rfl | hp
          · exact Nat.ne_of_gt hId
          · cases hp
      · exact fun p hp => Nat.ne_of_lt (ltD' p hp)
      · omega
      · rw [hX.1]; omega
      · intro hS FS NS
        k_steps
        refine UnrEnd.intro (by assumption) NS ((I, krsIt (0 + ((i + 1 : Nat) : Int) * (k : Int)) (((b.size / k : Nat) : Int) - ((i + 1 : Nat) : Int)) k) :: (d', baObj (X.setIfInBounds _ _)) :: news) (fun p hp => hp) ?_ ⟨_, _, ?_, rfl, rfl⟩
        · intro p hp
          rcases List.mem_cons.mp hp with rfl | hp
          · exact Nat.ne_of_lt hI2I
          · rcases List.mem_cons.mp hp with rfl | hp
            · exact Nat.ne_of_lt hI2d
            · exact Nat.ne_of_lt (hI2 p (.tail _ (.tail _ hp)))
        · have e1 : (0 + (i : Int) * (k : Int) + (k : Int) - 1 - (0 + (j : Int) * ((1 : Nat) : Int))).toNat = i * k + (k - 1 - j) := by
            have : ((i * k : Nat) : Int) = (i : Int) * (k : Int) := by push_cast; rfl
            omega
          have e2 : (0 + (i : Int) * (k : Int) + (0 + (j : Int) * ((1 : Nat) : Int))).toNat = i * k + j := by
            have : ((i * k : Nat) : Int) = (i : Int) * (k : Int) := by push_cast; rfl
            omega
          rw [e1, e2]
          exact SwInv.step hj' hik hX (byte_back _)
    · rintro _ _ hh2 tk2 ⟨X, oj, hX, rfl, rfl⟩ Fj Nj
      k_steps
      refine UnrEnd.intro (by assumption) (by assumption) ((d', baObj X) :: news) (fun p hp => hp) ?_ ⟨_, _, _, SwInv.block hk1 (by simpa using hX), rfl, rfl⟩
      intro p hp
      rcases List.mem_cons.mp hp with rfl | hp
      · exact Nat.ne_of_lt hId
      · exact Nat.ne_of_lt (hI p (.tail _ hp))
  · rintro _ _ hh1 tk1 ⟨X, oi, oj, hX, rfl, rfl⟩ Fi Ni
    k_steps
    refine call_bytes_ba (News.get (by assumption) (.head _)) (by rw [hX.1, sizeLine_eq]; omega) ?_
    k_steps
    rw [SwInv.done hmod hX]
    exact hR _ _ _ (by assumption) (kst_newsOf (by assumption) (fun p hp => List.mem_cons_of_mem _ hp))
theorem bs_ba {w : World} {A A₀ : Around} {s : Shared} {L : Addr} {h₀ base : Heap} {m mg mb : Str → Option Value} {news : List (Addr × Obj)} {mean : ExcName → Option Value} {env : Env} {outer : List Env} {R : Result → Shared → Prop}
    {b : Array UInt8} {k : Nat} {t : Tok} {da : Addr} :
    (hd.heap_39 w.params).In h₀ → Below A₀ base outer h₀ → Fr h₀ L s.heap m → News h₀ L s.heap news → Top hd.view_39 (looseW hd.view_39 [Str.ofString "_initial_missing", Str.ofString "reduce"]) mean mg mb h₀ → A.frames = some (env :: outer) → env.frame = some L → env.scope.kind = .function →
    A.depth < recursionLimit → A.handled = none → A.guards = some [] → b.size ≤ 65536 → 1 ≤ k → k ≤ 65536 → b.size % k = 0 → (da, baObj b) ∈ news →
    (∀ h' tk t', Fr h₀ L h' m → News h₀ L h' news → R (.ok (.ret (.bytes (swapA b k) t'))) { s with heap := h', toks := tk }) →
    codeC (model PySem.Challenge.rw_mr0035_01.row.prog w) A (.call (.ref 30) ⟨[.ref da, .int k t], []⟩) R s := by
  k_fill
  intro X₀ B F N T hA hf hke hroom hh hg hb hk1 hk2 hmod hda hR
  refine' codeC_def B F X₀ N T hA hf hke ?k6 ?k7 hroom ?k9 ?kB ?_ ?c2 ?c3 ?c4 ?c5
  case k6 => k_is
  case k7 => k_is
  case k9 => exact BindsTo.of_eq rfl
  case c5 => decide
  case kB => exact locs rfl
  case c2 => exact rfl
  case c3 => exact rfl
  case c4 => exact rfl
  intro g' L' h' FG' F' N' B' X' T' lt'
  dsimp only
  refine wpC_mono (E := fun _ _ => False) ?_ (fun _ _ x => x) (fun _ _ x => x.elim)
  refine execsC_cons (AssignC (CallC ?_))
  w_on
  k_steps
  refine callWithC_T ?_
  k_steps
  refine call_len_ba (News.get (by assumption) hda) hb ?_
  k_steps
  refine call_ba_int hg (by assumption) (by assumption) (by omega) (by omega) ?_
  intro d' hD' FD' ND' ltD'
  k_steps
  refine wpC_of (wpAny_execs_cons ?_)
  with_unfolding_all refine ForStop (by assumption) rfl rfl ?_
  k_steps
  refine call_len_ba (News.get (by assumption) (.tail _ hda)) hb ?_
  k_steps
  refine Stop.go ?_
  refine krs_iter hh (by assumption) (small_step hb hk1 hk2) (blocks hk1 hmod) (by assumption) (by assumption) fun I hI => ?_
  have hId : d' < I := hI _ (.head _)
  refine krs_all (fun i m news' => ∃ X oi oj, SwInv b k i 0 X ∧ news' = (d', baObj X) :: news ∧ m = fun y => if y = Str.ofString "j" then oj else if y = Str.ofString "i" then oi else if y = Str.ofString "swapped_data" then some (Value.ref d') else
      List.lookup y [(Str.ofString "width", Value.int k t), (Str.ofString "data", Value.ref da)]) ?_ ?_ ?_
  · refine ⟨_, none, none, SwInv.start b k hk1, rfl, ?_⟩
    exact map_start rfl rfl
  · rintro i _ _ hi ⟨X, oi, oj, hX, rfl, rfl⟩ ti hh1 tk1 Fi Ni
    rw [map_i (by decide)] at Fi
    refine wpAny_execs_cons ?_
    with_unfolding_all refine ForStop (by assumption) rfl rfl ?_
    k_steps
    refine Stop.go ?_
    refine krs_iter hh (by assumption) (small_step hk2 (Nat.le_refl 1) (by decide)) (rangeSize_nat _ _) (by assumption) (by assumption) fun I2 hI2 => ?_
    have hI2I : I < I2 := hI2 _ (.head _)
    have hI2d : d' < I2 := hI2 _ (.tail _ (.head _))
    refine krs_all (fun j m news' => ∃ X oj, SwInv b k i j X ∧ news' = (I, krsIt (0 + ((i + 1 : Nat) : Int) * (k : Int)) (((b.size / k : Nat) : Int) - ((i + 1 : Nat) : Int)) k) :: (d', baObj X) :: news ∧ m = fun y => if y = Str.ofString "j" then oj else if y = Str.ofString "i" then some (Value.int (0 + (i : Int) * (k : Int)) ti) else if y = Str.ofString "swapped_data" then some (Value.ref d') else
      List.lookup y [(Str.ofString "width", Value.int k t), (Str.ofString "data", Value.ref da)]) ⟨_, _, hX, rfl, rfl⟩ ?_ ?_
    · rintro j _ _ hj ⟨X, oj, hX, rfl, rfl⟩ tj hh2 tk2 Fj Nj
      rw [map_j] at Fj
      have hj' : j < k := by omega
      have hik : (i + 1) * k ≤ b.size := by
        have := Nat.mul_le_mul_right k (show i + 1 ≤ b.size / k from hi)
        exact Nat.le_trans this (Nat.div_mul_le_self _ _)
      have hP1 : (i : Int) * (k : Int) + k ≤ b.size := by
        have e : (((i + 1) * k : Nat) : Int) = (i : Int) * k + k := by push_cast; rw [Int.add_mul, Int.one_mul]
        omega
      have hP0 : 0 ≤ (i : Int) * (k : Int) := Int.mul_nonneg (by omega) (by omega)
      k_steps
      refine item_ba (News.get (by assumption) (.tail _ (.tail _ (.tail _ hda)))) hb (by omega) (by omega) ?_
      k_steps
      refine store_ba (pre := [_, _]) (by assumption) (by assumption) ?_ ?_ (by rw [hX.1]; exact hb) ?_ ?_ (by omega) (byte_lt _) ?_
      · intro p hp
        rcases List.mem_cons.mp hp with rfl | hp
        · exact Nat.ne_of_gt hI2d
        · rcases List.mem_cons.mp hp with rfl | hp
          · exact Nat.ne_of_gt hId
          · cases hp
      · exact fun p hp => Nat.ne_of_lt (ltD' p hp)
      · omega
      · rw [hX.1]; omega
      · intro hS FS NS
        k_steps
        refine UnrEnd.intro (by assumption) NS ((I, krsIt (0 + ((i + 1 : Nat) : Int) * (k : Int)) (((b.size / k : Nat) : Int) - ((i + 1 : Nat) : Int)) k) :: (d', baObj (X.setIfInBounds _ _)) :: news) (fun p hp => hp) ?_ ⟨_, _, ?_, rfl, rfl⟩
        · intro p hp
          rcases List.mem_cons.mp hp with rfl | hp
          · exact Nat.ne_of_lt hI2I
          · rcases List.mem_cons.mp hp with rfl | hp
            · exact Nat.ne_of_lt hI2d
            · exact Nat.ne_of_lt (hI2 p (.tail _ (.tail _ hp)))
        · have e1 : (0 + (i : Int) * (k : Int) + (k : Int) - 1 - (0 + (j : Int) * ((1 : Nat) : Int))).toNat = i * k + (k - 1 - j) := by
            have : ((i * k : Nat) : Int) = (i : Int) * (k : Int) := by push_cast; rfl
            omega
          have e2 : (0 + (i : Int) * (k : Int) + (0 + (j : Int) * ((1 : Nat) : Int))).toNat = i * k + j := by
            have : ((i * k : Nat) : Int) = (i : Int) * (k : Int) := by push_cast; rfl
            omega
          rw [e1, e2]
          exact SwInv.step hj' hik hX (byte_back _)
    · rintro _ _ hh2 tk2 ⟨X, oj, hX, rfl, rfl⟩ Fj Nj
      k_steps
      refine UnrEnd.intro (by assumption) (by assumption) ((d', baObj X) :: news) (fun p hp => hp) ?_ ⟨_, _, _, SwInv.block hk1 (by simpa using hX), rfl, rfl⟩
      intro p hp
      rcases List.mem_cons.mp hp with rfl | hp
      · exact Nat.ne_of_lt hId
      · exact Nat.ne_of_lt (hI p (.tail _ hp))
  · rintro _ _ hh1 tk1 ⟨X, oi, oj, hX, rfl, rfl⟩ Fi Ni
    k_steps
    refine call_bytes_ba (News.get (by assumption) (.head _)) (by rw [hX.1, sizeLine_eq]; omega) ?_
    k_steps
    rw [SwInv.done hmod hX]
    exact hR _ _ _ (by assumption) (kst_newsOf (by assumption) (fun p hp => List.mem_cons_of_mem _ hp))
end Mine
end

section
open PySem PySem.W PyProof.Rows PySem.Calls
set_option Elab.async false
set_option maxRecDepth 100000
namespace Mine
set_option pp.deepTerms false
set_option pp.deepTerms.threshold 4
set_option pp.proofs false
set_option maxHeartbeats 4000000
theorem raisedN_sub {base : Heap} {l : List Env} {e : Addr} {cls : Value} {news news' : List (Addr × Obj)} {h : Heap} (R : RaisedN base l e cls news h) (hs : ∀ p ∈ news', p ∈ news) : RaisedN base l e cls news' h := by
  obtain ⟨B, a0, hB, hl, hfl⟩ := R
  exact ⟨B, a0, hB, fun q hq => hl q (hs q hq), hfl⟩
theorem bs_bad {w : World} {A A₀ : Around} {s : Shared} {L : Addr} {h₀ base : Heap} {m mg mb : Str → Option Value} {news : List (Addr × Obj)} {mean : ExcName → Option Value} {env : Env} {outer : List Env} {R : Result → Shared → Prop}
    {b : Array UInt8} {k : Nat} {t u : Tok} :
    (hd.heap_39 w.params).In h₀ → Below A₀ base outer h₀ → Fr h₀ L s.heap m → News h₀ L s.heap news → Top hd.view_39 (looseW hd.view_39 [Str.ofString "_initial_missing", Str.ofString "reduce"]) mean mg mb h₀ → A.frames = some (env :: outer) → env.frame = some L → env.scope.kind = .function →
    A.depth < recursionLimit → A.handled = none → A.guards = some [] → b.size ≤ 65536 → 1 ≤ k → k ≤ 65536 → b.size % k ≠ 0 →
    (∀ g₂ h' tk e, Fr h₀ L g₂ m → g₂.UpToSlots h' → RaisedN base (env :: outer) e (.type "IndexError") news h' → NoCtx e h' → R (.error (.ref e)) { s with heap := h', toks := tk }) →
    codeC (model PySem.Challenge.rw_mr0035_01.row.prog w) A (.call (.ref 30) ⟨[.bytes b u, .int k t], []⟩) R s := by
  k_fill
  intro X₀ B F N T hA hf hke hroom hh hg hb hk1 hk2 hmod hR
  refine' codeC_def B F X₀ N T hA hf hke ?k6 ?k7 hroom ?k9 ?kB ?_ ?c2 ?c3 ?c4 ?c5
  case k6 => k_is
  case k7 => k_is
  case k9 => exact BindsTo.of_eq rfl
  case c5 => decide
  case kB => exact locs rfl
  case c2 => exact rfl
  case c3 => exact rfl
  case c4 => exact rfl
  intro g' L' h' FG' F' N' B' X' T' lt'
  dsimp only
  refine execsC_cons (AssignC (CallC ?_))
  w_on
  k_steps
  refine callWithC_T ?_
  k_steps
  refine call_ba_int hg (by assumption) (by assumption) (by omega) (by omega) ?_
  intro d' hD' FD' ND' ltD'
  k_steps
  refine wpC_of (wpAny_execs_cons ?_)
  with_unfolding_all refine ForStop (by assumption) rfl rfl ?_
  k_steps
  refine Stop.go ?_
  refine krs_iter hh (by assumption) (small_step hb hk1 hk2) (blocks_up hk1 hmod) (by assumption) (by assumption) fun I hI => ?_
  have hId : d' < I := hI _ (.head _)
  refine krs_all (fun i m news' => i ≤ b.size / k ∧ ∃ X oi oj, SwInv b k i 0 X ∧ news' = (d', baObj X) :: news ∧ m = fun y => if y = Str.ofString "j" then oj else if y = Str.ofString "i" then oi else if y = Str.ofString "swapped_data" then some (Value.ref d') else
      List.lookup y [(Str.ofString "width", Value.int k t), (Str.ofString "data", Value.bytes b u)]) ?_ ?_ ?_
  · refine ⟨Nat.zero_le _, _, none, none, SwInv.start b k hk1, rfl, ?_⟩
    exact map_start rfl rfl
  · rintro i _ _ hi ⟨hle, X, oi, oj, hX, rfl, rfl⟩ ti hh1 tk1 Fi Ni
    rw [map_i (by decide)] at Fi
    refine wpAny_execs_cons ?_
    with_unfolding_all refine ForStop (by assumption) rfl rfl ?_
    k_steps
    refine Stop.go ?_
    refine krs_iter hh (by assumption) (small_step hk2 (Nat.le_refl 1) (by decide)) (rangeSize_nat _ _) (by assumption) (by assumption) fun I2 hI2 => ?_
    have hI2I : I < I2 := hI2 _ (.head _)
    have hI2d : d' < I2 := hI2 _ (.tail _ (.head _))
    by_cases hlast : i < b.size / k
    · skip
      refine krs_all (fun j m news' => ∃ X oj, SwInv b k i j X ∧ news' = (I, krsIt (0 + ((i + 1 : Nat) : Int) * (k : Int)) (((b.size / k + 1 : Nat) : Int) - ((i + 1 : Nat) : Int)) k) :: (d', baObj X) :: news ∧ m = fun y => if y = Str.ofString "j" then oj else if y = Str.ofString "i" then some (Value.int (0 + (i : Int) * (k : Int)) ti) else if y = Str.ofString "swapped_data" then some (Value.ref d') else
        List.lookup y [(Str.ofString "width", Value.int k t), (Str.ofString "data", Value.bytes b u)]) ⟨_, _, hX, rfl, rfl⟩ ?_ ?_
      · rintro j _ _ hj ⟨X, oj, hX, rfl, rfl⟩ tj hh2 tk2 Fj Nj
        rw [map_j] at Fj
        have hj' : j < k := by omega
        have hik : (i + 1) * k ≤ b.size := by
          have := Nat.mul_le_mul_right k (show i + 1 ≤ b.size / k from hlast)
          exact Nat.le_trans this (Nat.div_mul_le_self _ _)
        have hP1 : (i : Int) * (k : Int) + k ≤ b.size := by
          have e : (((i + 1) * k : Nat) : Int) = (i : Int) * k + k := by push_cast; rw [Int.add_mul, Int.one_mul]
          omega
        have hP0 : 0 ≤ (i : Int) * (k : Int) := Int.mul_nonneg (by omega) (by omega)
        k_steps
        refine item_bytes hb (by omega) (by omega) ?_
        k_steps
        refine store_ba (pre := [_, _]) (by assumption) (by assumption) ?_ ?_ (by rw [hX.1]; exact hb) ?_ ?_ (by omega) (byte_lt _) ?_
        · intro p hp
          rcases List.mem_cons.mp hp with rfl | hp
          · exact Nat.ne_of_gt hI2d
          · rcases List.mem_cons.mp hp with rfl | hp
            · exact Nat.ne_of_gt hId
            · cases hp
        · exact fun p hp => Nat.ne_of_lt (ltD' p hp)
        · omega
        · rw [hX.1]; omega
        · intro hS FS NS
          k_steps
          refine UnrEnd.intro (by assumption) NS ((I, krsIt (0 + ((i + 1 : Nat) : Int) * (k : Int)) (((b.size / k + 1 : Nat) : Int) - ((i + 1 : Nat) : Int)) k) :: (d', baObj (X.setIfInBounds _ _)) :: news) (fun p hp => hp) ?_ ⟨_, _, ?_, rfl, rfl⟩
          · intro p hp
            rcases List.mem_cons.mp hp with rfl | hp
            · exact Nat.ne_of_lt hI2I
            · rcases List.mem_cons.mp hp with rfl | hp
              · exact Nat.ne_of_lt hI2d
              · exact Nat.ne_of_lt (hI2 p (.tail _ (.tail _ hp)))
          · have e1 : (0 + (i : Int) * (k : Int) + (k : Int) - 1 - (0 + (j : Int) * ((1 : Nat) : Int))).toNat = i * k + (k - 1 - j) := by
              have : ((i * k : Nat) : Int) = (i : Int) * (k : Int) := by push_cast; rfl
              omega
            have e2 : (0 + (i : Int) * (k : Int) + (0 + (j : Int) * ((1 : Nat) : Int))).toNat = i * k + j := by
              have : ((i * k : Nat) : Int) = (i : Int) * (k : Int) := by push_cast; rfl
              omega
            rw [e1, e2]
            exact SwInv.step hj' hik hX (byte_back _)
      · rintro _ _ hh2 tk2 ⟨X, oj, hX, rfl, rfl⟩ Fj Nj
        k_steps
        refine UnrEnd.intro (by assumption) (by assumption) ((d', baObj X) :: news) (fun p hp => hp) ?_ ⟨hlast, _, _, _, SwInv.block hk1 (by simpa using hX), rfl, rfl⟩
        intro p hp
        rcases List.mem_cons.mp hp with rfl | hp
        · exact Nat.ne_of_lt hId
        · exact Nat.ne_of_lt (hI p (.tail _ hp))
    · have hie : i = b.size / k := by omega
      have hq := Nat.div_add_mod b.size k
      have hm := Nat.mod_lt b.size (show k > 0 by omega)
      have hPe : ((i * k : Nat) : Int) = (i : Int) * (k : Int) := by push_cast; rfl
      have hP1 : (i : Int) * (k : Int) < b.size := by rw [← hPe, hie, Nat.mul_comm]; omega
      have hP2 : (b.size : Int) < (i : Int) * (k : Int) + k := by rw [← hPe, hie, Nat.mul_comm]; omega
      have hP0 : 0 ≤ (i : Int) * (k : Int) := Int.mul_nonneg (by omega) (by omega)
      refine krs_all (fun j m news' => j = 0 ∧ ∃ oj, news' = (I, krsIt (0 + ((i + 1 : Nat) : Int) * (k : Int)) (((b.size / k + 1 : Nat) : Int) - ((i + 1 : Nat) : Int)) k) :: (d', baObj X) :: news ∧ m = fun y => if y = Str.ofString "j" then oj else if y = Str.ofString "i" then some (Value.int (0 + (i : Int) * (k : Int)) ti) else if y = Str.ofString "swapped_data" then some (Value.ref d') else
        List.lookup y [(Str.ofString "width", Value.int k t), (Str.ofString "data", Value.bytes b u)]) ⟨rfl, _, rfl, rfl⟩ ?_ ?_
      · rintro j _ _ hj ⟨rfl, oj, rfl, rfl⟩ tj hh2 tk2 Fj Nj
        rw [map_j] at Fj
        k_steps
        refine item_bytes hb (by omega) (by omega) ?_
        k_steps
        refine ba_setItem_out hh (News.get (by assumption) (.tail _ (.tail _ (.head _)))) (by omega) (by rw [hX.1]; omega) (by omega) (by omega) (byte_lt _) ?_
        intro hE' tkE e' hx'
        refine leave_newC B' hx' Fj Nj fun hF' RF' sm' hn' => ?_
        exact hR g' _ _ _ FG' sm' (raisedN_sub RF' fun p hp => .tail _ (.tail _ (.tail _ hp))) hn'
      · rintro _ _ hh2 tk2 ⟨hj0, _⟩ Fj Nj
        omega
  · rintro _ _ hh1 tk1 ⟨hlt, X, oi, oj, hX, rfl, rfl⟩ Fi Ni
    omega
end Mine
end

section
open PySem PySem.W PyProof.Rows PySem.Calls
set_option Elab.async false
set_option maxRecDepth 100000
namespace Mine
set_option pp.deepTerms false
set_option pp.deepTerms.threshold 4
set_option pp.proofs false
set_option maxHeartbeats 4000000
/-- a value that bears these bytes: bytes, or a bytearray of the ledger -/
def IsBuf (news : List (Addr × Obj)) (v : Value) (b : Array UInt8) : Prop := (∃ u, v = .bytes b u) ∨ ∃ da, v = .ref da ∧ (da, baObj b) ∈ news
theorem bs_any {w : World} {A A₀ : Around} {s : Shared} {L : Addr} {h₀ base : Heap} {m mg mb : Str → Option Value} {news : List (Addr × Obj)} {mean : ExcName → Option Value} {env : Env} {outer : List Env} {R : Result → Shared → Prop}
    {b : Array UInt8} {k : Nat} {t : Tok} {v : Value} (X₀ : (hd.heap_39 w.params).In h₀) (B : Below A₀ base outer h₀) (F : Fr h₀ L s.heap m) (N : News h₀ L s.heap news) (T : Top hd.view_39 (looseW hd.view_39 [Str.ofString "_initial_missing", Str.ofString "reduce"]) mean mg mb h₀) (hA : A.frames = some (env :: outer)) (hf : env.frame = some L) (hke : env.scope.kind = .function)
    (hroom : A.depth < recursionLimit) (hh : A.handled = none) (hg : A.guards = some []) (hb : b.size ≤ 65536) (hk1 : 1 ≤ k) (hk2 : k ≤ 65536) (hmod : b.size % k = 0) (hv : IsBuf news v b)
    (hR : ∀ h' tk t', Fr h₀ L h' m → News h₀ L h' news → R (.ok (.ret (.bytes (swapA b k) t'))) { s with heap := h', toks := tk }) :
    codeC (model PySem.Challenge.rw_mr0035_01.row.prog w) A (.call (.ref 30) ⟨[v, .int k t], []⟩) R s := by
  rcases hv with ⟨u, rfl⟩ | ⟨da, rfl, hda⟩
  · exact bs_bytes X₀ B F N T hA hf hke hroom hh hg hb hk1 hk2 hmod hR
  · exact bs_ba X₀ B F N T hA hf hke hroom hh hg hb hk1 hk2 hmod hda hR
section
variable {prog : Program} {w : World} {A : Around} {E : Value → Shared → Prop} {s : Shared} {h₀ : Heap} {L : Addr} {m : Str → Option Value} {news : List (Addr × Obj)}
theorem iter_listK {l : Addr} {oL : Obj} {items : List Value} {Q : Value → Shared → Prop} (F : Fr h₀ L s.heap m) (N : News h₀ L s.heap news) (hl : (l, oL) ∈ news) (hL : IsLst oL items)
    (hQ : ∀ I oI h', IsLI oI l 0 → Fr h₀ L h' m → News h₀ L h' ((I, oI) :: news) → (∀ p ∈ news, p.1 < I) → Q (.ref I) { s with heap := h' }) :
    wpAny (model prog w) A (call (.builtin "iter") [.ref l]) Q E s :=
  call_iter_list (hL.at (N _ hl).1) (hQ _ _ _ ⟨rfl, rfl⟩ (F.push _) (N.push F _) fun p hp => Heap.lt_size (N p hp).1)
theorem is_off {v : Value} {y : Addr} {oy : Obj} {Q : Value → Shared → Prop} (hy : s.heap.get? y = some oy) (hc : oy.cls = .type "object")
    (hv : v = .none ∨ (∃ b u, v = .bytes b u) ∨ ∃ a o, v = .ref a ∧ a ≠ y ∧ s.heap.get? a = some o) (h : Q (.bool false) s) : wpAny (model prog w) A (compareOp .Is v (.ref y)) Q E s := by
  have key : wpAny (model prog w) A (isSame v (.ref y)) (fun b s' => b = false ∧ s' = s) E s := by
    rcases hv with rfl | ⟨b, u, rfl⟩ | ⟨a, o, rfl, hne, ha⟩
    · exact wpAny_pure ⟨rfl, rfl⟩
    · exact wpAny_pure ⟨rfl, rfl⟩
    · unfold isSame
      refine bm_if_false (by simpa using hne) ?_
      refine wpAny_bind (wpAny_load ha (wpAny_bind (wpAny_load hy ?_)))
      rw [hc]
      split
      · exfalso; simp_all
      · exact wpAny_pure ⟨rfl, rfl⟩
  show wpAny _ _ (do return Value.bool (← isSame v (.ref y))) _ _ _
  refine wpAny_bind (wpAny_mono key (fun b s' hb => ?_) fun _ _ e => e)
  obtain ⟨rfl, rfl⟩ := hb
  exact wpAny_pure h
end
theorem map_val {m : Str → Option Value} {x y : Str} {v : Option Value} (hx : m x = none) : (fun z => if z = y then v else m z) = fun z => if z = y then v else if z = x then none else m z := by
  funext z
  by_cases h : z = y
  · rw [if_pos h, if_pos h]
  · rw [if_neg h, if_neg h]
    by_cases h' : z = x
    · rw [if_pos h', h', hx]
    · rw [if_neg h']
theorem ints_nat {vs : List Value} {ws : List Nat} (h : IntsAre vs (ws.map fun k : Nat => (k : Int))) {i : Nat} {v : Value} (hv : vs[i]? = some v) : ∃ (k : Nat) (t : Tok), ws[i]? = some k ∧ v = .int (k : Int) t := by
  obtain ⟨n, t, e, hn⟩ := IntsAre.at h i v hv
  rw [List.getElem?_map] at hn
  obtain ⟨k, hk, rfl⟩ := Option.map_eq_some_iff.mp hn
  exact ⟨k, t, hk, e⟩
theorem curV_buf {news : List (Addr × Obj)} {v0 v : Value} {b : Array UInt8} {ws : List Nat} {i : Nat} (h : CurV v0 b ws i v) (h0 : i = 0 → IsBuf news v0 b) : IsBuf news v ((ws.take i).foldl swapA b) := by
  rcases h with ⟨rfl, rfl⟩ | ⟨_, t, rfl⟩
  · exact h0 rfl
  · exact .inl ⟨t, rfl⟩
theorem IsBuf.mono {news news' : List (Addr × Obj)} {v : Value} {b : Array UInt8} (h : IsBuf news v b) (hs : ∀ p ∈ news, p ∈ news') : IsBuf news' v b := by
  rcases h with h | ⟨da, e, hm⟩
  · exact .inl h
  · exact .inr ⟨da, e, hs _ hm⟩
theorem ne_nil_of_get {ws : List Nat} {i k : Nat} (h : ws[i]? = some k) : ws ≠ [] := by rintro rfl; simp at h
theorem rd_list {w : World} {A A₀ : Around} {s : Shared} {L : Addr} {h₀ base : Heap} {m mg mb : Str → Option Value} {news : List (Addr × Obj)} {mean : ExcName → Option Value} {env : Env} {outer : List Env} {R : Result → Shared → Prop}
    {l : Addr} {oL : Obj} {items : List Value} {v0 : Value} {b : Array UInt8} {ws : List Nat} :
    (hd.heap_39 w.params).In h₀ → Below A₀ base outer h₀ → Fr h₀ L s.heap m → News h₀ L s.heap news → Top hd.view_39 (looseW hd.view_39 [Str.ofString "_initial_missing", Str.ofString "reduce"]) mean mg mb h₀ → A.frames = some (env :: outer) → env.frame = some L → env.scope.kind = .function →
    A.depth + 10 < recursionLimit → A.handled = none → A.guards = some [] → (l, oL) ∈ news → IsLst oL items → IntsAre items (ws.map fun k : Nat => (k : Int)) →
    (v0 = .none ∨ (∃ b u, v0 = .bytes b u) ∨ ∃ a o, v0 = .ref a ∧ (a, o) ∈ news) → b.size ≤ 65536 → (∀ k ∈ ws, 1 ≤ k ∧ k ≤ 65536 ∧ b.size % k = 0) → (ws ≠ [] → IsBuf news v0 b) →
    (∀ h' tk v, CurV v0 b ws ws.length v → Fr h₀ L h' m → News h₀ L h' news → R (.ok (.ret v)) { s with heap := h', toks := tk }) →
    codeC (model PySem.Challenge.rw_mr0035_01.row.prog w) A (.call (.ref 23) ⟨[.ref 30, .ref l, v0], []⟩) R s := by
  k_fill
  intro X₀ B F N T hA hf hke hroom hh hg hl hL hints hv0 hb hws hbuf hR
  have hn15 : ∀ a o, (a, o) ∈ news → a ≠ 15 := by
    rintro a o ho rfl
    have h15 : (hd.heap_39 w.params).lookup 15 = some { cls := .type "object" } := by k_is
    have z := (N _ ho).2.2
    rw [X₀ _ _ h15] at z
    cases z
  refine' codeC_def B F X₀ N T hA hf hke ?k6 ?k7 ?kr ?k9 ?kB ?_ ?c2 ?c3 ?c4 ?c5
  case k6 => k_is
  case k7 => k_is
  case kr => omega
  case k9 => first | exact BindsTo.of_eq rfl | exact binds_K (by k_in) rfl (by k_is) rfl rfl rfl
  case c5 => decide
  case kB => exact locs rfl
  case c2 => exact rfl
  case c3 => exact rfl
  case c4 => exact rfl
  intro g' L' h' FG' F' N' B' X' T' lt'
  dsimp only
  refine execsC_cons (wpC_of ?_)
  w_on
  k_steps
  refine iter_listK F' N' hl hL fun I oI hI hoI FI NI ltI => ?_
  k_steps
  refine execsC_cons (wpC_of ?_)
  k_steps
  have h15 : (hd.heap_39 w.params).lookup 15 = some { cls := .type "object" } := by k_is
  refine is_off ((X'.keeps (Fr.keep (by assumption))) _ _ h15) rfl ?_ ?_
  · rcases hv0 with h | h | ⟨a, o, h, ho⟩
    · exact .inl h
    · exact .inr (.inl h)
    · exact .inr (.inr ⟨a, o, h, hn15 a o ho, News.get (by assumption) (.tail _ ho)⟩)
  k_steps
  refine execsC_cons (ForC ?_)
  k_steps
  refine wpAny_pyIter_listiter (hoI.at (News.get (by assumption) (.head _))) ?_
  refine codeC_for_li (rest := news) (fun i m => ∃ v oe, CurV v0 b ws (i - 0) v ∧ m = fun y => if y = Str.ofString "value" then some v else if y = Str.ofString "element" then oe else if y = Str.ofString "it" then some (Value.ref I) else
      List.lookup y [(Str.ofString "initial", v0), (Str.ofString "sequence", Value.ref l), (Str.ofString "function", Value.ref 30)]) hh rfl rfl (by assumption) (by assumption) hoI hl hL (fun p hp => Nat.ne_of_lt (ltI p hp)) (Nat.zero_le _) ⟨v0, none, .inl ⟨by simp, rfl⟩, map_val rfl⟩ ?_ ?_
  · rintro i v _ oI' hh1 tk1 hv hge ⟨cv, oe, hcv, rfl⟩ hoI' Fi Ni
    rw [map_i (by decide)] at Fi
    obtain ⟨k, tv, hk, rfl⟩ := ints_nat hints hv
    obtain ⟨hk1, hk2, hkm⟩ := hws k (List.mem_of_getElem? hk)
    refine execsC_cons (AssignC (CallC ?_))
    k_steps
    refine callWithC_K (K := (hd.heap_39 w.params)) (by k_is) ?_
    k_steps
    refine wpC_call (bs_any X' B' Fi Ni T' (Around.frames_deeper B'.stack) rfl rfl (by show A.depth + 1 < recursionLimit; omega) hh hg (b := (ws.take (i - 0)).foldl swapA b) (by rw [foldSwap_size]; exact hb) hk1 hk2 (by rw [foldSwap_size]; exact hkm) (curV_buf hcv fun _ => ((hbuf (ne_nil_of_get hk)).mono fun p hp => .tail _ hp)) ?_)
    intro h2 tk2 t2 F2 N2
    k_steps
    refine wpC_of (wpAny_execs_nil ⟨rfl, _, _, _, rfl, by assumption, by assumption, _, _, ?_, map_j⟩)
    rw [Nat.succ_sub hge]
    exact CurV.step hk
  · rintro _ hh1 tk1 ⟨cv, oe, hcv, rfl⟩ Fi Ni
    refine execsC_cons (wpC_of ?_)
    k_steps
    refine hR _ _ _ ?_ (by assumption) (by assumption)
    have hlen := hints.length
    simp only [List.length_map] at hlen
    simpa [hlen] using hcv
end Mine
end

section
open PySem PySem.W PyProof.Rows PySem.Calls
set_option Elab.async false
set_option maxRecDepth 100000
namespace Mine
set_option pp.deepTerms false
set_option pp.deepTerms.threshold 4
set_option pp.proofs false
set_option maxHeartbeats 4000000
section
variable {prog : Program} {w : World} {A : Around} {E : Value → Shared → Prop} {s : Shared} {h₀ : Heap} {L : Addr} {m : Str → Option Value}
theorem next_liK {I l : Addr} {oI oL : Obj} {i : Nat} {items : List Value} {rest : List (Addr × Obj)} {x : Value} {Q : Value → Shared → Prop} (F : Fr h₀ L s.heap m) (N : News h₀ L s.heap ((I, oI) :: rest)) (hoI : IsLI oI l i) (hoff : ∀ p ∈ rest, p.1 ≠ I)
    (hl : (l, oL) ∈ rest) (hL : IsLst oL items) (hx : items[i]? = some x)
    (hQ : ∀ oI' h', IsLI oI' l (i + 1) → Fr h₀ L h' m → News h₀ L h' ((I, oI') :: rest) → Q x { s with heap := h' }) :
    wpAny (model prog w) A (call (.builtin "next") [.ref I]) Q E s := by
  have DI := N (I, oI) (.head _)
  refine call_next_li (hoI.at DI.1) (hL.at (N _ (.tail _ hl)).1) (by simpa using hx) fun h' hit hs => ?_
  obtain ⟨oN, eN, hN⟩ := hit
  refine hQ oN h' hN (F.change hs DI.2.1 DI.2.2) fun p hq => ?_
  rcases List.mem_cons.mp hq with rfl | hq
  · exact ⟨eN, DI.2⟩
  · exact ⟨(hs.2 p.1 (hoff p hq)).trans (N p (.tail _ hq)).1, (N p (.tail _ hq)).2⟩
end
theorem rd_iter {w : World} {A A₀ : Around} {s : Shared} {L : Addr} {h₀ base : Heap} {m mg mb : Str → Option Value} {rest : List (Addr × Obj)} {mean : ExcName → Option Value} {env : Env} {outer : List Env} {R : Result → Shared → Prop}
    {l I : Addr} {oL oI : Obj} {items : List Value} {v0 : Value} {b : Array UInt8} {ws : List Nat} :
    (hd.heap_39 w.params).In h₀ → Below A₀ base outer h₀ → Fr h₀ L s.heap m → News h₀ L s.heap ((I, oI) :: rest) → Top hd.view_39 (looseW hd.view_39 [Str.ofString "_initial_missing", Str.ofString "reduce"]) mean mg mb h₀ → A.frames = some (env :: outer) → env.frame = some L → env.scope.kind = .function →
    A.depth + 10 < recursionLimit → A.handled = none → A.guards = some [] → IsLI oI l 0 → (∀ p ∈ rest, p.1 ≠ I) → (l, oL) ∈ rest → IsLst oL items → IntsAre items (ws.map fun k : Nat => (k : Int)) →
    (∃ b u, v0 = .bytes b u) → b.size ≤ 65536 → (∀ k ∈ ws, 1 ≤ k ∧ k ≤ 65536 ∧ b.size % k = 0) → (ws ≠ [] → IsBuf rest v0 b) →
    (∀ h' tk v, CurV v0 b ws ws.length v → Fr h₀ L h' m → News h₀ L h' rest → R (.ok (.ret v)) { s with heap := h', toks := tk }) →
    codeC (model PySem.Challenge.rw_mr0035_01.row.prog w) A (.call (.ref 23) ⟨[.ref 30, .ref I, v0], []⟩) R s := by
  k_fill
  intro X₀ B F N T hA hf hke hroom hh hg hoI hoff hl hL hints hv0 hb hws hbuf hR
  refine' codeC_def B F X₀ N T hA hf hke ?k6 ?k7 ?kr ?k9 ?kB ?_ ?c2 ?c3 ?c4 ?c5
  case k6 => k_is
  case k7 => k_is
  case kr => omega
  case k9 => first | exact BindsTo.of_eq rfl | exact binds_K (by k_in) rfl (by k_is) rfl rfl rfl
  case c5 => decide
  case kB => exact locs rfl
  case c2 => exact rfl
  case c3 => exact rfl
  case c4 => exact rfl
  intro g' L' h' FG' F' N' B' X' T' lt'
  dsimp only
  refine execsC_cons (wpC_of ?_)
  w_on
  k_steps
  refine call_iter_li (hoI.at (News.get N' (.head _))) ?_
  k_steps
  refine execsC_cons (wpC_of ?_)
  k_steps
  have h15 : (hd.heap_39 w.params).lookup 15 = some { cls := .type "object" } := by k_is
  refine is_off ((X'.keeps (Fr.keep (by assumption))) _ _ h15) rfl ?_ ?_
  · exact .inr (.inl hv0)
  k_steps
  refine execsC_cons (ForC ?_)
  k_steps
  refine wpAny_pyIter_listiter (hoI.at (News.get (by assumption) (.head _))) ?_
  refine codeC_for_li (rest := rest) (fun i m => ∃ v oe, CurV v0 b ws (i - 0) v ∧ m = fun y => if y = Str.ofString "value" then some v else if y = Str.ofString "element" then oe else if y = Str.ofString "it" then some (Value.ref I) else
      List.lookup y [(Str.ofString "initial", v0), (Str.ofString "sequence", Value.ref I), (Str.ofString "function", Value.ref 30)]) hh rfl rfl (by assumption) (by assumption) hoI hl hL hoff (Nat.zero_le _) ⟨v0, none, .inl ⟨by simp, rfl⟩, map_val rfl⟩ ?_ ?_
  · rintro i v _ oI' hh1 tk1 hv hge ⟨cv, oe, hcv, rfl⟩ hoI' Fi Ni
    rw [map_i (by decide)] at Fi
    obtain ⟨k, tv, hk, rfl⟩ := ints_nat hints hv
    obtain ⟨hk1, hk2, hkm⟩ := hws k (List.mem_of_getElem? hk)
    refine execsC_cons (AssignC (CallC ?_))
    k_steps
    refine callWithC_K (K := (hd.heap_39 w.params)) (by k_is) ?_
    k_steps
    refine wpC_call (bs_any X' B' Fi Ni T' (Around.frames_deeper B'.stack) rfl rfl (by show A.depth + 1 < recursionLimit; omega) hh hg (b := (ws.take (i - 0)).foldl swapA b) (by rw [foldSwap_size]; exact hb) hk1 hk2 (by rw [foldSwap_size]; exact hkm) (curV_buf hcv fun _ => ((hbuf (ne_nil_of_get hk)).mono fun p hp => .tail _ hp)) ?_)
    intro h2 tk2 t2 F2 N2
    k_steps
    refine wpC_of (wpAny_execs_nil ⟨rfl, _, _, _, rfl, by assumption, by assumption, _, _, ?_, map_j⟩)
    rw [Nat.succ_sub hge]
    exact CurV.step hk
  · rintro _ hh1 tk1 ⟨cv, oe, hcv, rfl⟩ Fi Ni
    refine execsC_cons (wpC_of ?_)
    k_steps
    refine hR _ _ _ ?_ (by assumption) (by assumption)
    have hlen := hints.length
    simp only [List.length_map] at hlen
    simpa [hlen] using hcv
theorem rd_missing {w : World} {A A₀ : Around} {s : Shared} {L : Addr} {h₀ base : Heap} {m mg mb : Str → Option Value} {news : List (Addr × Obj)} {mean : ExcName → Option Value} {env : Env} {outer : List Env} {R : Result → Shared → Prop}
    {l : Addr} {oL : Obj} {vs : List Value} {ka : Addr} {b : Array UInt8} {ws : List Nat} :
    (hd.heap_39 w.params).In h₀ → Below A₀ base outer h₀ → Fr h₀ L s.heap m → News h₀ L s.heap news → Top hd.view_39 (looseW hd.view_39 [Str.ofString "_initial_missing", Str.ofString "reduce"]) mean mg mb h₀ → A.frames = some (env :: outer) → env.frame = some L → env.scope.kind = .function →
    A.depth + 10 < recursionLimit → A.handled = none → A.guards = some [] → (l, oL) ∈ news → IsLst oL (.ref ka :: vs) → IntsAre vs (ws.map fun k : Nat => (k : Int)) →
    (ka, baObj b) ∈ news → b.size ≤ 65536 → (∀ k ∈ ws, 1 ≤ k ∧ k ≤ 65536 ∧ b.size % k = 0) →
    (∀ h' tk v, CurV (.ref ka) b ws ws.length v → Fr h₀ L h' m → News h₀ L h' news → R (.ok (.ret v)) { s with heap := h', toks := tk }) →
    codeC (model PySem.Challenge.rw_mr0035_01.row.prog w) A (.call (.ref 23) ⟨[.ref 30, .ref l], []⟩) R s := by
  k_fill
  intro X₀ B F N T hA hf hke hroom hh hg hl hL hints hka hb hws hR
  refine' codeC_def B F X₀ N T hA hf hke ?k6 ?k7 ?kr ?k9 ?kB ?_ ?c2 ?c3 ?c4 ?c5
  case k6 => k_is
  case k7 => k_is
  case kr => omega
  case k9 => first | exact BindsTo.of_eq rfl | exact binds_K (by k_in) rfl (by k_is) rfl rfl rfl
  case c5 => decide
  case kB => exact locs rfl
  case c2 => exact rfl
  case c3 => exact rfl
  case c4 => exact rfl
  intro g' L' h' FG' F' N' B' X' T' lt'
  dsimp only
  refine execsC_cons (wpC_of ?_)
  w_on
  k_steps
  refine iter_listK F' N' hl hL fun I oI hI hoI FI NI ltI => ?_
  k_steps
  refine execsC_cons (wpC_of ?_)
  k_steps
  refine next_liK (by assumption) (by assumption) hoI (fun p hp => Nat.ne_of_lt (ltI p hp)) hl hL rfl ?_
  intro oI1 hN1 hoI1 FN1 NN1
  k_steps
  refine execsC_cons (ForC ?_)
  k_steps
  refine wpAny_pyIter_listiter (hoI1.at (News.get (by assumption) (.head _))) ?_
  refine codeC_for_li (rest := news) (fun i m => ∃ v oe, CurV (.ref ka) b ws (i - 1) v ∧ m = fun y => if y = Str.ofString "value" then some v else if y = Str.ofString "element" then oe else if y = Str.ofString "it" then some (Value.ref I) else
      List.lookup y [(Str.ofString "initial", Value.ref 15), (Str.ofString "sequence", Value.ref l), (Str.ofString "function", Value.ref 30)]) hh rfl rfl (by assumption) (by assumption) hoI1 hl hL (fun p hp => Nat.ne_of_lt (ltI p hp)) (by simp) ⟨.ref ka, none, .inl ⟨by simp, rfl⟩, map_val rfl⟩ ?_ ?_
  · rintro i v _ oI' hh1 tk1 hv hge ⟨cv, oe, hcv, rfl⟩ hoI' Fi Ni
    rw [map_i (by decide)] at Fi
    obtain ⟨k, tv, hk, rfl⟩ := ints_nat (i := i - 1) hints (by cases i with | zero => omega | succ n => simpa using hv)
    obtain ⟨hk1, hk2, hkm⟩ := hws k (List.mem_of_getElem? hk)
    refine execsC_cons (AssignC (CallC ?_))
    k_steps
    refine callWithC_K (K := (hd.heap_39 w.params)) (by k_is) ?_
    k_steps
    refine wpC_call (bs_any X' B' Fi Ni T' (Around.frames_deeper B'.stack) rfl rfl (by show A.depth + 1 < recursionLimit; omega) hh hg (b := (ws.take (i - 1)).foldl swapA b) (by rw [foldSwap_size]; exact hb) hk1 hk2 (by rw [foldSwap_size]; exact hkm) (curV_buf hcv fun _ => (.inr ⟨ka, rfl, .tail _ hka⟩)) ?_)
    intro h2 tk2 t2 F2 N2
    k_steps
    refine wpC_of (wpAny_execs_nil ⟨rfl, _, _, _, rfl, by assumption, by assumption, _, _, ?_, map_j⟩)
    rw [Nat.succ_sub hge]
    exact CurV.step hk
  · rintro _ hh1 tk1 ⟨cv, oe, hcv, rfl⟩ Fi Ni
    refine execsC_cons (wpC_of ?_)
    k_steps
    refine hR _ _ _ ?_ (by assumption) (by assumption)
    have hlen := hints.length
    simp only [List.length_map] at hlen
    simpa [hlen] using hcv
end Mine
end

section
open PySem PySem.W PyProof.Rows PySem.Calls
set_option Elab.async false
set_option maxRecDepth 100000
namespace Mine
set_option pp.deepTerms false
set_option pp.deepTerms.threshold 4
set_option pp.proofs false
set_option maxHeartbeats 4000000
theorem rd_bad {w : World} {A A₀ : Around} {s : Shared} {L : Addr} {h₀ base : Heap} {m mg mb : Str → Option Value} {rest : List (Addr × Obj)} {mean : ExcName → Option Value} {env : Env} {outer : List Env} {R : Result → Shared → Prop}
    {l I : Addr} {oL oI : Obj} {items : List Value} {b : Array UInt8} {u : Tok} {ws : List Nat} {n x : Nat} :
    (hd.heap_39 w.params).In h₀ → Below A₀ base outer h₀ → Fr h₀ L s.heap m → News h₀ L s.heap ((I, oI) :: rest) → Top hd.view_39 (looseW hd.view_39 [Str.ofString "_initial_missing", Str.ofString "reduce"]) mean mg mb h₀ → A.frames = some (env :: outer) → env.frame = some L → env.scope.kind = .function →
    A.depth + 10 < recursionLimit → A.handled = none → A.guards = some [] → IsLI oI l 0 → (∀ p ∈ rest, p.1 ≠ I) → (l, oL) ∈ rest → IsLst oL items → IntsAre items (ws.map fun k : Nat => (k : Int)) →
    b.size ≤ 65536 → (∀ i k, i < n → ws[i]? = some k → 1 ≤ k ∧ k ≤ 65536 ∧ b.size % k = 0) → ws[n]? = some x → 1 ≤ x → x ≤ 65536 → b.size % x ≠ 0 →
    (∀ g₂ h' tk e oI', IsLI oI' l (n + 1) → Fr h₀ L g₂ m → g₂.UpToSlots h' → RaisedN base (env :: outer) e (.type "IndexError") ((I, oI') :: rest) h' → NoCtx e h' → R (.error (.ref e)) { s with heap := h', toks := tk }) →
    codeC (model PySem.Challenge.rw_mr0035_01.row.prog w) A (.call (.ref 23) ⟨[.ref 30, .ref I, .bytes b u], []⟩) R s := by
  k_fill
  intro X₀ B F N T hA hf hke hroom hh hg hoI hoff hl hL hints hb hws hx hx1 hx2 hxm hR
  refine' codeC_def B F X₀ N T hA hf hke ?k6 ?k7 ?kr ?k9 ?kB ?_ ?c2 ?c3 ?c4 ?c5
  case k6 => k_is
  case k7 => k_is
  case kr => omega
  case k9 => first | exact BindsTo.of_eq rfl | exact binds_K (by k_in) rfl (by k_is) rfl rfl rfl
  case c5 => decide
  case kB => exact locs rfl
  case c2 => exact rfl
  case c3 => exact rfl
  case c4 => exact rfl
  intro g' L' h' FG' F' N' B' X' T' lt'
  dsimp only
  refine execsC_cons (wpC_of ?_)
  w_on
  k_steps
  refine call_iter_li (hoI.at (News.get N' (.head _))) ?_
  k_steps
  refine execsC_cons (wpC_of ?_)
  k_steps
  have h15 : (hd.heap_39 w.params).lookup 15 = some { cls := .type "object" } := by k_is
  refine is_off ((X'.keeps (Fr.keep (by assumption))) _ _ h15) rfl ?_ ?_
  · exact .inr (.inl ⟨b, u, rfl⟩)
  k_steps
  refine execsC_cons (ForC ?_)
  k_steps
  refine wpAny_pyIter_listiter (hoI.at (News.get (by assumption) (.head _))) ?_
  refine codeC_for_li (rest := rest) (fun i m => i ≤ n ∧ ∃ v oe, CurV (.bytes b u) b ws (i - 0) v ∧ m = fun y => if y = Str.ofString "value" then some v else if y = Str.ofString "element" then oe else if y = Str.ofString "it" then some (Value.ref I) else
      List.lookup y [(Str.ofString "initial", Value.bytes b u), (Str.ofString "sequence", Value.ref I), (Str.ofString "function", Value.ref 30)]) hh rfl rfl (by assumption) (by assumption) hoI hl hL hoff (Nat.zero_le _) ⟨Nat.zero_le _, (.bytes b u), none, .inl ⟨by simp, rfl⟩, map_val rfl⟩ ?_ ?_
  · rintro i v _ oI' hh1 tk1 hv hge ⟨hin, cv, oe, hcv, rfl⟩ hoI' Fi Ni
    rw [map_i (by decide)] at Fi
    obtain ⟨k, tv, hk, rfl⟩ := ints_nat hints hv
    obtain ⟨u', rfl⟩ : ∃ u', cv = .bytes ((ws.take (i - 0)).foldl swapA b) u' := by
      rcases hcv with ⟨h1, rfl⟩ | ⟨_, t, rfl⟩
      · exact ⟨u, by rw [h1]; rfl⟩
      · exact ⟨t, rfl⟩
    refine execsC_cons (AssignC (CallC ?_))
    k_steps
    refine callWithC_K (K := (hd.heap_39 w.params)) (by k_is) ?_
    k_steps
    by_cases hlt : i < n
    · obtain ⟨hk1, hk2, hkm⟩ := hws i k hlt hk
      refine wpC_call (bs_any X' B' Fi Ni T' (Around.frames_deeper B'.stack) rfl rfl (by show A.depth + 1 < recursionLimit; omega) hh hg (b := (ws.take (i - 0)).foldl swapA b) (by rw [foldSwap_size]; exact hb) hk1 hk2 (by rw [foldSwap_size]; exact hkm) (.inl ⟨_, rfl⟩) ?_)
      intro h2 tk2 t2 F2 N2
      k_steps
      refine wpC_of (wpAny_execs_nil ⟨rfl, _, _, _, rfl, by assumption, by assumption, hlt, _, _, ?_, map_j⟩)
      rw [Nat.succ_sub hge]
      exact CurV.step hk
    · have hie : i = n := by omega
      subst hie
      rw [hx] at hk
      obtain rfl := Option.some.inj hk
      refine wpC_call (bs_bad X' B' Fi Ni T' (Around.frames_deeper B'.stack) rfl rfl (by show A.depth + 1 < recursionLimit; omega) hh hg (b := (ws.take (i - 0)).foldl swapA b) (by rw [foldSwap_size]; exact hb) hx1 hx2 (by rw [foldSwap_size]; exact hxm) ?_)
      intro g2 h2 tk2 e2 F2 sm2 R2 hn2
      refine PassesOwn.leaving _ _ ?_
      refine leave_onC B' F2 R2 sm2 hn2 fun h3 R3 sm3 hn3 => ?_
      exact hR g' _ _ _ oI' hoI' FG' sm3 R3 hn3
  · rintro _ hh1 tk1 ⟨hin, cv, oe, hcv, rfl⟩ Fi Ni
    exfalso
    have hlen := hints.length
    simp only [List.length_map] at hlen
    have := (List.getElem?_eq_some_iff.mp hx).1
    omega
end Mine
end

section
open PySem PySem.W PyProof.Rows PySem.Calls PySem.Spec
set_option Elab.async false
set_option maxRecDepth 100000
namespace Mine
/-- law's def as the row bears it -/
def lawBody : List Stmt := match PySem.Challenge.pw_mr0035_01.main.body.getD 8 (.Pass default) with
  | .FunctionDef _ _ b _ _ _ _ _ _ _ => b
  | _ => []
def lawScope : Scope := match PySem.Challenge.pw_mr0035_01.main.body.getD 8 (.Pass default) with
  | .FunctionDef _ _ _ _ _ _ sc _ _ _ => sc
  | _ => default
def lawEnv (L fa : Addr) (cd : Value) : Env := envOfC (Str.ofString "law") lawScope L fa cd
/-- what law's body is to end in -/
def LawQ (h₀ : Heap) (g : Array GenState) (os : OsState) (f : Flow) (s' : Shared) : Prop := f = .ret (.bool true) ∧ s'.gens = g ∧ s'.os = os ∧ h₀.StaysIn s'.heap
end Mine
end

section
open PySem PySem.W PyProof.Rows PySem.Calls
set_option Elab.async false
set_option maxRecDepth 100000
namespace Mine
section
variable {prog : Program} {w : World} {A A₀ : Around} {s : Shared} {K : Frag} {L : Addr} {h₀ base : Heap} {m mg mb : Str → Option Value} {news : List (Addr × Obj)} {p : Program} {loose : List Str} {mean : ExcName → Option Value}
/-- a call of a def that changes nothing of the caller's: all that stands is its ground -/
theorem code_def0 {env : Env} {outer : List Env} {R : Result → Shared → Prop} {name qual : Str} {params : Arguments} {body : List Stmt} {scope : Scope} {dV kV doc pm cdv ct oc : Value} {an od : Option Addr} {osl : Array (Option Value)} {f : Addr} {args : Args} {binds : List (Str × Value)}
    (B : Below A₀ base outer h₀) (F : Fr h₀ L s.heap m) (X₀ : K.In h₀) (N : News h₀ L s.heap news) (T : Top p loose mean mg mb h₀) (hA : A.frames = some (env :: outer)) (hf : env.frame = some L) (hke : env.scope.kind = .function)
    (ho : K.lookup f = some ⟨oc, od, .func (fnOf name qual params body scope dV kV doc pm an cdv ct), osl⟩) (hcd : codeIn K cdv qual = true) (hroom : A.depth < recursionLimit)
    (hbind : BindsTo s (fnOf name qual params body scope dV kV doc pm an cdv ct) args binds) (hloc : ∀ y ∈ binds, scope.names.lookup y.1 = some .local)
    (h : ∀ L' h₁, L' = s.heap.objs.size → Fr s.heap L' h₁ (fun y => binds.reverse.lookup y) → News s.heap L' h₁ [] → Below A base (env :: outer) s.heap → K.In s.heap → Top p loose mean mg mb s.heap →
      wpAny (model prog w) (A.deeper (envOf qual scope L' f cdv)) (execs body (envOf qual scope L' f cdv))
        (fun fl s' => Stop (∃ h' tk L'' m'' new, s' = { s with heap := h', toks := tk } ∧ Fr s.heap L'' h' m'' ∧ News s.heap L'' h' new ∧
          (Fr h₀ L h' m → News h₀ L h' (new ++ news) → (∀ p ∈ new, ∀ q ∈ news, p.1 ≠ q.1) → R (.ok (.ret (match fl with | .ret v => v | _ => .none))) { s with heap := h', toks := tk })))
        (fun _ _ => False) { s with heap := h₁, toks := s.toks + binds.length })
    (hco : scope.isCoroutine = false) (hgen : scope.isGenerator = false) (hk : scope.kind = .function)
    (hcell : ∀ x ∈ scope.names, x.2 ≠ .cell) : codeAny (model prog w) A (.call (.ref f) args) R s := by
  have X := X₀.keeps F.keep
  have hk0 : h₀.StaysIn s.heap := F.keep
  refine codeAny_call_def (fd := fnOf name qual params body scope dV kV doc pm an cdv ct) (body := body) (binds := binds) hroom (X _ _ ho) rfl (T.nolimit.keeps F.keep) (codeRec_of X hcd) rfl hbind hcell hloc (fun h₁ hns hk₁ => ?_) hco hgen hk
  have B₁ : Below A base (env :: outer) s.heap := ⟨hA, fun b o e => hk0 b o (B.stays b o e), (pushX B F hf hke).frames⟩
  refine wpAny_mono (h _ h₁ rfl ⟨hns, hk₁, Nat.le_refl _⟩ News.nil B₁ X (T.keeps F.keep)) (fun fl s' hl => ?_) fun _ _ y => y.elim
  obtain ⟨h', tk, L'', m'', new, rfl, F', N', k⟩ := hl
  have hF : Fr h₀ L h' m := ⟨F.ns.at' fun o e => F'.keep _ o e, fun b o e => F'.keep b o (F.keep b o e), F.above⟩
  refine k hF (fun p hp => ?_) fun p hp q hq => ?_
  · rcases List.mem_append.mp hp with hp | hp
    · refine ⟨(N' p hp).1, fun e => ?_, ?_⟩
      · obtain ⟨oL, _, _, hoL, _⟩ := F.ns
        have := (N' p hp).2.2
        rw [e, hoL] at this; cases this
      · cases q : h₀.get? p.1 with
        | none => rfl
        | some o => have := (N' p hp).2.2; rw [F.keep _ _ q] at this; cases this
    · exact ⟨F'.keep _ _ (N p hp).1, (N p hp).2⟩
  · intro e
    have h1 := (N' p hp).2.2
    rw [e, (N q hq).1] at h1
    cases h1
end
end Mine
end

section
open PySem PySem.W PyProof.Rows PySem.Calls
set_option Elab.async false
set_option maxRecDepth 100000
namespace Mine
set_option pp.deepTerms false
set_option pp.deepTerms.threshold 6
set_option pp.proofs false
set_option maxHeartbeats 8000000
local macro_rules | `(tactic| walk_at "call builtin:list.append") => `(tactic| ((refine' append_K ?k1 ?k2 ?k3 ?_ ?z); (case k1 => k_asm); (case k2 => k_asm); (case k3 => k_upd); (case z => size_fits); intro hA' FA' NA'; (try k_sweep)))
theorem radix (x : Int) : ∃ r : Nat, (r = 2 ∨ r = 3) ∧ 2 + x.fmod 2 = (r : Int) := by
  have h1 := Int.fmod_nonneg_of_pos x (show (0 : Int) < 2 by decide)
  have h2 := Int.fmod_lt_of_pos x (show (0 : Int) < 2 by decide)
  refine ⟨(2 + x.fmod 2).toNat, by omega, by omega⟩
theorem wd_code {w : World} {s : Shared} {L fa : Addr} {cd : Value} {h₀ : Heap} {m mg mb : Str → Option Value} {news : List (Addr × Obj)} {mean : ExcName → Option Value} {R : Result → Shared → Prop}
    {n : Int} {t : Tok} :
    (hd.heap_39 w.params).In h₀ → Below callerA h₀ [] h₀ → Fr h₀ L s.heap m → News h₀ L s.heap news → Top hd.view_39 (looseW hd.view_39 [Str.ofString "_initial_missing", Str.ofString "reduce"]) mean mg mb h₀ →
    (∀ D h' tk (r1 r2 r3 : Nat) t0 t1 t2 t3, (r1 = 2 ∨ r1 = 3) → (r2 = 2 ∨ r2 = 3) → (r3 = 2 ∨ r3 = 3) → Fr h₀ L h' m →
      News h₀ L h' ((D, W.listOf #[.int 1 t0, .int (r1 : Nat) t1, .int (r1 * r2 : Nat) t2, .int (r1 * r2 * r3 : Nat) t3] 3) :: news) → (∀ q ∈ news, D ≠ q.1) → R (.ok (.ret (.ref D))) { s with heap := h', toks := tk }) →
    codeAny (model PySem.Challenge.rw_mr0035_01.row.prog w) (callerA.deeper (lawEnv L fa cd)) (.call (.ref 37) ⟨[.int n t], []⟩) R s := by
  k_fill
  intro X₀ B F N T hR
  refine' code_def0 B F X₀ N T (env := lawEnv L fa cd) rfl rfl rfl ?k6 ?k7 ?kr ?k9 ?kB ?_ ?c2 ?c3 ?c4 ?c5
  case k6 => k_is
  case k7 => k_is
  case kr => k_room
  case k9 => exact BindsTo.of_eq rfl
  case c5 => decide
  case kB => exact locs rfl
  case c2 => exact rfl
  case c3 => exact rfl
  case c4 => exact rfl
  intro L' h' eL F' N' B' X' T'
  clear N F X₀ T B
  dsimp only
  w_on
  k_steps
  refine Stop.go ⟨_, _, _, _, _, rfl, by assumption, by assumption, fun hF hN hne => ?_⟩
  obtain ⟨r1, hr1, e1⟩ := radix n
  obtain ⟨r2, hr2, e2⟩ := radix (n.fdiv 2)
  obtain ⟨r3, hr3, e3⟩ := radix ((n.fdiv 2).fdiv 2)
  rw [e1, e2, e3] at hN
  have z1 : (1 : Int) * (r1 : Int) = (r1 : Nat) := by omega
  have z2 : ((r1 : Nat) : Int) * (r2 : Int) = ((r1 * r2 : Nat) : Int) := by push_cast; rfl
  have z3 : ((r1 * r2 : Nat) : Int) * (r3 : Int) = ((r1 * r2 * r3 : Nat) : Int) := by push_cast; rfl
  replace hN : News h₀ L _ ((_, W.listOf #[.int 1 _, .int (1 * (r1 : Int)) _, .int (1 * (r1 : Int) * (r2 : Int)) _, .int (1 * (r1 : Int) * (r2 : Int) * (r3 : Int)) _] 3) :: news) := hN
  rw [z1, z2, z3] at hN
  exact hR _ _ _ r1 r2 r3 _ _ _ _ hr1 hr2 hr3 hF hN (hne _ (.head _))
end Mine
end

section
open PySem PySem.W PyProof.Rows PySem.Calls
set_option Elab.async false
set_option maxRecDepth 100000
namespace Mine
set_option pp.deepTerms false
set_option pp.deepTerms.threshold 6
set_option pp.proofs false
set_option maxHeartbeats 2000000
theorem execsStop {M : Model} {A : Around} {E : Value → Shared → Prop} {s : Shared} {env : Env} {st : Stmt} {rest : List Stmt} {Q : Flow → Shared → Prop}
    (h : wpAny M A (exec st env) (fun f s' => match f with | .next => Stop (wpAny M A (execs rest env) Q E s') | f => Q f s') E s) :
    wpAny M A (execs (st :: rest) env) Q E s := wpAny_execs_cons h
theorem AssignStop {M : Model} {A : Around} {E : Value → Shared → Prop} {s : Shared} {env : Env} {x pos' value pos} {Q : Flow → Shared → Prop}
    (h : wpAny M A (eval value env) (fun v s₁ => Stop (wpAny M A (storeName env x v) (fun _ => Q .next) E s₁)) E s)
    (hs : swapsWith value (some (.Name x pos')) pos.line env = pure false := by rfl) :
    wpAny M A (exec (.Assign [.Name x pos'] value pos) env) Q E s := wpAny_Assign_Name h hs
theorem store_int {M : Model} {A : Around} {E : Value → Shared → Prop} {s : Shared} {env : Env} {x : Str} {X : Int} {t : Tok} {Q : Unit → Shared → Prop} (Y : Int) (e : X = Y)
    (h : wpAny M A (storeName env x (.int Y t)) Q E s) : wpAny M A (storeName env x (.int X t)) Q E s := by rw [e]; exact h
theorem BinOpStop {M : Model} {A : Around} {E : Value → Shared → Prop} {s : Shared} {env : Env} {l op r pos} {Q : Value → Shared → Prop}
    (h : wpAny M A (eval l env) (fun a s₁ => Stop (wpAny M A (eval r env) (fun b s₂ => Stop (wpAny M A (binaryOp op a b) Q E s₂)) E s₁)) E s) :
    wpAny M A (eval (.BinOp l op r pos) env) Q E s := wpAny_BinOp h
theorem AugStop {M : Model} {A : Around} {E : Value → Shared → Prop} {s : Shared} {env : Env} {x pos' op value pos} {Q : Flow → Shared → Prop}
    (h : wpAny M A (loadName env x) (fun old s₁ => wpAny M A (eval value env) (fun v s₂ => wpAny M A (inplaceOp op old v)
      (fun r s₃ => Stop (wpAny M A (storeName env x r) (fun _ => Q .next) E s₃)) E s₂) E s₁) E s) :
    wpAny M A (exec (.AugAssign (.Name x pos') op value pos) env) Q E s := wpAny_AugAssign_Name h
theorem item_at {prog : Program} {w : World} {A : Around} {E : Value → Shared → Prop} {s : Shared} {value slice : Expr} {l : Addr} {vs : List Value} {k : Int} {u : Tok} {v : Value} {Q : Value → Shared → Prop}
    (hl : s.heap.IsList l vs.toArray) (h0 : 0 ≤ k) (hhi : k < 2 ^ 63) (hx : vs[k.toNat]? = some v) (h : Q v s)
    (hs : subscripted slice false (.ref l) (.int k u) = operate [.ref l, .int k u] (getItem (.ref l) (.int k u)) := by with_unfolding_all rfl) :
    wpAny (model prog w) A (subscriptTail value slice (.ref l) (.int k u)) Q E s :=
  tail_any hl.typeIs slot_list_getitem.lookup (wpAny_getItem_list hl h0 hhi (by simpa using hx) h) hs
/-- the place a digit-wise turn takes a byte from -/
def dig (wd r p : Nat) : Nat := p / wd % r
def flip (b : Bool) (r d : Nat) : Nat := if b then r - 1 - d else d
def srcN (r1 r2 r3 : Nat) (o0 o1 o2 : Bool) (p : Nat) : Nat :=
  p - p % (r1 * r2 * r3) + 1 * flip o0 r1 (dig 1 r1 p) + r1 * flip o1 r2 (dig r1 r2 p) + r1 * r2 * flip o2 r3 (dig (r1 * r2) r3 p)
theorem map4 {m : Str → Option Value} {a b c : Str} (ha : m a = none) (hb : m b = none) (hc : m c = none) : m = fun z => if z = a then none else if z = b then none else if z = c then none else m z := by
  funext z
  by_cases h1 : z = a
  · rw [if_pos h1, h1, ha]
  · rw [if_neg h1]
    by_cases h2 : z = b
    · rw [if_pos h2, h2, hb]
    · rw [if_neg h2]
      by_cases h3 : z = c
      · rw [if_pos h3, h3, hc]
      · rw [if_neg h3]
theorem map_c {m : Str → Option Value} {a b c : Str} {v x y u : Option Value} (h1 : c ≠ a) (h2 : c ≠ b) : (fun z => if z = c then v else (fun z => if z = a then x else if z = b then y else if z = c then u else m z) z) = fun z => if z = a then x else if z = b then y else if z = c then v else m z := by
  funext z
  by_cases h : z = c
  · subst h; simp [h1, h2]
  · simp [h]
theorem map_end {m : Str → Option Value} {a b c d : Str} {vd va vb x y u s : Option Value} (h1 : d ≠ a) (h2 : d ≠ b) (h3 : d ≠ c) (h4 : a ≠ b) :
    (fun z => if z = d then vd else if z = a then va else if z = b then vb else (fun z => if z = a then x else if z = b then y else if z = c then u else if z = d then s else m z) z) = fun z => if z = a then va else if z = b then vb else if z = c then u else if z = d then vd else m z := by
  funext z
  by_cases h : z = d
  · subst h; simp [h1, h2, h3]
  · by_cases h' : z = a
    · subst h'; simp [h]
    · by_cases h'' : z = b
      · subst h''; simp [h, h']
      · simp [h, h', h'']
theorem rad0 (r : Nat) : Int.fdiv (r : Int) 1 = (r : Int) := by simp
theorem rad1 {a r : Nat} (ha : 0 < a) : Int.fdiv ((a * r : Nat) : Int) (a : Int) = (r : Int) := by
  rw [Int.fdiv_eq_ediv_of_nonneg _ (by omega)]
  exact_mod_cast congrArg (Nat.cast : Nat → Int) (Nat.mul_div_cancel_left r ha)
theorem fig_nat (p a r : Nat) : ((p : Int).fdiv (a : Int)).fmod (r : Int) = ((dig a r p : Nat) : Int) := by
  rw [Int.fdiv_eq_ediv_of_nonneg _ (by omega), Int.fmod_eq_emod_of_nonneg _ (by omega)]
  rfl
theorem src_start (p a : Nat) : (p : Int) - (p : Int).fmod (a : Int) = ((p - p % a : Nat) : Int) := by
  rw [Int.fmod_eq_emod_of_nonneg _ (by omega)]
  have := Nat.mod_le p a
  push_cast [this]
  rfl
theorem dig_lt {a r p : Nat} (hr : 0 < r) : dig a r p < r := Nat.mod_lt _ hr
theorem src_step (S a r d : Nat) (b : Bool) (hd : d < r) : (S : Int) + (a : Int) * (if b then (r : Int) - 1 - (d : Int) else (d : Int)) = ((S + a * flip b r d : Nat) : Int) := by
  cases b with
  | false => simp [flip]
  | true =>
    have e : ((r - 1 - d : Nat) : Int) = (r : Int) - 1 - (d : Int) := by omega
    simp only [flip, if_true]
    rw [← e]
    push_cast
    rfl
theorem src_code {w : World} {s : Shared} {L fa : Addr} {cd : Value} {h₀ : Heap} {m mg mb : Str → Option Value} {news : List (Addr × Obj)} {mean : ExcName → Option Value} {R : Result → Shared → Prop}
    {p r1 r2 r3 : Nat} {t t0 t1 t2 t3 : Tok} {aW aO : Addr} {eW eO : Nat} {o0 o1 o2 : Bool} :
    (hd.heap_39 w.params).In h₀ → Below callerA h₀ [] h₀ → Fr h₀ L s.heap m → News h₀ L s.heap news → Top hd.view_39 (looseW hd.view_39 [Str.ofString "_initial_missing", Str.ofString "reduce"]) mean mg mb h₀ → p < 65536 →
    (r1 = 2 ∨ r1 = 3) → (r2 = 2 ∨ r2 = 3) → (r3 = 2 ∨ r3 = 3) →
    (aW, W.listOf #[.int 1 t0, .int (r1 : Nat) t1, .int (r1 * r2 : Nat) t2, .int (r1 * r2 * r3 : Nat) t3] eW) ∈ news → (aO, W.listOf #[.bool o0, .bool o1, .bool o2, .bool false] eO) ∈ news →
    (∀ h' tk t', Fr h₀ L h' m → News h₀ L h' news → R (.ok (.ret (.int (srcN r1 r2 r3 o0 o1 o2 p : Nat) t'))) { s with heap := h', toks := tk }) →
    codeAny (model PySem.Challenge.rw_mr0035_01.row.prog w) (callerA.deeper (lawEnv L fa cd)) (.call (.ref 44) ⟨[.int p t, .ref aW, .ref aO], []⟩) R s := by
  k_fill
  intro X₀ B F N T hp hr1 hr2 hr3 hW hO hR
  have LW : s.heap.IsList aW [Value.int 1 t0, .int (r1 : Nat) t1, .int (r1 * r2 : Nat) t2, .int (r1 * r2 * r3 : Nat) t3].toArray := ⟨_, (N _ hW).1, rfl, _, rfl⟩
  have LO : s.heap.IsList aO [Value.bool o0, .bool o1, .bool o2, .bool false].toArray := ⟨_, (N _ hO).1, rfl, _, rfl⟩
  have IW : IntsAre [Value.int 1 t0, .int (r1 : Nat) t1, .int (r1 * r2 : Nat) t2, .int (r1 * r2 * r3 : Nat) t3] [1, (r1 : Nat), (r1 * r2 : Nat), (r1 * r2 * r3 : Nat)] := .cons _ _ (.cons _ _ (.cons _ _ (.cons _ _ .nil)))
  refine' code_def0 B F X₀ N T (env := lawEnv L fa cd) rfl rfl rfl ?k6 ?k7 ?kr ?k9 ?kB ?_ ?c2 ?c3 ?c4 ?c5
  case k6 => k_is
  case k7 => k_is
  case kr => k_room
  case k9 => exact BindsTo.of_eq rfl
  case c5 => decide
  case kB => exact locs rfl
  case c2 => exact rfl
  case c3 => exact rfl
  case c4 => exact rfl
  intro L' h' eL F' N' B' X' T'
  clear N F X₀ T B
  dsimp only
  have g3 : ((r1 * r2 * r3 : Nat) : Int) ≠ 0 := by
    have : 0 < r1 * r2 * r3 := Nat.mul_pos (Nat.mul_pos (by omega) (by omega)) (by omega)
    omega
  w_on
  have w0ne : ¬ (1 : Int) = 0 := by decide
  have w1ne : ¬ ((r1 : Nat) : Int) = 0 := by omega
  have w2ne : ¬ ((r1 * r2 : Nat) : Int) = 0 := by
    have : 0 < r1 * r2 := Nat.mul_pos (by omega) (by omega)
    omega
  have r0ne : ¬ ((r1 : Nat) : Int) = 0 := w1ne
  have r1ne : ¬ ((r2 : Nat) : Int) = 0 := by omega
  have r2ne : ¬ ((r3 : Nat) : Int) = 0 := by omega
  refine execsStop (AssignStop ?_)
  k_steps
  refine Stop.go (store_int _ (src_start p (r1 * r2 * r3)) ?_)
  k_steps
  refine Stop.go ?_
  refine execsStop ?_
  with_unfolding_all refine ForStop (by assumption) rfl rfl ?_
  k_steps
  refine Stop.go ?_
  refine krs_iter rfl (by assumption) (by decide) (rangeSize_nat _ _) (by assumption) (by assumption) fun I hI => ?_
  refine krs_all (fun k m news' => Stop (news' = [] ∧ ∃ ofig orad ok ts, m = fun y => if y = Str.ofString "figure" then ofig else if y = Str.ofString "radix" then orad else if y = Str.ofString "k" then ok else if y = Str.ofString "source" then some (Value.int ((if k = 0 then p - p % (r1 * r2 * r3) else if k = 1 then p - p % (r1 * r2 * r3) + 1 * flip o0 r1 (dig 1 r1 p) else if k = 2 then p - p % (r1 * r2 * r3) + 1 * flip o0 r1 (dig 1 r1 p) + r1 * flip o1 r2 (dig r1 r2 p) else srcN r1 r2 r3 o0 o1 o2 p : Nat) : Int) ts) else
      List.lookup y [(Str.ofString "odd", Value.ref aO), (Str.ofString "widths", Value.ref aW), (Str.ofString "place", Value.int p t)])) ?_ ?_ ?_
  · exact ⟨rfl, none, none, none, _, map4 rfl rfl rfl⟩
  · rintro k _ _ hk ⟨rfl, ofig, orad, ok, ts, rfl⟩ tk0 hh1 tk1 F1 N1
    rw [map_c (by decide) (by decide)] at F1
    have hd0 : dig 1 r1 p < r1 := dig_lt (by omega)
    have hd1 : dig r1 r2 p < r2 := dig_lt (by omega)
    have hd2 : dig (r1 * r2) r3 p < r3 := dig_lt (by omega)
    obtain rfl | rfl | rfl : k = 0 ∨ k = 1 ∨ k = 2 := by omega
    · refine execsStop (AssignStop ?_)
      k_steps
      · exact absurd (by assumption) w0ne
      refine Stop.go (store_int _ (rad0 r1) ?_)
      k_steps
      refine Stop.go ?_
      refine execsStop (AssignStop ?_)
      k_steps
      refine Stop.go (store_int _ (fig_nat p 1 r1) ?_)
      k_steps
      refine Stop.go ?_
      refine wpAny_execs_cons (AugStop (ldn (by assumption) rfl ?_))
      refine BinOpStop ?_
      k_steps
      refine Stop.go (IfExp_ (isTrue_plain ?_))
      refine Subscript_ (ld (by assumption) rfl (ld (by assumption) rfl ?_))
      refine item_at (v := .bool o0) (LO.at fun o e => Fr.keep (by assumption) _ o e) (by decide) (by decide) rfl (wpAny_truthy_bool ?_)
      cases o0
      · refine (show wpAny _ _ (eval (Expr.Name _ _) _) _ _ _ from ?_)
        k_steps
        refine Stop.go ?_
        refine PyProof.Rows.mul_int ?_ (IntMulOk.of_right (intBits_le_64 (by omega) (by omega)))
        k_steps
        refine Stop.go (store_int _ (src_step (p - p % (r1 * r2 * r3)) 1 r1 (dig 1 r1 p) false (dig_lt (by omega))) ?_)
        k_steps
        exact Stop.go ⟨rfl, _, _, _, _, map_end (by decide) (by decide) (by decide) (by decide)⟩
      · refine (show wpAny _ _ (eval (Expr.BinOp _ _ _ _) _) _ _ _ from ?_)
        k_steps
        refine Stop.go ?_
        refine PyProof.Rows.mul_int ?_ (IntMulOk.of_right (intBits_le_64 (by omega) (by omega)))
        k_steps
        refine Stop.go (store_int _ (src_step (p - p % (r1 * r2 * r3)) 1 r1 (dig 1 r1 p) true (dig_lt (by omega))) ?_)
        k_steps
        exact Stop.go ⟨rfl, _, _, _, _, map_end (by decide) (by decide) (by decide) (by decide)⟩
    · refine execsStop (AssignStop ?_)
      k_steps
      · exact absurd (by assumption) w1ne
      refine Stop.go (store_int _ (rad1 (a := r1) (r := r2) (by omega)) ?_)
      k_steps
      refine Stop.go ?_
      refine execsStop (AssignStop ?_)
      k_steps
      refine Stop.go (store_int _ (fig_nat p r1 r2) ?_)
      k_steps
      refine Stop.go ?_
      refine wpAny_execs_cons (AugStop (ldn (by assumption) rfl ?_))
      refine BinOpStop ?_
      k_steps
      refine Stop.go (IfExp_ (isTrue_plain ?_))
      refine Subscript_ (ld (by assumption) rfl (ld (by assumption) rfl ?_))
      refine item_at (v := .bool o1) (LO.at fun o e => Fr.keep (by assumption) _ o e) (by decide) (by decide) rfl (wpAny_truthy_bool ?_)
      cases o1
      · refine (show wpAny _ _ (eval (Expr.Name _ _) _) _ _ _ from ?_)
        k_steps
        refine Stop.go ?_
        refine PyProof.Rows.mul_int ?_ (IntMulOk.of_right (intBits_le_64 (by omega) (by omega)))
        k_steps
        refine Stop.go (store_int _ (src_step (p - p % (r1 * r2 * r3) + 1 * flip o0 r1 (dig 1 r1 p)) r1 r2 (dig r1 r2 p) false (dig_lt (by omega))) ?_)
        k_steps
        exact Stop.go ⟨rfl, _, _, _, _, map_end (by decide) (by decide) (by decide) (by decide)⟩
      · refine (show wpAny _ _ (eval (Expr.BinOp _ _ _ _) _) _ _ _ from ?_)
        k_steps
        refine Stop.go ?_
        refine PyProof.Rows.mul_int ?_ (IntMulOk.of_right (intBits_le_64 (by omega) (by omega)))
        k_steps
        refine Stop.go (store_int _ (src_step (p - p % (r1 * r2 * r3) + 1 * flip o0 r1 (dig 1 r1 p)) r1 r2 (dig r1 r2 p) true (dig_lt (by omega))) ?_)
        k_steps
        exact Stop.go ⟨rfl, _, _, _, _, map_end (by decide) (by decide) (by decide) (by decide)⟩
    · refine execsStop (AssignStop ?_)
      k_steps
      · exact absurd (by assumption) w2ne
      refine Stop.go (store_int _ (rad1 (a := r1 * r2) (r := r3) (Nat.mul_pos (by omega) (by omega))) ?_)
      k_steps
      refine Stop.go ?_
      refine execsStop (AssignStop ?_)
      k_steps
      refine Stop.go (store_int _ (fig_nat p (r1 * r2) r3) ?_)
      k_steps
      refine Stop.go ?_
      refine wpAny_execs_cons (AugStop (ldn (by assumption) rfl ?_))
      refine BinOpStop ?_
      k_steps
      refine Stop.go (IfExp_ (isTrue_plain ?_))
      refine Subscript_ (ld (by assumption) rfl (ld (by assumption) rfl ?_))
      refine item_at (v := .bool o2) (LO.at fun o e => Fr.keep (by assumption) _ o e) (by decide) (by decide) rfl (wpAny_truthy_bool ?_)
      cases o2
      · refine (show wpAny _ _ (eval (Expr.Name _ _) _) _ _ _ from ?_)
        k_steps
        refine Stop.go ?_
        refine PyProof.Rows.mul_int ?_ (IntMulOk.of_right (intBits_le_64 (by omega) (by omega)))
        k_steps
        refine Stop.go (store_int _ (src_step (p - p % (r1 * r2 * r3) + 1 * flip o0 r1 (dig 1 r1 p) + r1 * flip o1 r2 (dig r1 r2 p)) (r1 * r2) r3 (dig (r1 * r2) r3 p) false (dig_lt (by omega))) ?_)
        k_steps
        exact Stop.go ⟨rfl, _, _, _, _, map_end (by decide) (by decide) (by decide) (by decide)⟩
      · refine (show wpAny _ _ (eval (Expr.BinOp _ _ _ _) _) _ _ _ from ?_)
        k_steps
        refine Stop.go ?_
        refine PyProof.Rows.mul_int ?_ (IntMulOk.of_right (intBits_le_64 (by omega) (by omega)))
        k_steps
        refine Stop.go (store_int _ (src_step (p - p % (r1 * r2 * r3) + 1 * flip o0 r1 (dig 1 r1 p) + r1 * flip o1 r2 (dig r1 r2 p)) (r1 * r2) r3 (dig (r1 * r2) r3 p) true (dig_lt (by omega))) ?_)
        k_steps
        exact Stop.go ⟨rfl, _, _, _, _, map_end (by decide) (by decide) (by decide) (by decide)⟩
  · rintro _ _ hh1 tk1 ⟨rfl, ofig, orad, ok, ts, rfl⟩ F1 N1
    refine Stop.go ?_
    k_steps
    refine Stop.go ⟨_, _, _, _, _, rfl, by assumption, by assumption, fun hF hN _ => ?_⟩
    exact hR _ _ _ hF hN
end Mine
end

section
open PySem PySem.W PyProof.Rows PySem.Calls
set_option Elab.async false
set_option maxRecDepth 100000
namespace Mine
set_option pp.deepTerms false
set_option pp.deepTerms.threshold 5
set_option pp.proofs false
set_option maxHeartbeats 4000000

theorem len_q (r g : Int) (hr : 0 ≤ r) : ∃ q : Nat, (q = 1 ∨ q = 2) ∧ r * ((g.fdiv 8).fmod 2 + 1) = ((r.toNat * q : Nat) : Int) := by
  have h1 := Int.fmod_nonneg_of_pos (g.fdiv 8) (show (0 : Int) < 2 by decide)
  have h2 := Int.fmod_lt_of_pos (g.fdiv 8) (show (0 : Int) < 2 by decide)
  refine ⟨((g.fdiv 8).fmod 2 + 1).toNat, by omega, ?_⟩
  rw [Int.natCast_mul, Int.toNat_of_nonneg hr, Int.toNat_of_nonneg (by omega)]
theorem store_intC {M : Model} {A : Around} {E : Value → Shared → Prop} {s : Shared} {env : Env} {x : Str} {X : Int} {t : Tok} {Q : Unit → Shared → Prop} (Y : Int) (e : X = Y)
    (h : wpAny M A (storeName env x (.int Y t)) Q E s) : wpAny M A (storeName env x (.int X t)) Q E s := by rw [e]; exact h
theorem AssignStopC {M : Model} {A : Around} {E : Value → Shared → Prop} {s : Shared} {env : Env} {x pos' value pos} {Q : Flow → Shared → Prop}
    (h : wpAny M A (eval value env) (fun v s₁ => Stop (wpAny M A (storeName env x v) (fun _ => Q .next) E s₁)) E s)
    (hs : swapsWith value (some (.Name x pos')) pos.line env = pure false := by rfl) :
    wpAny M A (exec (.Assign [.Name x pos'] value pos) env) Q E s := wpAny_Assign_Name h hs
theorem r_bounds {r1 r2 r3 q : Nat} (h1 : r1 = 2 ∨ r1 = 3) (h2 : r2 = 2 ∨ r2 = 3) (h3 : r3 = 2 ∨ r3 = 3) (hq : q = 1 ∨ q = 2) : 8 ≤ r1 * r2 * r3 * q ∧ r1 * r2 * r3 * q ≤ 54 := by
  rcases h1 with rfl | rfl <;> rcases h2 with rfl | rfl <;> rcases h3 with rfl | rfl <;> rcases hq with rfl | rfl <;> decide
theorem law_c2 {w : World} {s : Shared} {L fa : Nat} {cd : Value} {h₀ : Heap} {m₀ mg mb : Str → Option Value} {mean : ExcName → Option Value} {oN oH oW oL oS oO : Obj} {aN : Nat} {n0 n1 n2 n3 n4 n5 : Int} {t0 t1 t2 t3 t4 t5 : Tok} {eN : Nat} :
    (hd.heap_39 w.params).In h₀ → Below callerA h₀ [] h₀ → Top hd.view_39 (looseW hd.view_39 [Str.ofString "_initial_missing", Str.ofString "reduce"]) mean mg mb h₀ → @LT.lt Nat _ (L + 1 + 1 + 1 + 1 + 1 + 1) aN →
    Fr h₀ L s.heap m₀ → News h₀ L s.heap [(aN, W.listOf #[.int n0 t0, .int n1 t1, .int n2 t2, .int n3 t3, .int n4 t4, .int n5 t5] eN), (L + 1 + 1 + 1 + 1 + 1 + 1, oO), (L + 1 + 1 + 1 + 1 + 1, oS), (L + 1 + 1 + 1 + 1, oL), (L + 1 + 1 + 1, oW), (L + 1 + 1, oH), (L + 1, oN)] →
    oN.data = .cell (some (.ref aN)) → oH.data = .cell none → oW.data = .cell none → oL.data = .cell none → oS.data = .cell none → oO.data = .cell none →
    (∀ (g : Int) (tg tl : Tok) (aW r1 r2 r3 q len : Nat) u0 u1 u2 u3 hh tk (oH oW oL : Obj), (r1 = 2 ∨ r1 = 3) → (r2 = 2 ∨ r2 = 3) → (r3 = 2 ∨ r3 = 3) → (q = 1 ∨ q = 2) → len = r1 * r2 * r3 * q → 8 ≤ len → len ≤ 54 →
      @Ne Nat aW (L + 1 + 1 + 1 + 1 + 1) → @Ne Nat aW (L + 1 + 1 + 1 + 1 + 1 + 1) →
      Fr h₀ L hh m₀ → News h₀ L hh [(aW, W.listOf #[.int 1 u0, .int (r1 : Nat) u1, .int (r1 * r2 : Nat) u2, .int (r1 * r2 * r3 : Nat) u3] 3), (aN, W.listOf #[.int n0 t0, .int n1 t1, .int n2 t2, .int n3 t3, .int n4 t4, .int n5 t5] eN), (L + 1 + 1 + 1 + 1 + 1 + 1, oO), (L + 1 + 1 + 1 + 1 + 1, oS), (L + 1 + 1 + 1 + 1, oL), (L + 1 + 1 + 1, oW), (L + 1 + 1, oH), (L + 1, oN)] →
      oH.data = .cell (some (.int g tg)) → oW.data = .cell (some (.ref aW)) → oL.data = .cell (some (.int (len : Nat) tl)) →
      wpC (model PySem.Challenge.rw_mr0035_01.row.prog w) (callerA.deeper (lawEnv L fa cd)) (execs (lawBody.drop 4) (lawEnv L fa cd)) (LawQ h₀ s.gens s.os) (fun _ _ => False) { s with heap := hh, toks := tk }) →
    wpC (model PySem.Challenge.rw_mr0035_01.row.prog w) (callerA.deeper (lawEnv L fa cd)) (execs (lawBody.drop 1) (lawEnv L fa cd)) (LawQ h₀ s.gens s.os) (fun _ _ => False) s := by
  k_fill
  intro X₀ B T hlt F N dN dH dW dL dS dO K
  have eS : lawScope = Scope.mk _ _ _ _ _ := rfl
  unfold lawEnv
  rw [eS]
  show wpC _ _ (execs (_ :: _) _) _ _ _
  w_on
  refine execsC_cons (wpC_of ?_)
  k_steps
  show wpC _ _ (execs (_ :: _) _) _ _ _
  refine execsC_cons (AssignC (CallC ?_))
  k_steps
  refine callWithC_K (K := (hd.heap_39 w.params)) (by k_is) ?_
  k_steps
  refine wpC_call (codeC_of (wd_code X₀ B (by assumption) (by assumption) T ?_))
  intro aW hh1 tk1 r1 r2 r3 u0 u1 u2 u3 hr1 hr2 hr3 F1 N1 ne1
  have e3 : @Ne Nat aW (L + 1 + 1 + 1) := ne1 (L + 1 + 1 + 1, oW) (by k_mem)
  have e4 : @Ne Nat aW (L + 1 + 1 + 1 + 1) := ne1 (L + 1 + 1 + 1 + 1, oL) (by k_mem)
  have e5 : @Ne Nat aW (L + 1 + 1 + 1 + 1 + 1) := ne1 (L + 1 + 1 + 1 + 1 + 1, oS) (by k_mem)
  have e6 : @Ne Nat aW (L + 1 + 1 + 1 + 1 + 1 + 1) := ne1 (L + 1 + 1 + 1 + 1 + 1 + 1, oO) (by k_mem)
  clear ne1
  dsimp only
  k_steps
  show wpC _ _ (execs (_ :: _) _) _ _ _
  refine execsC_cons (wpC_of (AssignStopC ?_))
  k_steps
  obtain ⟨q, hq, eq⟩ := len_q ((r1 * r2 * r3 : Nat) : Int) (n0.fdiv 4) (by omega)
  rw [Int.toNat_natCast] at eq
  refine Stop.go (store_intC _ eq ?_)
  k_steps
  have hb := r_bounds hr1 hr2 hr3 hq
  exact K _ _ _ _ _ _ _ q _ _ _ _ _ _ _ _ _ _ hr1 hr2 hr3 hq rfl hb.1 hb.2 e5 e6 (by assumption) (by assumption) (by assumption) (by assumption) (by assumption)
end Mine
end

section
open PySem PySem.W PyProof.Rows PySem.Calls
set_option Elab.async false
set_option maxRecDepth 100000
namespace Mine
set_option pp.deepTerms false
set_option pp.deepTerms.threshold 5
set_option pp.proofs false
set_option maxHeartbeats 4000000

theorem news_tail {h₀ h : Heap} {L : Addr} {p : Addr × Obj} {news : List (Addr × Obj)} (N : News h₀ L h (p :: news)) : News h₀ L h news := fun q hq => N q (List.mem_cons_of_mem _ hq)
theorem law_c5 {w : World} {s : Shared} {L fa : Nat} {cd : Value} {h₀ : Heap} {m₀ mg mb : Str → Option Value} {mean : ExcName → Option Value} {oN oH oW oL oS oO : Obj} {aN : Nat} {n0 n1 n2 n3 n4 n5 : Int} {t0 t1 t2 t3 t4 t5 : Tok} {eN : Nat} {aW r1 r2 r3 : Nat} {u0 u1 u2 u3 : Tok} {g : Int} {tg tl : Tok} {q len : Nat} :
    (hd.heap_39 w.params).In h₀ → Below callerA h₀ [] h₀ → Top hd.view_39 (looseW hd.view_39 [Str.ofString "_initial_missing", Str.ofString "reduce"]) mean mg mb h₀ → 8 ≤ len → len ≤ 54 →
    @Ne Nat aN (L + 1 + 1 + 1 + 1 + 1) → @Ne Nat aW (L + 1 + 1 + 1 + 1 + 1) →
    Fr h₀ L s.heap m₀ → News h₀ L s.heap [(aW, W.listOf #[.int 1 u0, .int (r1 : Nat) u1, .int (r1 * r2 : Nat) u2, .int (r1 * r2 * r3 : Nat) u3] 3), (aN, W.listOf #[.int n0 t0, .int n1 t1, .int n2 t2, .int n3 t3, .int n4 t4, .int n5 t5] eN), (L + 1 + 1 + 1 + 1 + 1 + 1, oO), (L + 1 + 1 + 1 + 1 + 1, oS), (L + 1 + 1 + 1 + 1, oL), (L + 1 + 1 + 1, oW), (L + 1 + 1, oH), (L + 1, oN)] →
    oN.data = .cell (some (.ref aN)) → oH.data = .cell (some (.int g tg)) → oW.data = .cell (some (.ref aW)) → oL.data = .cell (some (.int (len : Nat) tl)) → oS.data = .cell none → oO.data = .cell none →
    (∀ (st : Array UInt8) (ts : Tok) hh tk (oS : Obj), st.size = len → 
      Fr h₀ L hh m₀ → News h₀ L hh [(aW, W.listOf #[.int 1 u0, .int (r1 : Nat) u1, .int (r1 * r2 : Nat) u2, .int (r1 * r2 * r3 : Nat) u3] 3), (aN, W.listOf #[.int n0 t0, .int n1 t1, .int n2 t2, .int n3 t3, .int n4 t4, .int n5 t5] eN), (L + 1 + 1 + 1 + 1 + 1 + 1, oO), (L + 1 + 1 + 1 + 1 + 1, oS), (L + 1 + 1 + 1 + 1, oL), (L + 1 + 1 + 1, oW), (L + 1 + 1, oH), (L + 1, oN)] →
      oS.data = .cell (some (.bytes st ts)) →
      wpC (model PySem.Challenge.rw_mr0035_01.row.prog w) (callerA.deeper (lawEnv L fa cd)) (execs (lawBody.drop 5) (lawEnv L fa cd)) (LawQ h₀ s.gens s.os) (fun _ _ => False) { s with heap := hh, toks := tk }) →
    wpC (model PySem.Challenge.rw_mr0035_01.row.prog w) (callerA.deeper (lawEnv L fa cd)) (execs (lawBody.drop 4) (lawEnv L fa cd)) (LawQ h₀ s.gens s.os) (fun _ _ => False) s := by
  k_fill
  intro X₀ B T h8 h54 eN eW F N dN dH dW dL dS dO K
  have eS : lawScope = Scope.mk _ _ _ _ _ := rfl
  unfold lawEnv
  rw [eS]
  show wpC _ _ (execs (_ :: _) _) _ _ _
  w_on
  refine execsC_cons (wpC_of (AssignStopC ?_))
  k_steps
  refine Stop.go ?_
  k_steps
  refine K _ _ _ _ _ ?_ (by assumption) (news_tail (by assumption)) (by assumption)
  rw [byteArr_size, List.length_map, rangeKs_length]
  omega
end Mine
end

section
open PySem PySem.W PyProof.Rows PySem.Calls
set_option Elab.async false
set_option maxRecDepth 100000
namespace Mine
set_option pp.deepTerms false
set_option pp.deepTerms.threshold 5
set_option pp.proofs false
set_option maxHeartbeats 4000000

/-- which of the four widths a number draws -/
def c4 (n : Int) : Nat := (n.fmod 4).toNat
def wdN (r1 r2 r3 c : Nat) : Nat := [1, r1, r1 * r2, r1 * r2 * r3].getD c 0
theorem c4_lt (n : Int) : c4 n < 4 := by
  have h1 := Int.fmod_nonneg_of_pos n (show (0 : Int) < 4 by decide)
  have h2 := Int.fmod_lt_of_pos n (show (0 : Int) < 4 by decide)
  unfold c4
  omega
theorem wdN_int (r1 r2 r3 c : Nat) (hc : c < 4) : [(1 : Int), ((r1 : Nat) : Int), ((r1 * r2 : Nat) : Int), ((r1 * r2 * r3 : Nat) : Int)].getD c 0 = ((wdN r1 r2 r3 c : Nat) : Int) := by
  obtain rfl | rfl | rfl | rfl : c = 0 ∨ c = 1 ∨ c = 2 ∨ c = 3 := by omega
  all_goals rfl
theorem rowI {r1 r2 r3 : Nat} {ns : List Int} {ys : List Value} (h : IntsAre ys (ns.map fun k => [(1 : Int), ((r1 : Nat) : Int), ((r1 * r2 : Nat) : Int), ((r1 * r2 * r3 : Nat) : Int)].getD (k.fmod 4).toNat 0)) :
    IntsAre ys (((ns.map c4).map (wdN r1 r2 r3)).map fun k : Nat => (k : Int)) := by
  have e : (ns.map fun k => [(1 : Int), ((r1 : Nat) : Int), ((r1 * r2 : Nat) : Int), ((r1 * r2 * r3 : Nat) : Int)].getD (k.fmod 4).toNat 0) = ((ns.map c4).map (wdN r1 r2 r3)).map fun k : Nat => (k : Int) := by
    simp only [List.map_map]
    exact List.map_congr_left fun n _ => wdN_int r1 r2 r3 (c4 n) (c4_lt n)
  exact e ▸ h
theorem law_c6 {w : World} {s : Shared} {L fa : Nat} {cd : Value} {h₀ : Heap} {m₀ mg mb : Str → Option Value} {mean : ExcName → Option Value} {oN oH oW oL oS oO : Obj} {aN : Nat} {n0 n1 n2 n3 n4 n5 : Int} {t0 t1 t2 t3 t4 t5 : Tok} {eN : Nat} {aW r1 r2 r3 : Nat} {u0 u1 u2 u3 : Tok} {g : Int} {tg tl : Tok} {q len : Nat} {st : Array UInt8} {ts : Tok} :
    (hd.heap_39 w.params).In h₀ → Below callerA h₀ [] h₀ → Top hd.view_39 (looseW hd.view_39 [Str.ofString "_initial_missing", Str.ofString "reduce"]) mean mg mb h₀ →
    Fr h₀ L s.heap m₀ → News h₀ L s.heap [(aW, W.listOf #[.int 1 u0, .int (r1 : Nat) u1, .int (r1 * r2 : Nat) u2, .int (r1 * r2 * r3 : Nat) u3] 3), (aN, W.listOf #[.int n0 t0, .int n1 t1, .int n2 t2, .int n3 t3, .int n4 t4, .int n5 t5] eN), (L + 1 + 1 + 1 + 1 + 1 + 1, oO), (L + 1 + 1 + 1 + 1 + 1, oS), (L + 1 + 1 + 1 + 1, oL), (L + 1 + 1 + 1, oW), (L + 1 + 1, oH), (L + 1, oN)] →
    oN.data = .cell (some (.ref aN)) → oH.data = .cell (some (.int g tg)) → oW.data = .cell (some (.ref aW)) → oL.data = .cell (some (.int (len : Nat) tl)) → oS.data = .cell (some (.bytes st ts)) → oO.data = .cell none →
    (∀ (aR : Nat) (ys : List Value) hh tk, IntsAre ys ((([n0, n1, n2, n3, n4, n5].map c4).map (wdN r1 r2 r3)).map fun k : Nat => (k : Int)) → @Ne Nat (L + 1 + 1 + 1 + 1 + 1 + 1) aR →
      Fr h₀ L hh (fun z => if z = Str.ofString "row" then some (.ref aR) else m₀ z) → News h₀ L hh [(aR, LCg.lst ys), (aW, W.listOf #[.int 1 u0, .int (r1 : Nat) u1, .int (r1 * r2 : Nat) u2, .int (r1 * r2 * r3 : Nat) u3] 3), (aN, W.listOf #[.int n0 t0, .int n1 t1, .int n2 t2, .int n3 t3, .int n4 t4, .int n5 t5] eN), (L + 1 + 1 + 1 + 1 + 1 + 1, oO), (L + 1 + 1 + 1 + 1 + 1, oS), (L + 1 + 1 + 1 + 1, oL), (L + 1 + 1 + 1, oW), (L + 1 + 1, oH), (L + 1, oN)] →
      wpC (model PySem.Challenge.rw_mr0035_01.row.prog w) (callerA.deeper (lawEnv L fa cd)) (execs (lawBody.drop 6) (lawEnv L fa cd)) (LawQ h₀ s.gens s.os) (fun _ _ => False) { s with heap := hh, toks := tk }) →
    wpC (model PySem.Challenge.rw_mr0035_01.row.prog w) (callerA.deeper (lawEnv L fa cd)) (execs (lawBody.drop 5) (lawEnv L fa cd)) (LawQ h₀ s.gens s.os) (fun _ _ => False) s := by
  k_fill
  intro X₀ B T F N dN dH dW dL dS dO K
  have eS : lawScope = Scope.mk _ _ _ _ _ := rfl
  unfold lawEnv
  rw [eS]
  show wpC _ _ (execs (_ :: _) _) _ _ _
  w_on
  refine execsC_cons (wpC_of ?_)
  k_steps
  rename_i D' h' tk' F' N' o1'
  refine K _ _ _ _ ?_ o1'.2.2.1 (by assumption) (by assumption)
  exact rowI (by assumption)
end Mine
end

section
open PySem PySem.W PyProof.Rows PySem.Calls PySem.Spec
set_option Elab.async false
set_option maxRecDepth 100000
namespace Mine
section
variable {prog : Program} {w : World} {A : Around} {E : Value → Shared → Prop} {s : Shared} {h₀ : Heap} {L : Addr} {m : Str → Option Value} {env : Env}
/-- what a turn of a comprehension is handed, and gives, when its variable is a cell -/
def TurnK (prog : Program) (w : World) (A : Around) (h₀ : Heap) (L : Addr) (m : Str → Option Value) (env : Env) (elt : Expr) (x : Str) (scope : Scope) (cl : List (Str × Addr)) (news : List (Addr × Obj)) (b : Nat → Value) (n : Nat) (s₁ : Shared) : Prop :=
  ∀ i t (I C D c : Nat) oI oC ok ys hh tk (E' : Value → Shared → Prop), i < n → ok.data = .cell (some (.int (i : Nat) t)) → Fr h₀ L hh m → News h₀ L hh ((I, oI) :: (C, oC) :: (D, LCg.lst ys) :: (c, ok) :: news) →
    wpAny (model prog w) A (eval elt (compEnvC scope ((x, c) :: cl) C env))
      (fun y s' => Stop (∃ h' tk', s' = { s₁ with heap := h', toks := tk' } ∧ y = b i ∧ Fr h₀ L h' m ∧ News h₀ L h' ((I, oI) :: (C, oC) :: (D, LCg.lst ys) :: (c, ok) :: news))) E' { s₁ with heap := hh, toks := tk }
/-- a comprehension over a range whose variable is captured (a cell) -/
theorem ListComp_K {elt iter : Expr} {x : Str} {px : Pos} {scope : Scope} {cl : List (Str × Addr)} {pos : Pos} {Q : Value → Shared → Prop} {news : List (Addr × Obj)} (b : Nat → Value) (n : Nat)
    (hclos : closureFor scope env = pure cl) (hkind : scope.kind = .function)
    (hnames : ∀ y ∈ scope.names, y.2 = .local → scope.names.lookup y.1 = some .local)
    (hcells : ∀ j, cellsFrom j scope.names cl = (x, j) :: cl) (hpush : ∀ h, pushCells h scope.names = h.push { cls := .type "cell", data := .cell none })
    (hx : (relabel scope env).names.lookup x = some .cell)
    (h : wpAny (model prog w) A (eval iter env) (fun xv s₁ => Stop (∃ r e t u v, xv = .ref r ∧ A.handled = none ∧ Fr h₀ L s₁.heap m ∧ News h₀ L s₁.heap news ∧ IsRange s₁.heap r 0 e 1 t u v ∧ Builtin.Range.small 0 e 1 = true ∧
      Builtin.Range.rangeSize 0 e 1 = ((n : Nat) : Int) ∧ n ≤ sizeLine ∧ TurnK prog w A h₀ L m env elt x scope cl news b n s₁ ∧
      ∀ D hh tk, Fr h₀ L hh m → News h₀ L hh ((D, LCg.lst ((List.range n).map b)) :: news) → (∀ p ∈ news, p.1 ≠ D) → Q (.ref D) { s₁ with heap := hh, toks := tk })) E s)
    (hs : ∀ x, foldedSetIterable iter env x = pure x := by intro _; rfl) :
    wpAny (model prog w) A (eval (.ListComp elt [⟨.Name x px, iter, [], 0⟩] scope pos) env) Q E s := by
  rw [eval_ListComp]
  refine wpAny_comprehension_free (use := none) rfl hs hclos hkind hnames (wpAny_mono h (fun xv s₁ h₁ => ?_) fun _ _ e => e)
  obtain ⟨r, e, t, u, v, rfl, hh, F, N, hr, hsm, hn, hsz, turn, fin⟩ := h₁
  refine wpAny_pyIter_range hr hsm ?_
  refine wpAny_newObj_type ?_
  simp only [newFunctionEnv, Option.isSome_some, if_true]
  refine wpAny_bind (wpAny_alloc ?_)
  refine wpAny_bind (wpAny_layCells _ (fun name kind cells => by cases hkc : kind == NameKind.cell <;> simp [hkc]) _ _ _ _ ?_)
  rw [List.forIn_nil]
  refine wpAny_bind (wpAny_pure (wpAny_pure ?_))
  dsimp only
  rw [hpush, hcells]
  generalize hH1 : s₁.heap.push { cls := .type "range_iterator", data := .fields #[rawInt 0, rawInt (Builtin.Range.rangeSize 0 e 1), rawInt 1] } = H1
  generalize hH2 : H1.push { cls := .type "list", dict := none, data := .seq ([] : List Value).toArray } = H2
  generalize hH3 : H2.push { cls := .type "dict", data := .dict #[] } = H3
  have z1 : H1.objs.size = s₁.heap.objs.size + 1 := by rw [← hH1, Heap.size_push]
  have z2 : H2.objs.size = s₁.heap.objs.size + 2 := by rw [← hH2, Heap.size_push, z1]
  have z3 : H3.objs.size = s₁.heap.objs.size + 3 := by rw [← hH3, Heap.size_push, z2]
  generalize hH4 : H3.push { cls := .type "cell", data := .cell none } = H4
  have old : ∀ b o, s₁.heap.get? b = some o → H4.get? b = some o := fun b o q => by
    rw [← hH4, ← hH3, ← hH2, ← hH1]
    exact Heap.get?_push_of_some _ (Heap.get?_push_of_some _ (Heap.get?_push_of_some _ (Heap.get?_push_of_some _ q)))
  have gI : IsRangeIter H4 s₁.heap.objs.size (0 + ((0 : Nat) : Int) * 1) ((n : Int) - ((0 : Nat) : Int)) 1 := by
    show H4.get? _ = some _
    have q : H1.get? s₁.heap.objs.size = some _ := hH1 ▸ Heap.get?_push_size s₁.heap rfl
    rw [← hH4, ← hH3, ← hH2]
    rw [Heap.get?_push_of_some _ (Heap.get?_push_of_some _ (Heap.get?_push_of_some _ q)), hn]
    simp
  have gD : H4.get? (s₁.heap.objs.size + 1) = some (LCg.lst []) := by
    have q : H2.get? H1.objs.size = some _ := hH2 ▸ Heap.get?_push_size H1 rfl
    rw [← hH4, ← hH3, ← z1]
    exact Heap.get?_push_of_some _ (Heap.get?_push_of_some _ q)
  have gC : H4.get? (s₁.heap.objs.size + 2) = some { cls := .type "dict", data := .dict #[] } := by
    have q : H3.get? H2.objs.size = some _ := hH3 ▸ Heap.get?_push_size H2 rfl
    rw [← hH4, ← z2]
    exact Heap.get?_push_of_some _ q
  have gc : H4.get? (s₁.heap.objs.size + 3) = some { cls := .type "cell", data := .cell none } := by
    rw [← hH4, ← z3]
    exact Heap.get?_push_size H3 rfl
  rw [z1, z2, z3]
  generalize hS : s₁.heap.objs.size = S at *
  clear hH1 hH2 hH3 hH4 z1 z2 z3
  have hlt : ∀ p ∈ news, p.1 < S := fun p hp => hS ▸ Heap.lt_size (N p hp).1
  have hLt : L < S := hS ▸ F.ns.lt
  have hLn : @LT.lt Nat _ L S := hLt
  have h0n : ∀ a, S ≤ a → h₀.get? a = none := fun a ha => Heap.get?_none_of_le (Nat.le_trans (Nat.le_of_lt (Nat.lt_of_le_of_lt F.above hLt)) ha)
  have W := LCg.range_walks (prog := prog) (w := w) (A := A) (I := S) hh 0 n
  have loop : ∀ s₃ : Shared, s₃ = { s₁ with heap := H4 } →
      codeAny (model prog w) A (.compLoop (.ListComp elt [⟨.Name x px, iter, [], 0⟩] scope pos) 0 (.ref S) (.ref (S + 1)) (compEnvC scope ((x, S + 3) :: cl) (S + 2) env))
        (compPost (model prog w) A E none Q (.ref (S + 1)) (S + 2)) s₃ := by
    rintro s₃ rfl
    refine codeAny_compLoop_tests
      (fun k s' => ∃ h' tk i ok vk, s' = { s₁ with heap := h', toks := tk } ∧ i ≤ n ∧ k = n + 1 - i ∧ IsRangeIter h' S (0 + ((i : Nat) : Int) * 1) ((n : Int) - ((i : Nat) : Int)) 1 ∧ ok.data = .cell vk ∧ Fr h₀ L h' m ∧
        News h₀ L h' ((S + 2, { cls := .type "dict", data := .dict #[] }) :: (S + 1, LCg.lst ((List.range i).map b)) :: (S + 3, ok) :: news)) ?_ (n + 1)
      ⟨H4, _, 0, { cls := .type "cell", data := .cell none }, none, rfl, Nat.zero_le _, rfl, gI, rfl, F.keeps old, fun p hp => ?_⟩
    · rintro k s' ⟨h', tk, i, ok, vk, rfl, hi, rfl, hst', dok, F', N'⟩
      by_cases hlt' : i < n
      · refine W.item i _ _ _ hlt' hst' fun v h₂ tk₂ hPv hst₂ hk₂ => ?_
        obtain ⟨tv, rfl⟩ := hPv
        have hk3 : ∀ a, a ≠ S → ∀ o, h'.get? a = some o → h₂.get? a = some o := fun a ha o q => hk₂ a o (by simpa using ha) q
        have g3 : h'.get? (S + 3) = some ok := (N' (S + 3, ok) (.tail _ (.tail _ (.head _)))).1
        refine wpAny_assign_Name (wpAny_storeName_cell (c := S + 3) (v₀ := vk) hkind hx (by simp [compEnvC]) ⟨ok, hk3 _ (by omega) _ g3, dok⟩ fun h₃ hc₃ hs₃ => ?_)
        refine wpAny_tests_nil ?_
        simp only [if_true]
        obtain ⟨ok₃, gk₃, dk₃⟩ := hc₃
        have up : ∀ a, a ≠ S → a ≠ S + 3 → ∀ o, h'.get? a = some o → h₃.get? a = some o := fun a h1 h2 o q => hs₃.extBut a o h2 (hk3 a h1 o q)
        have hst₃ : IsRangeIter h₃ S (0 + ((i + 1 : Nat) : Int) * 1) ((n : Int) - ((i + 1 : Nat) : Int)) 1 := hs₃.extBut S _ (Nat.ne_of_lt (Nat.lt_add_of_pos_right (by decide))) hst₂
        have F₃ : Fr h₀ L h₃ m := ⟨F'.ns.at' fun o q => up L (by omega) (by omega) o q, fun a o q => up a (fun y => by rw [y, h0n S (Nat.le_refl _)] at q; cases q) (fun y => by rw [y, h0n (S + 3) (Nat.le_add_right _ _)] at q; cases q) o (F'.keep a o q), F'.above⟩
        have N₃ : News h₀ L h₃ ((S, { cls := .type "range_iterator", dict := none, data := .fields #[rawInt (0 + ((i + 1 : Nat) : Int) * 1), rawInt ((n : Int) - ((i + 1 : Nat) : Int)), rawInt 1], slots := #[] }) ::
            (S + 2, { cls := .type "dict", data := .dict #[] }) :: (S + 1, LCg.lst ((List.range i).map b)) :: (S + 3, ok₃) :: news) := fun p hp => by
          rcases List.mem_cons.mp hp with rfl | hp
          · exact ⟨hst₃, Nat.ne_of_gt hLt, h0n _ (Nat.le_refl _)⟩
          rcases List.mem_cons.mp hp with rfl | hp
          · exact ⟨up (S + 2) (by omega) (by omega) _ (N' _ (.head _)).1, (N' _ (.head _)).2⟩
          rcases List.mem_cons.mp hp with rfl | hp
          · exact ⟨up (S + 1) (by omega) (by omega) _ (N' _ (.tail _ (.head _))).1, (N' _ (.tail _ (.head _))).2⟩
          rcases List.mem_cons.mp hp with rfl | hp
          · exact ⟨gk₃, (N' (S + 3, ok) (.tail _ (.tail _ (.head _)))).2⟩
          have z := N' p (.tail _ (.tail _ (.tail _ hp)))
          have y := hlt p hp
          exact ⟨up p.1 (Nat.ne_of_lt y) (Nat.ne_of_lt (Nat.lt_of_lt_of_le y (Nat.le_add_right _ _))) _ z.1, z.2⟩
        refine wpAny_mono (turn i tv S (S + 2) (S + 1) (S + 3) _ _ ok₃ _ h₃ _ _ hlt' (by rw [dk₃, Int.zero_add]) F₃ N₃) (fun y s₄ h₄ => ?_) fun _ _ e => e
        obtain ⟨h₄, tk₄, rfl, rfl, F₄, N₄⟩ := h₄
        have gD₄ := (N₄ _ (.tail _ (.tail _ (.head _)))).1
        refine append_at (hsz := by simpa using Nat.le_trans hi hsz) gD₄ fun h₅ hs₅ hD₅ => ?_
        have up5 : ∀ a, a ≠ S + 1 → ∀ o, h₄.get? a = some o → h₅.get? a = some o := fun a h1 o q => hs₅.extBut a o h1 q
        refine ⟨n + 1 - (i + 1), by omega, h₅, tk₄, i + 1, ok₃, _, rfl, hlt', rfl, up5 S (by omega) _ (N₄ _ (.head _)).1, dk₃, ⟨F₄.ns.at' fun o q => up5 L (by omega) o q, fun a o q => up5 a (fun y => by rw [y, h0n (S + 1) (Nat.le_add_right _ _)] at q; cases q) o (F₄.keep a o q), F₄.above⟩, fun p hp => ?_⟩
        rcases List.mem_cons.mp hp with rfl | hp
        · exact ⟨up5 (S + 2) (by omega) _ (N₄ _ (.tail _ (.head _))).1, (N₄ _ (.tail _ (.head _))).2⟩
        rcases List.mem_cons.mp hp with rfl | hp
        · refine ⟨hD₅.trans (congrArg some ?_), (N₄ _ (.tail _ (.tail _ (.head _)))).2⟩
          rw [List.range_succ, List.map_append]
          exact LCg.lst_snoc _ _
        rcases List.mem_cons.mp hp with rfl | hp
        · exact ⟨up5 (S + 3) (by omega) _ (N₄ _ (.tail _ (.tail _ (.tail _ (.head _))))).1, (N₄ _ (.tail _ (.tail _ (.tail _ (.head _))))).2⟩
        have z := N₄ p (.tail _ (.tail _ (.tail _ (.tail _ hp))))
        exact ⟨up5 p.1 (Nat.ne_of_lt (Nat.lt_of_lt_of_le (hlt p hp) (Nat.le_add_right _ _))) _ z.1, z.2⟩
      · obtain rfl : i = n := Nat.le_antisymm hi (Nat.not_lt.mp hlt')
        refine W.done _ _ _ hst' fun h₂ tk₂ hk₂ => ?_
        have up : ∀ a, a ≠ S → ∀ o, h'.get? a = some o → h₂.get? a = some o := fun a ha o q => hk₂ a o (by simpa using ha) q
        refine ⟨fun _ => none, ⟨_, #[], 0, up (S + 2) (by omega) _ (N' _ (.head _)).1, rfl, fun _ he => by simp at he, fun _ => rfl⟩, fun h₃ hs₃ => ?_⟩
        have up3 : ∀ a, a ≠ S → a ≠ S + 2 → ∀ o, h'.get? a = some o → h₃.get? a = some o := fun a h1 h2 o q => hs₃.extBut a o h2 (up a h1 o q)
        refine fin (S + 1) h₃ tk₂ ⟨F'.ns.at' fun o q => up3 L (by omega) (by omega) o q, fun a o q => up3 a (fun y => by rw [y, h0n S (Nat.le_refl _)] at q; cases q) (fun y => by rw [y, h0n (S + 2) (Nat.le_add_right _ _)] at q; cases q) o (F'.keep a o q), F'.above⟩ (fun p hp => ?_) fun p hp => Nat.ne_of_lt (Nat.lt_of_lt_of_le (hlt p hp) (Nat.le_add_right _ _))
        rcases List.mem_cons.mp hp with rfl | hp
        · exact ⟨up3 (S + 1) (by omega) (by omega) _ (N' _ (.tail _ (.head _))).1, (N' _ (.tail _ (.head _))).2⟩
        have z := N' p (.tail _ (.tail _ (.tail _ hp)))
        exact ⟨up3 p.1 (Nat.ne_of_lt (hlt p hp)) (Nat.ne_of_lt (Nat.lt_of_lt_of_le (hlt p hp) (Nat.le_add_right _ _))) _ z.1, z.2⟩
    · rcases List.mem_cons.mp hp with rfl | hp
      · exact ⟨gC, Nat.ne_of_gt (Nat.lt_of_lt_of_le hLt (Nat.le_add_right _ _)), h0n _ (Nat.le_add_right _ _)⟩
      rcases List.mem_cons.mp hp with rfl | hp
      · exact ⟨gD, Nat.ne_of_gt (Nat.lt_of_lt_of_le hLt (Nat.le_add_right _ _)), h0n _ (Nat.le_add_right _ _)⟩
      rcases List.mem_cons.mp hp with rfl | hp
      · exact ⟨gc, Nat.ne_of_gt (Nat.lt_of_lt_of_le hLt (Nat.le_add_right _ _)), h0n _ (Nat.le_add_right _ _)⟩
      exact ⟨old _ _ (N p hp).1, (N p hp).2⟩
  exact codeAny_compStart_list (loop _ rfl) (W.self 0 _ _ _ gI (loop _ rfl))
end
end Mine
end

section
open PySem PySem.W PyProof.Rows PySem.Calls PySem.Spec
set_option Elab.async false
set_option maxRecDepth 100000
namespace Mine
section
variable {prog : Program} {w : World} {A : Around} {s : Shared} {h₀ : Heap} {L : Addr} {m : Str → Option Value} {env : Env} {ct elt : Expr} {x : Str} {scope : Scope} {cl : List (Str × Addr)} {S : List (Addr × Obj) → Prop} {P : Nat → Value → Prop} {Fin : List Value → List (Addr × Obj) → Prop} {news : List (Addr × Obj)}
/-- a comprehension with a test, over ints, turn by turn -/
theorem restT {n : Nat} {ks : List Int} (p : Int → Bool) (g : Int → Int) (hks : ks.length = n) (hP : ∀ i v, i < n → P i v → ∃ k t, ks[i]? = some k ∧ v = .int k t) (hS : S news)
    (turn : ∀ k t (I C D : Nat) oI oC m₂ ys h tk (E' : Value → Shared → Prop), k ∈ ks → LCg.NsObj oC m₂ → m₂ x = some (.int k t) → Fr h₀ L h m → News h₀ L h ((I, oI) :: (C, oC) :: (D, LCg.lst ys) :: news) →
      wpAny (model prog w) A (isTrue ct (compEnvC scope cl C env) (eval ct (compEnvC scope cl C env))) (fun ok s' => Stop (ok = p k ∧ ∃ h' tk', s' = { s with heap := h', toks := tk' } ∧ Fr h₀ L h' m ∧ News h₀ L h' ((I, oI) :: (C, oC) :: (D, LCg.lst ys) :: news))) E' { s with heap := h, toks := tk })
    (give : ∀ k t (I C D : Nat) oI oC m₂ ys h tk (E' : Value → Shared → Prop), k ∈ ks → p k = true → LCg.NsObj oC m₂ → m₂ x = some (.int k t) → Fr h₀ L h m → News h₀ L h ((I, oI) :: (C, oC) :: (D, LCg.lst ys) :: news) →
      wpAny (model prog w) A (eval elt (compEnvC scope cl C env)) (fun y s' => Stop (∃ h' tk' t', s' = { s with heap := h', toks := tk' } ∧ y = .int (g k) t' ∧ Fr h₀ L h' m ∧ News h₀ L h' ((I, oI) :: (C, oC) :: (D, LCg.lst ys) :: news))) E' { s with heap := h, toks := tk })
    (fin : ∀ ys, IntsAre ys ((ks.filter p).map g) → Fin ys news) : LCt.CompRestT prog w A h₀ L m env ct elt x scope cl s S P Fin n 0 [] news := by
  have key : ∀ (j i : Nat) (ys : List Value), i + j = n → IntsAre ys (((ks.take i).filter p).map g) → LCt.CompRestT prog w A h₀ L m env ct elt x scope cl s S P Fin j i ys news := by
    intro j
    induction j with
    | zero =>
      intro i ys hi hy
      have e : i = ks.length := by omega
      subst e
      rw [List.take_length] at hy
      exact LCt.CompRestT.zero (fin ys hy)
    | succ j ih =>
      intro i ys hi hy
      refine LCt.CompRestT.succ ?_
      intro v I oI C oC D m₂ h tk E' hv hC hx F N off ne
      obtain ⟨k, t, hk, hv'⟩ := hP i v (by omega) hv
      rw [hv'] at hx
      refine wpAny_mono (turn k t I C D oI oC m₂ ys h tk E' (List.mem_of_getElem? hk) hC hx F N) (fun ok s₂ hq => ?_) fun _ _ e => e
      obtain ⟨rfl, h', tk', rfl, F', N'⟩ := hq
      cases hp : p k with
      | true =>
        simp only [if_true]
        refine wpAny_mono (give k t I C D oI oC m₂ ys h' tk' E' (List.mem_of_getElem? hk) hp hC hx F' N') (fun y s₂ hq => ?_) fun _ _ e => e
        obtain ⟨h₂, tk₂, t', rfl, rfl, F₂, N₂⟩ := hq
        refine ⟨h₂, tk₂, news, rfl, F₂, N₂, off, hS, ?_⟩
        refine ih (i + 1) _ (by omega) ?_
        rw [List.take_add_one, hk, List.filter_append, List.map_append]
        simpa [hp] using IntsAre.append hy (.cons (g k) t' .nil)
      | false =>
        simp only [Bool.false_eq_true, if_false]
        refine ⟨h', tk', news, rfl, F', N', off, hS, ?_⟩
        refine ih (i + 1) _ (by omega) ?_
        rw [List.take_add_one, hk, List.filter_append, List.map_append]
        simpa [hp] using hy
  exact key n 0 [] (by omega) (by simp only [List.take_zero, List.filter_nil, List.map_nil]; exact .nil)
theorem restT_range {n : Nat} {a : Int} (p : Int → Bool) (g : Int → Int) (hS : S news)
    (turn : ∀ k t (I C D : Nat) oI oC m₂ ys h tk (E' : Value → Shared → Prop), a ≤ k → k < a + (n : Int) → LCg.NsObj oC m₂ → m₂ x = some (.int k t) → Fr h₀ L h m → News h₀ L h ((I, oI) :: (C, oC) :: (D, LCg.lst ys) :: news) →
      wpAny (model prog w) A (isTrue ct (compEnvC scope cl C env) (eval ct (compEnvC scope cl C env))) (fun ok s' => Stop (ok = p k ∧ ∃ h' tk', s' = { s with heap := h', toks := tk' } ∧ Fr h₀ L h' m ∧ News h₀ L h' ((I, oI) :: (C, oC) :: (D, LCg.lst ys) :: news))) E' { s with heap := h, toks := tk })
    (give : ∀ k t (I C D : Nat) oI oC m₂ ys h tk (E' : Value → Shared → Prop), a ≤ k → k < a + (n : Int) → p k = true → LCg.NsObj oC m₂ → m₂ x = some (.int k t) → Fr h₀ L h m → News h₀ L h ((I, oI) :: (C, oC) :: (D, LCg.lst ys) :: news) →
      wpAny (model prog w) A (eval elt (compEnvC scope cl C env)) (fun y s' => Stop (∃ h' tk' t', s' = { s with heap := h', toks := tk' } ∧ y = .int (g k) t' ∧ Fr h₀ L h' m ∧ News h₀ L h' ((I, oI) :: (C, oC) :: (D, LCg.lst ys) :: news))) E' { s with heap := h, toks := tk })
    (fin : ∀ ys, IntsAre ys (((rangeKs a n).filter p).map g) → Fin ys news) : LCt.CompRestT prog w A h₀ L m env ct elt x scope cl s S (fun i v => ∃ t, v = .int (a + (i : Int)) t) Fin n 0 [] news :=
  restT (ks := rangeKs a n) p g (rangeKs_length a n) (fun i v hi hv => by
    obtain ⟨t, e⟩ := hv
    exact ⟨a + (i : Int), t, by simp [rangeKs, hi], e⟩) hS
    (fun k t I C D oI oC m₂ ys h tk E' hk hC hx F N => turn k t I C D oI oC m₂ ys h tk E' (mem_rangeKs hk).1 (mem_rangeKs hk).2 hC hx F N)
    (fun k t I C D oI oC m₂ ys h tk E' hk hp hC hx F N => give k t I C D oI oC m₂ ys h tk E' (mem_rangeKs hk).1 (mem_rangeKs hk).2 hp hC hx F N) fin
end
end Mine
end

section
open PySem PySem.W PyProof.Rows PySem.Calls
set_option Elab.async false
set_option maxRecDepth 100000
namespace Mine
set_option pp.deepTerms false
set_option pp.deepTerms.threshold 5
set_option pp.proofs false
set_option maxHeartbeats 4000000

local macro_rules | `(tactic| walk_at "eval ListComp") => `(tactic| (k_dflt (refine LCt.ListComp_T (F₀ := by k_asm) (by with_unfolding_all rfl) (by decide) (by rfl) (by decide) (by rfl) ?_)))
def oddB (ns : List Int) (i : Nat) : Bool := ((ns.filter fun n => decide (i < c4 n)).map fun n => n).length % 2 == 1
theorem c4_gt (i : Nat) (n : Int) : decide ((i : Int) < n.fmod 4) = decide (i < c4 n) := by
  have h1 := Int.fmod_nonneg_of_pos n (show (0 : Int) < 4 by decide)
  have h2 : ((c4 n : Nat) : Int) = n.fmod 4 := by unfold c4; omega
  rw [← h2]
  exact decide_eq_decide.mpr (by omega)
theorem odd_int (k : Nat) : (((k : Int).fmod 2 == 1)) = (k % 2 == 1) := by
  rw [Int.fmod_eq_emod_of_nonneg _ (by omega), Bool.eq_iff_iff, beq_iff_eq, beq_iff_eq]
  omega
theorem law_c7 {w : World} {s : Shared} {L fa : Nat} {cd : Value} {h₀ : Heap} {m₀ mg mb : Str → Option Value} {mean : ExcName → Option Value} {oN oH oW oL oS oO : Obj} {aN : Nat} {n0 n1 n2 n3 n4 n5 : Int} {t0 t1 t2 t3 t4 t5 : Tok} {eN : Nat} {aW r1 r2 r3 : Nat} {u0 u1 u2 u3 : Tok} {g : Int} {tg tl : Tok} {q len : Nat} {st : Array UInt8} {ts : Tok} {aR : Nat} {ys : List Value} :
    (hd.heap_39 w.params).In h₀ → Below callerA h₀ [] h₀ → Top hd.view_39 (looseW hd.view_39 [Str.ofString "_initial_missing", Str.ofString "reduce"]) mean mg mb h₀ → @Ne Nat (L + 1 + 1 + 1 + 1 + 1 + 1) aR →  @Ne Nat aN (L + 1 + 1 + 1 + 1 + 1 + 1) →  @Ne Nat aW (L + 1 + 1 + 1 + 1 + 1 + 1) →
    Fr h₀ L s.heap m₀ → News h₀ L s.heap [(aR, LCg.lst ys), (aW, W.listOf #[.int 1 u0, .int (r1 : Nat) u1, .int (r1 * r2 : Nat) u2, .int (r1 * r2 * r3 : Nat) u3] 3), (aN, W.listOf #[.int n0 t0, .int n1 t1, .int n2 t2, .int n3 t3, .int n4 t4, .int n5 t5] eN), (L + 1 + 1 + 1 + 1 + 1 + 1, oO), (L + 1 + 1 + 1 + 1 + 1, oS), (L + 1 + 1 + 1 + 1, oL), (L + 1 + 1 + 1, oW), (L + 1 + 1, oH), (L + 1, oN)] →
    oN.data = .cell (some (.ref aN)) → oH.data = .cell (some (.int g tg)) → oW.data = .cell (some (.ref aW)) → oL.data = .cell (some (.int (len : Nat) tl)) → oS.data = .cell (some (.bytes st ts)) → oO.data = .cell none →
    (∀ (aO : Nat) (oO : Obj) hh tk,
      Fr h₀ L hh m₀ → News h₀ L hh [(aO, W.listOf #[.bool (oddB [n0, n1, n2, n3, n4, n5] 0), .bool (oddB [n0, n1, n2, n3, n4, n5] 1), .bool (oddB [n0, n1, n2, n3, n4, n5] 2), .bool false] 0), (aR, LCg.lst ys), (aW, W.listOf #[.int 1 u0, .int (r1 : Nat) u1, .int (r1 * r2 : Nat) u2, .int (r1 * r2 * r3 : Nat) u3] 3), (aN, W.listOf #[.int n0 t0, .int n1 t1, .int n2 t2, .int n3 t3, .int n4 t4, .int n5 t5] eN), (L + 1 + 1 + 1 + 1 + 1 + 1, oO), (L + 1 + 1 + 1 + 1 + 1, oS), (L + 1 + 1 + 1 + 1, oL), (L + 1 + 1 + 1, oW), (L + 1 + 1, oH), (L + 1, oN)] → oO.data = .cell (some (.ref aO)) →
      wpC (model PySem.Challenge.rw_mr0035_01.row.prog w) (callerA.deeper (lawEnv L fa cd)) (execs (lawBody.drop 7) (lawEnv L fa cd)) (LawQ h₀ s.gens s.os) (fun _ _ => False) { s with heap := hh, toks := tk }) →
    wpC (model PySem.Challenge.rw_mr0035_01.row.prog w) (callerA.deeper (lawEnv L fa cd)) (execs (lawBody.drop 6) (lawEnv L fa cd)) (LawQ h₀ s.gens s.os) (fun _ _ => False) s := by
  k_fill
  intro X₀ B T nR nN nW F N dN dH dW dL dS dO K
  have eS : lawScope = Scope.mk _ _ _ _ _ := rfl
  unfold lawEnv
  rw [eS]
  show wpC _ _ (execs (_ :: _) _) _ _ _
  w_on
  refine execsC_cons (wpC_of (AssignStopC ?_))
  refine wpAny_BinOp ?_
  refine ListComp_K (h₀ := h₀) (L := L) (m := m₀) (news := [(aR, LCg.lst ys), (aW, W.listOf #[.int 1 u0, .int (r1 : Nat) u1, .int (r1 * r2 : Nat) u2, .int (r1 * r2 * r3 : Nat) u3] 3), (aN, W.listOf #[.int n0 t0, .int n1 t1, .int n2 t2, .int n3 t3, .int n4 t4, .int n5 t5] eN), (L + 1 + 1 + 1 + 1 + 1 + 1, oO), (L + 1 + 1 + 1 + 1 + 1, oS), (L + 1 + 1 + 1 + 1, oL), (L + 1 + 1 + 1, oW), (L + 1 + 1, oH), (L + 1, oN)]) (fun i => .bool (oddB [n0, n1, n2, n3, n4, n5] i)) 3 (by with_unfolding_all rfl) rfl (by decide) (by intro j; rfl) (by intro h; rfl) (by with_unfolding_all rfl) ?_
  k_steps
  refine Stop.go ⟨_, _, _, _, _, rfl, rfl, by assumption, by assumption, by assumption, by decide, rfl, by decide, ?_, ?_⟩
  · unfold TurnK
    intro i t I C D c oI oC ok ys' hh tk E' hi dok F1 N1
    k_steps
    refine LCt.CompSrcT.ledger (by rfl) (by k_asm) (by k_asm) (by k_mem) (by show 6 ≤ sizeLine; decide) ?_
    intro g'
    refine restT (ks := [n0, n1, n2, n3, n4, n5]) (fun n => decide (i < c4 n)) (fun n => n) rfl ?hP ?hS ?turn ?give ?fin
    case turn =>
      intro k t I1 C1 D1 oI1 oC1 m₂ ys1 h1 tk1 E1 hk hC hx F2 N2
      k_steps
      exact Stop.go ⟨c4_gt i k, _, _, rfl, by assumption, by assumption⟩
    case give =>
      intro k t I1 C1 D1 oI1 oC1 m₂ ys1 h1 tk1 E1 hk hp hC hx F2 N2
      k_steps
      exact Stop.go ⟨_, _, _, rfl, rfl, by assumption, by assumption⟩
    case fin =>
      intro ys1 hys
      k_steps
      have hl := hys.length
      have hl6 : ys1.length ≤ 6 := by
        rw [hl, List.length_map]
        exact List.length_filter_le _ _
      refine len_list ⟨_, News.get (by assumption) (by k_mem), rfl, _, rfl⟩ (by rw [List.size_toArray]; omega) ?_
      k_steps
      refine Stop.go ⟨_, _, rfl, ?_, by assumption, news_tail (by assumption)⟩
      rw [odd_int, List.size_toArray, hl]
      rfl
    case hP =>
      intro j v hj hv
      have hj6 : j < 6 := hj
      obtain rfl | rfl | rfl | rfl | rfl | rfl : j = 0 ∨ j = 1 ∨ j = 2 ∨ j = 3 ∨ j = 4 ∨ j = 5 := by clear hj; omega
      all_goals exact ⟨_, _, rfl, (Option.some.inj hv).symm⟩
    case hS => exact .inr ⟨_, by k_mem, rfl, _, rfl⟩
  · intro D hh tk F1 N1 ne
    have nD : @Ne Nat (L + 1 + 1 + 1 + 1 + 1 + 1) D := ne (L + 1 + 1 + 1 + 1 + 1 + 1, oO) (by k_mem)
    clear ne
    k_steps
    refine Stop.go ?_
    k_steps
    refine K _ _ _ _ (by assumption) (News.perm (by assumption) ?_) (by assumption)
    intro p hp
    rcases List.mem_cons.mp hp with rfl | hp
    · exact List.mem_cons_self
    exact List.mem_cons_of_mem _ (List.mem_cons_of_mem _ (List.mem_cons_of_mem _ hp))
end Mine
end

section
open PySem PySem.W PyProof.Rows PySem.Calls
set_option Elab.async false
set_option maxRecDepth 100000
namespace Mine
/-- how often a figure is turned, told as even or odd -/
def par (cs : List Nat) (k : Nat) : Bool := (cs.filter fun c => decide (k < c)).length % 2 == 1
theorem par_cons (c : Nat) (cs : List Nat) (k : Nat) : par (c :: cs) k = (par cs k != decide (k < c)) := by
  unfold par
  rw [List.filter_cons]
  by_cases h : k < c
  · simp only [h, decide_true, if_true, List.length_cons]
    rcases Nat.mod_two_eq_zero_or_one (cs.filter fun c => decide (k < c)).length with e | e <;> simp [Nat.add_mod, e]
  · simp [h]
theorem oddB_par (ns : List Int) (k : Nat) : oddB ns k = par (ns.map c4) k := by
  unfold oddB par
  rw [List.length_map]
  induction ns with
  | nil => rfl
  | cons n ns ih => 
    have e : ((n :: ns).filter fun n => decide (k < c4 n)).length = (((n :: ns).map c4).filter fun c => decide (k < c)).length := by
      clear ih
      induction (n :: ns) with
      | nil => rfl
      | cons x xs ih => by_cases h : k < c4 x <;> simp [List.filter_cons, h, ih]
    rw [e]
def allB : List Bool := [false, true]
def stepOk (r1 r2 r3 : Nat) : Bool := allB.all fun o0 => allB.all fun o1 => allB.all fun o2 => (List.range 4).all fun c => (List.range (r1 * r2 * r3 * 2)).all fun p =>
  srcI (wdN r1 r2 r3 c) (srcN r1 r2 r3 o0 o1 o2 p) == srcN r1 r2 r3 (o0 != decide (0 < c)) (o1 != decide (1 < c)) (o2 != decide (2 < c)) p
theorem step_all : ∀ r1 ∈ [2, 3], ∀ r2 ∈ [2, 3], ∀ r3 ∈ [2, 3], stepOk r1 r2 r3 = true := by decide +kernel
theorem step_at {r1 r2 r3 c p : Nat} {o0 o1 o2 : Bool} (h1 : r1 = 2 ∨ r1 = 3) (h2 : r2 = 2 ∨ r2 = 3) (h3 : r3 = 2 ∨ r3 = 3) (hc : c < 4) (hp : p < r1 * r2 * r3 * 2) :
    srcI (wdN r1 r2 r3 c) (srcN r1 r2 r3 o0 o1 o2 p) = srcN r1 r2 r3 (o0 != decide (0 < c)) (o1 != decide (1 < c)) (o2 != decide (2 < c)) p := by
  have h := step_all r1 (by simpa using h1) r2 (by simpa using h2) r3 (by simpa using h3)
  unfold stepOk at h
  have hb : ∀ o : Bool, o ∈ allB := by decide
  have := List.all_eq_true.mp (List.all_eq_true.mp (List.all_eq_true.mp (List.all_eq_true.mp (List.all_eq_true.mp h o0 (hb _)) o1 (hb _)) o2 (hb _)) c (List.mem_range.mpr hc)) p (List.mem_range.mpr hp)
  exact beq_iff_eq.mp this
theorem src_id {r1 r2 r3 p : Nat} (h1 : r1 = 2 ∨ r1 = 3) (h2 : r2 = 2 ∨ r2 = 3) (h3 : r3 = 2 ∨ r3 = 3) : srcN r1 r2 r3 false false false p = p := by
  unfold srcN flip dig
  rcases h1 with rfl | rfl <;> rcases h2 with rfl | rfl <;> rcases h3 with rfl | rfl <;> simp <;> omega
theorem flip_lt {b : Bool} {r d : Nat} (hd : d < r) : flip b r d < r := by unfold flip; split <;> omega
theorem src_lt {r1 r2 r3 q p : Nat} {o0 o1 o2 : Bool} (h1 : r1 = 2 ∨ r1 = 3) (h2 : r2 = 2 ∨ r2 = 3) (h3 : r3 = 2 ∨ r3 = 3) (hq : q = 1 ∨ q = 2) (hp : p < r1 * r2 * r3 * q) :
    srcN r1 r2 r3 o0 o1 o2 p < r1 * r2 * r3 * q := by
  have f0 := flip_lt (b := o0) (dig_lt (a := 1) (r := r1) (p := p) (by omega))
  have f1 := flip_lt (b := o1) (dig_lt (a := r1) (r := r2) (p := p) (by omega))
  have f2 := flip_lt (b := o2) (dig_lt (a := r1 * r2) (r := r3) (p := p) (by omega))
  unfold srcN
  generalize flip o0 r1 (dig 1 r1 p) = x0 at *
  generalize flip o1 r2 (dig r1 r2 p) = x1 at *
  generalize flip o2 r3 (dig (r1 * r2) r3 p) = x2 at *
  rcases h1 with rfl | rfl <;> rcases h2 with rfl | rfl <;> rcases h3 with rfl | rfl <;> rcases hq with rfl | rfl <;> omega
/-- all the row's turns at once -/
theorem fold_src {r1 r2 r3 p : Nat} (h1 : r1 = 2 ∨ r1 = 3) (h2 : r2 = 2 ∨ r2 = 3) (h3 : r3 = 2 ∨ r3 = 3) (hp : p < r1 * r2 * r3 * 2) :
    ∀ cs : List Nat, (∀ c ∈ cs, c < 4) → (cs.map (wdN r1 r2 r3)).foldr srcI p = srcN r1 r2 r3 (par cs 0) (par cs 1) (par cs 2) p
  | [], _ => (src_id h1 h2 h3).symm
  | c :: cs, h => by
    rw [List.map_cons, List.foldr_cons, fold_src h1 h2 h3 hp cs fun x hx => h x (.tail _ hx), step_at h1 h2 h3 (h c (.head _)) hp, par_cons, par_cons, par_cons]
theorem srcI_lt {n wd p : Nat} (hw : 1 ≤ wd) (hd : n % wd = 0) (hp : p < n) : srcI wd p < n := by
  unfold srcI
  have h1 : p % wd < wd := Nat.mod_lt _ hw
  have h2 : p / wd < n / wd := Nat.div_lt_div_of_lt_of_dvd (Nat.dvd_of_mod_eq_zero hd) hp
  have h3 : n / wd * wd = n := Nat.div_mul_cancel (Nat.dvd_of_mod_eq_zero hd)
  have h4 : (p / wd + 1) * wd ≤ n / wd * wd := Nat.mul_le_mul_right _ h2
  rw [Nat.add_mul, Nat.one_mul] at h4
  omega
theorem fold_get : ∀ (ws : List Nat) (b : Array UInt8) (p : Nat), (∀ k ∈ ws, 1 ≤ k ∧ b.size % k = 0) → p < b.size → ws.foldr srcI p < b.size ∧ (ws.foldl swapA b).getD p 0 = b.getD (ws.foldr srcI p) 0
  | [], _, _, _, hp => ⟨hp, rfl⟩
  | k :: ws, b, p, h, hp => by
    have e := swapA_size b k
    obtain ⟨i1, i2⟩ := fold_get ws (swapA b k) p (fun x hx => by rw [e]; exact h x (.tail _ hx)) (by rw [e]; exact hp)
    rw [e] at i1
    refine ⟨?_, ?_⟩
    · rw [List.foldr_cons]
      exact srcI_lt (h k (.head _)).1 (h k (.head _)).2 i1
    · rw [List.foldl_cons, i2, swapA_get i1, List.foldr_cons]
theorem foldSize : ∀ (ws : List Nat) (b : Array UInt8), (ws.foldl swapA b).size = b.size
  | [], _ => rfl
  | k :: ws, b => by rw [List.foldl_cons, foldSize ws, swapA_size]
/-- the bytes that are due -/
def dueA (r1 r2 r3 : Nat) (o0 o1 o2 : Bool) (b : Array UInt8) : Array UInt8 := Array.ofFn (n := b.size) fun p => b.getD (srcN r1 r2 r3 o0 o1 o2 p) 0
theorem dueA_get {r1 r2 r3 p : Nat} {o0 o1 o2 : Bool} {b : Array UInt8} (h : p < b.size) : (dueA r1 r2 r3 o0 o1 o2 b).getD p 0 = b.getD (srcN r1 r2 r3 o0 o1 o2 p) 0 := by
  unfold dueA
  rw [Array.getD_eq_getD_getElem?, Array.getElem?_ofFn]
  simp [h]
theorem dueA_size (r1 r2 r3 : Nat) (o0 o1 o2 : Bool) (b : Array UInt8) : (dueA r1 r2 r3 o0 o1 o2 b).size = b.size := by simp [dueA]
theorem arr_ext {a b : Array UInt8} (hs : a.size = b.size) (h : ∀ p, p < b.size → a.getD p 0 = b.getD p 0) : a = b := by
  refine Array.ext hs fun i h1 h2 => ?_
  have := h i h2
  simpa [Array.getD_eq_getD_getElem?, Array.getElem?_eq_getElem h1, Array.getElem?_eq_getElem h2] using this
theorem wdN_ok {r1 r2 r3 q c : Nat} (h1 : r1 = 2 ∨ r1 = 3) (h2 : r2 = 2 ∨ r2 = 3) (h3 : r3 = 2 ∨ r3 = 3) (hq : q = 1 ∨ q = 2) (hc : c < 4) : 1 ≤ wdN r1 r2 r3 c ∧ wdN r1 r2 r3 c ≤ 65536 ∧ r1 * r2 * r3 * q % wdN r1 r2 r3 c = 0 := by
  obtain rfl | rfl | rfl | rfl : c = 0 ∨ c = 1 ∨ c = 2 ∨ c = 3 := by omega
  all_goals rcases h1 with rfl | rfl <;> rcases h2 with rfl | rfl <;> rcases h3 with rfl | rfl <;> rcases hq with rfl | rfl <;> decide
/-- the row's fold is the rule of figures -/
theorem row_due {r1 r2 r3 q : Nat} {cs : List Nat} {b : Array UInt8} (h1 : r1 = 2 ∨ r1 = 3) (h2 : r2 = 2 ∨ r2 = 3) (h3 : r3 = 2 ∨ r3 = 3) (hq : q = 1 ∨ q = 2) (hb : b.size = r1 * r2 * r3 * q) (hc : ∀ c ∈ cs, c < 4) :
    (cs.map (wdN r1 r2 r3)).foldl swapA b = dueA r1 r2 r3 (par cs 0) (par cs 1) (par cs 2) b := by
  refine arr_ext (by rw [foldSize, dueA_size]) fun p hp => ?_
  rw [dueA_size] at hp
  have hg := (fold_get (cs.map (wdN r1 r2 r3)) b p (fun k hk => by
    obtain ⟨c, hc', rfl⟩ := List.mem_map.mp hk
    have := wdN_ok h1 h2 h3 hq (hc c hc')
    exact ⟨this.1, by rw [hb]; exact this.2.2⟩) hp).2
  have hp2 : p < r1 * r2 * r3 * 2 := by
    rw [hb] at hp
    rcases hq with rfl | rfl
    · omega
    · exact hp
  rw [hg, dueA_get hp, fold_src h1 h2 h3 hp2 cs hc]
/-- the short row -/
def shortC (o0 o1 o2 : Bool) : List Nat := ([0, 1, 2].filter fun k => ([o0, o1, o2, false].getD k false) != ([o0, o1, o2, false].getD (k + 1) false)).map (· + 1)
theorem short_par (o0 o1 o2 : Bool) : par (shortC o0 o1 o2) 0 = o0 ∧ par (shortC o0 o1 o2) 1 = o1 ∧ par (shortC o0 o1 o2) 2 = o2 := by
  cases o0 <;> cases o1 <;> cases o2 <;> decide
theorem short_lt (o0 o1 o2 : Bool) : ∀ c ∈ shortC o0 o1 o2, c < 4 := by
  cases o0 <;> cases o1 <;> cases o2 <;> decide
theorem short_due {r1 r2 r3 q : Nat} {o0 o1 o2 : Bool} {b : Array UInt8} (h1 : r1 = 2 ∨ r1 = 3) (h2 : r2 = 2 ∨ r2 = 3) (h3 : r3 = 2 ∨ r3 = 3) (hq : q = 1 ∨ q = 2) (hb : b.size = r1 * r2 * r3 * q) :
    ((shortC o0 o1 o2).map (wdN r1 r2 r3)).foldl swapA b = dueA r1 r2 r3 o0 o1 o2 b := by
  rw [row_due h1 h2 h3 hq hb (short_lt o0 o1 o2), (short_par o0 o1 o2).1, (short_par o0 o1 o2).2.1, (short_par o0 o1 o2).2.2]
end Mine
end

section
open PySem PySem.W PyProof.Rows PySem.Calls
set_option Elab.async false
set_option maxRecDepth 100000
namespace Mine
set_option pp.deepTerms false
set_option pp.deepTerms.threshold 5
set_option pp.proofs false
set_option maxHeartbeats 4000000

theorem callStop {M : Model} {A : Around} {E : Value → Shared → Prop} {s : Shared} {f : Value} {pos : List Value} {Q : Value → Shared → Prop} (h : Stop (wpAny M A (call f pos) Q E s)) : wpAny M A (call f pos) Q E s := h
theorem anyStop {p : Prop} (h : Stop p) : p := h
local macro_rules | `(tactic| walk_at "call ref") => `(tactic| (refine callStop ?_))
local macro_rules | `(tactic| walk_at "CompSrc") => `(tactic| (refine anyStop ?_))
theorem byte_back' (ns : List Int) (b : Array UInt8) (f : Nat → Nat) (n : Nat) (hn : n = b.size) (e : ns = (rangeKs 0 n).map fun k => ((b.getD (f k.toNat) 0).toNat : Int)) :
    byteArr ns = Array.ofFn (n := b.size) fun p => b.getD (f p) 0 := by
  subst e
  refine arr_ext (by rw [byteArr_size, List.length_map, rangeKs_length, Array.size_ofFn, hn]) fun p hp => ?_
  rw [Array.size_ofFn] at hp
  have h1 : (Array.ofFn (n := b.size) fun p => b.getD (f p) 0).getD p 0 = b.getD (f p) 0 := by
    rw [Array.getD_eq_getD_getElem?, Array.getElem?_ofFn]; simp [hp]
  rw [h1, Array.getD_eq_getD_getElem?]
  simp [byteArr, rangeKs, hn, hp]
theorem store_val {M : Model} {A : Around} {E : Value → Shared → Prop} {s : Shared} {env : Env} {x : Str} {X Y : Value} {Q : Unit → Shared → Prop} (e : X = Y)
    (h : wpAny M A (storeName env x Y) Q E s) : wpAny M A (storeName env x X) Q E s := by rw [e]; exact h
theorem law_c8 {w : World} {s : Shared} {L fa : Nat} {cd : Value} {h₀ : Heap} {m₀ mg mb : Str → Option Value} {mean : ExcName → Option Value} {oN oH oW oL oS oO : Obj} {aN : Nat} {n0 n1 n2 n3 n4 n5 : Int} {t0 t1 t2 t3 t4 t5 : Tok} {eN : Nat} {aW r1 r2 r3 : Nat} {u0 u1 u2 u3 : Tok} {g : Int} {tg tl : Tok} {q len : Nat} {st : Array UInt8} {ts : Tok} {aR : Nat} {ys : List Value} {aO : Nat} {o0 o1 o2 : Bool} :
    (hd.heap_39 w.params).In h₀ → Below callerA h₀ [] h₀ → Top hd.view_39 (looseW hd.view_39 [Str.ofString "_initial_missing", Str.ofString "reduce"]) mean mg mb h₀ → (r1 = 2 ∨ r1 = 3) → (r2 = 2 ∨ r2 = 3) → (r3 = 2 ∨ r3 = 3) → (q = 1 ∨ q = 2) → len = r1 * r2 * r3 * q → 8 ≤ len → len ≤ 54 → st.size = len → 
    Fr h₀ L s.heap m₀ → News h₀ L s.heap [(aO, W.listOf #[.bool o0, .bool o1, .bool o2, .bool false] 0), (aR, LCg.lst ys), (aW, W.listOf #[.int 1 u0, .int (r1 : Nat) u1, .int (r1 * r2 : Nat) u2, .int (r1 * r2 * r3 : Nat) u3] 3), (aN, W.listOf #[.int n0 t0, .int n1 t1, .int n2 t2, .int n3 t3, .int n4 t4, .int n5 t5] eN), (L + 1 + 1 + 1 + 1 + 1 + 1, oO), (L + 1 + 1 + 1 + 1 + 1, oS), (L + 1 + 1 + 1 + 1, oL), (L + 1 + 1 + 1, oW), (L + 1 + 1, oH), (L + 1, oN)] →
    oN.data = .cell (some (.ref aN)) → oH.data = .cell (some (.int g tg)) → oW.data = .cell (some (.ref aW)) → oL.data = .cell (some (.int (len : Nat) tl)) → oS.data = .cell (some (.bytes st ts)) → oO.data = .cell (some (.ref aO)) →
    (∀ (td : Tok) hh tk,
      Fr h₀ L hh (fun z => if z = Str.ofString "due" then some (.bytes (dueA r1 r2 r3 o0 o1 o2 st) td) else m₀ z) → News h₀ L hh [(aO, W.listOf #[.bool o0, .bool o1, .bool o2, .bool false] 0), (aR, LCg.lst ys), (aW, W.listOf #[.int 1 u0, .int (r1 : Nat) u1, .int (r1 * r2 : Nat) u2, .int (r1 * r2 * r3 : Nat) u3] 3), (aN, W.listOf #[.int n0 t0, .int n1 t1, .int n2 t2, .int n3 t3, .int n4 t4, .int n5 t5] eN), (L + 1 + 1 + 1 + 1 + 1 + 1, oO), (L + 1 + 1 + 1 + 1 + 1, oS), (L + 1 + 1 + 1 + 1, oL), (L + 1 + 1 + 1, oW), (L + 1 + 1, oH), (L + 1, oN)] →
      wpC (model PySem.Challenge.rw_mr0035_01.row.prog w) (callerA.deeper (lawEnv L fa cd)) (execs (lawBody.drop 8) (lawEnv L fa cd)) (LawQ h₀ s.gens s.os) (fun _ _ => False) { s with heap := hh, toks := tk }) →
    wpC (model PySem.Challenge.rw_mr0035_01.row.prog w) (callerA.deeper (lawEnv L fa cd)) (execs (lawBody.drop 7) (lawEnv L fa cd)) (LawQ h₀ s.gens s.os) (fun _ _ => False) s := by
  k_fill
  intro X₀ B T hr1 hr2 hr3 hq eL h8 h54 hsz F N dN dH dW dL dS dO K
  have eS : lawScope = Scope.mk _ _ _ _ _ := rfl
  unfold lawEnv
  rw [eS]
  show wpC _ _ (execs (_ :: _) _) _ _ _
  w_on
  refine execsC_cons (wpC_of (AssignStopC ?_))
  k_steps
  refine Stop.go ?_
  refine LCg.CompSrc.range (by rfl) (by k_asm) (by k_asm) (by assumption) (small_one (by omega) (by omega) (by omega) (by omega)) (rangeSize_nat _ _) (by rw [PySem.sizeLine_eq]; omega) ?_
  intro g'
  refine kcf_range (fun k => ((st.getD (srcN r1 r2 r3 o0 o1 o2 k.toNat) 0).toNat : Int)) ?turn ?fin
  case turn =>
    intro k t I oI C oC D m₂ ys' hh tk E' hlo hhi hC hx F1 N1 off ne mk
    refine Subscript_ ?_
    k_steps
    obtain ⟨p, rfl⟩ : ∃ p : Nat, k = (p : Int) := ⟨k.toNat, by omega⟩
    have hp : p < len := by omega
    refine Stop.go (wpAny_call (src_code X₀ B (by assumption) (by assumption) T (by omega) hr1 hr2 hr3 (by k_mem) (by k_mem) ?_))
    intro h' tk' t' F2 N2
    dsimp only
    have hlt := src_lt (o0 := o0) (o1 := o1) (o2 := o2) hr1 hr2 hr3 hq (eL ▸ hp)
    refine item_bytes (by omega) (by omega) (by omega) ?_
    rw [Int.toNat_natCast]
    exact LCg.CompEnd.intro F2 N2 _ (fun _ h => h) off True.intro ⟨rfl, _, rfl⟩
  case fin =>
    k_steps
    refine bytes_K (by assumption) (by assumption) ⟨_, News.get (by assumption) (by k_mem), rfl, _, rfl⟩ (by assumption) ?_ ?_ rfl ?_
    · intro n hn
      obtain ⟨k, _, rfl⟩ := List.mem_map.mp hn
      exact ⟨by omega, byte_lt _⟩
    · rename_i hL8 _ _ _ _ _ _
      rw [hL8, List.length_map, rangeKs_length, PySem.sizeLine_eq]
      omega
    intro h' t' k' F2 N2 _
    refine Stop.go (store_val (Y := .bytes (dueA r1 r2 r3 o0 o1 o2 st) t') ?_ ?_)
    · exact congrArg (fun b => Value.bytes b t') (byte_back' _ st (srcN r1 r2 r3 o0 o1 o2) _ (by omega) rfl)
    k_steps
    exact K _ _ _ (by assumption) (news_tail (by assumption))
end Mine
end

section
open PySem PySem.W PyProof.Rows PySem.Calls
set_option Elab.async false
set_option maxRecDepth 100000
namespace Mine
section
variable {M : Model} {A : Around} {E : Value → Shared → Prop} {s : Shared} {env : Env}
theorem splicedC_cons {x : Sem Value} {rest : List (Bool × Sem Value)} {Q : List Value → Shared → Prop}
    (h : wpC M A x (fun v s₁ => wpC M A (spliced rest) (fun vs s₂ => Q (v :: vs) s₂) E s₁) E s) : wpC M A (spliced ((false, x) :: rest)) Q E s := by
  rw [spliced]
  refine wpC_bind (wpC_mono h (fun v s₁ h₁ => ?_) fun _ _ x => x)
  simp only [Bool.false_eq_true, if_false]
  exact wpC_bind (wpC_pure (wpC_bind (wpC_holding (wpC_mono h₁ (fun vs s₂ h₂ => wpC_pure h₂) fun _ _ x => x))))
theorem splicedC_more {e : Expr} {rest : List Expr} {pos : Pos} {Q : List Value → Shared → Prop}
    (h : wpC M A (eval e env) (fun v s₁ => wpC M A (spliced (backTo pos (starEach rest env))) (fun vs s₂ => Q (v :: vs) s₂) E s₁) E s)
    (he : starEach (e :: rest) env = (false, eval e env) :: starEach rest env := by rfl) : wpC M A (spliced (backTo pos (starEach (e :: rest) env))) Q E s := by
  rw [he]; exact splicedC_cons h
theorem splicedC_nil {pos : Pos} {Q : List Value → Shared → Prop} (h : Q [] s) : wpC M A (spliced (backTo pos (starEach [] env))) Q E s := wpC_of (Calls.spliced_nil h)
theorem ListC {elts : List Expr} {pos : Pos} {Q : Value → Shared → Prop}
    (h : wpC M A (spliced (backTo pos (starEach elts env))) (fun vs s₁ => wpAny M A (newList vs) Q E s₁) E s) : wpC M A (eval (.List elts pos) env) Q E s := by
  show wpC M A (do standAt pos; newList (← spliced (backTo pos (starEach elts env)))) Q E s
  exact wpC_standAt (wpC_bind (wpC_mono h (fun _ _ x => wpC_of x) fun _ _ x => x))
theorem ForCC {x : Str} {px pos : Pos} {iter : Expr} {body : List Stmt} {Q : Flow → Shared → Prop}
    (h : wpC M A (eval iter env) (fun x' s₁ => wpAny M A (pyIter x') (fun it s₂ =>
      codeC M A (.forLoop (.Name x px) it body [] env) (fun r s' => match r with | .ok f => Q f s' | .error e => cameBackBy M A env E e s') s₂) E s₁) E s)
    (hs : ∀ x, foldedSetIterable iter env x = pure x := by intro _; rfl) :
    wpC M A (exec (.For (.Name x px) iter body [] pos) env) Q E s := by
  rw [exec_For]
  exact wpC_standAt (wpC_bind (wpC_mono h (fun x s₁ h₁ => wpC_eq (hs x) (wpC_standAt (wpC_bind (wpC_holding
    (wpC_of (wpAny_mono h₁ (fun it s₂ h₂ => runOwnC h₂) fun _ _ h' => h')))))) fun _ _ h' => h'))
theorem orC {x rest pos whole} {Q : Bool → Shared → Prop}
    (h : wpC M A (isTrue x env (eval x env)) (fun c s' => if c then Q true s' else wpC M A (isTrue (.BoolOp .Or rest pos) env whole) Q E s') E s) :
    wpC M A (isTrue (.BoolOp .Or (x :: rest) pos) env whole) Q E s := by
  show wpC M A (do
    match BoolOp.Or, ← isTrue x env (eval x env) with
    | .And, false => pure false
    | .Or, true => pure true
    | _, _ => isTrue (.BoolOp .Or rest pos) env whole) Q E s
  refine wpC_bind (wpC_mono h (fun c s' h' => ?_) fun _ _ x => x)
  cases c
  · exact h'
  · exact wpC_pure h'
theorem orC_nil {pos whole} {Q : Bool → Shared → Prop} (h : Q false s) : wpC M A (isTrue (.BoolOp .Or [] pos) env whole) Q E s := wpC_of (isTrue_or_nil h)
theorem cmpC {l op r pos whole} {Q : Bool → Shared → Prop}
    (h : wpC M A (eval l env) (fun a s₁ => wpC M A (eval r env) (fun b s₂ => wpAny M A (compareOp op a b)
      (fun c s₃ => wpAny M A (truthy c) Q E s₃) E s₂) E s₁) E s)
    (hm : behindInMarks op r = false := by with_unfolding_all rfl) : wpC M A (isTrue (.Compare l [op] [r] pos) env whole) Q E s := fun Γ p hΓ hc => by
  simp only [isTrue_Compare1, markedBehindIn_of_false hm, Sem.wp_bind', Sem.wp_holding, Sem.wp_cmd_standAt, Sem.wp_operate]
  exact Sem.wp_mono M Γ _ (fun a p₁ s₁ h₁ => Sem.wp_mono M Γ _ (fun b _ s₂ h₂ => Sem.wp_mono M Γ _ (fun c p₃ s₃ h₃ => h₃ Γ p₃ hΓ)
    (fun _ _ _ h' => h') _ _ (h₂ Γ _ hΓ)) (fun _ _ _ h' => h') _ _ (h₁ Γ p₁ hΓ hc)) (fun _ _ _ h' => h') _ _ (h Γ p hΓ hc)
theorem ExprC {prog : Program} {w : World} {e : Expr} {pos : Pos} {Q : Flow → Shared → Prop} (h : wpC (model prog w) A (eval e env) (fun _ s' => Q .next s') E s)
    (hi : interactive env = false := by rfl) (hs : swapsWith e none pos.line env = pure false := by rfl) : wpC (model prog w) A (exec (.Expr e pos) env) Q E s := by
  rw [exec_Expr env e pos hi hs]
  exact wpC_standAt (wpC_bind (wpC_mono h (fun v s' h' => wpC_of (wpAny_dropValue h')) fun _ _ x => x))
theorem condC_false {c : Bool} {a b : Prop} (h : c = false) (hb : b) : if c then a else b := by subst h; exact hb
end
end Mine
end

section
open PySem PySem.W PyProof.Rows PySem.Calls
set_option Elab.async false
set_option maxRecDepth 100000
namespace Mine
set_option pp.deepTerms false
set_option pp.deepTerms.threshold 5
set_option pp.proofs false
set_option maxHeartbeats 4000000

theorem boot_ba : bootBuiltins (Str.ofString "bytearray") = some (.type "bytearray") := by decide +kernel
theorem law_c9 {w : World} {s : Shared} {L fa : Nat} {cd : Value} {h₀ : Heap} {m₀ mg mb : Str → Option Value} {mean : ExcName → Option Value} {oN oH oW oL oS oO : Obj} {aN : Nat} {n0 n1 n2 n3 n4 n5 : Int} {t0 t1 t2 t3 t4 t5 : Tok} {eN : Nat} {aW r1 r2 r3 : Nat} {u0 u1 u2 u3 : Tok} {g : Int} {tg tl : Tok} {q len : Nat} {st : Array UInt8} {ts : Tok} {aR : Nat} {ys : List Value} {aO : Nat} {o0 o1 o2 : Bool} {du : Array UInt8} {td : Tok} :
    (hd.heap_39 w.params).In h₀ → Below callerA h₀ [] h₀ → Top hd.view_39 (looseW hd.view_39 [Str.ofString "_initial_missing", Str.ofString "reduce"]) mean mg mb h₀ → st.size ≤ 54 → 
    Fr h₀ L s.heap (fun z => if z = Str.ofString "due" then some (.bytes du td) else if z = Str.ofString "row" then some (.ref aR) else m₀ z) → News h₀ L s.heap [(aO, W.listOf #[.bool o0, .bool o1, .bool o2, .bool false] 0), (aR, LCg.lst ys), (aW, W.listOf #[.int 1 u0, .int (r1 : Nat) u1, .int (r1 * r2 : Nat) u2, .int (r1 * r2 * r3 : Nat) u3] 3), (aN, W.listOf #[.int n0 t0, .int n1 t1, .int n2 t2, .int n3 t3, .int n4 t4, .int n5 t5] eN), (L + 1 + 1 + 1 + 1 + 1 + 1, oO), (L + 1 + 1 + 1 + 1 + 1, oS), (L + 1 + 1 + 1 + 1, oL), (L + 1 + 1 + 1, oW), (L + 1 + 1, oH), (L + 1, oN)] →
    oN.data = .cell (some (.ref aN)) → oH.data = .cell (some (.int g tg)) → oW.data = .cell (some (.ref aW)) → oL.data = .cell (some (.int (len : Nat) tl)) → oS.data = .cell (some (.bytes st ts)) → oO.data = .cell (some (.ref aO)) →
    (∀ (aK : Nat) hh tk, Fr h₀ L hh (fun z => if z = Str.ofString "kept" then some (.ref aK) else if z = Str.ofString "due" then some (.bytes du td) else if z = Str.ofString "row" then some (.ref aR) else m₀ z) → News h₀ L hh [(aK, baObj st), (aO, W.listOf #[.bool o0, .bool o1, .bool o2, .bool false] 0), (aR, LCg.lst ys), (aW, W.listOf #[.int 1 u0, .int (r1 : Nat) u1, .int (r1 * r2 : Nat) u2, .int (r1 * r2 * r3 : Nat) u3] 3), (aN, W.listOf #[.int n0 t0, .int n1 t1, .int n2 t2, .int n3 t3, .int n4 t4, .int n5 t5] eN), (L + 1 + 1 + 1 + 1 + 1 + 1, oO), (L + 1 + 1 + 1 + 1 + 1, oS), (L + 1 + 1 + 1 + 1, oL), (L + 1 + 1 + 1, oW), (L + 1 + 1, oH), (L + 1, oN)] → wpC (model PySem.Challenge.rw_mr0035_01.row.prog w) (callerA.deeper (lawEnv L fa cd)) (execs (lawBody.drop 9) (lawEnv L fa cd)) (LawQ h₀ s.gens s.os) (fun _ _ => False) { s with heap := hh, toks := tk }) →
    wpC (model PySem.Challenge.rw_mr0035_01.row.prog w) (callerA.deeper (lawEnv L fa cd)) (execs (lawBody.drop 8) (lawEnv L fa cd)) (LawQ h₀ s.gens s.os) (fun _ _ => False) s := by
  k_fill
  intro X₀ B T hsz F N dN dH dW dL dS dO K
  have eS : lawScope = Scope.mk _ _ _ _ _ := rfl
  unfold lawEnv
  rw [eS]
  show wpC _ _ (execs (_ :: _) _) _ _ _
  w_on
  refine execsC_cons (AssignC (CallC ?_))
  refine nameX_B (K := (hd.heap_39 w.params)) (by assumption) X₀ (by k_asm) (by k_is) boot_ba (by decide) ?_ rfl rfl (by decide)
  refine callWithC_T ?_
  k_steps
  refine call_ba_bytes rfl (by assumption) (by assumption) (by rw [PySem.sizeLine_eq]; omega) ?_
  intro aK h' F' N' lt
  k_steps
  exact K _ _ _ (by assumption) (by assumption)
theorem CurV_end {v0 v : Value} {b : Array UInt8} {ws : List Nat} (hne : ws ≠ []) (h : CurV v0 b ws ws.length v) : ∃ t, v = .bytes (ws.foldl swapA b) t := by
  rcases h with ⟨e, _⟩ | ⟨_, t, e⟩
  · exact absurd (List.length_eq_zero_iff.mp e) hne
  · rw [List.take_length] at e; exact ⟨t, e⟩
theorem pyIter_listK {prog : Program} {w : World} {A : Around} {E : Value → Shared → Prop} {s : Shared} {h₀ : Heap} {L : Addr} {m : Str → Option Value} {news : List (Addr × Obj)} {l : Addr} {oL : Obj} {items : List Value} {Q : Value → Shared → Prop} (F : Fr h₀ L s.heap m) (N : News h₀ L s.heap news) (hl : (l, oL) ∈ news) (hL : IsLst oL items)
    (hQ : ∀ I oI h', IsLI oI l 0 → Fr h₀ L h' m → News h₀ L h' ((I, oI) :: news) → (∀ p ∈ news, p.1 < I) → Q (.ref I) { s with heap := h' }) :
    wpAny (model prog w) A (pyIter (.ref l)) Q E s :=
  wpAny_pyIter_list (hL.at (N _ hl).1) (hQ _ _ _ ⟨rfl, rfl⟩ (F.push _) (N.push F _) fun p hp => Heap.lt_size (N p hp).1)
theorem map_got {m₀ : Str → Option Value} {a b c : Option Value} : (fun z => if z = Str.ofString "kept" then a else if z = Str.ofString "due" then b else if z = Str.ofString "row" then c else m₀ z) =
    (fun z => if z = Str.ofString "got" then m₀ (Str.ofString "got") else if z = Str.ofString "kept" then a else if z = Str.ofString "due" then b else if z = Str.ofString "row" then c else m₀ z) := by
  funext z
  by_cases h : z = Str.ofString "got"
  · subst h
    rw [if_pos rfl, if_neg (by decide), if_neg (by decide), if_neg (by decide)]
  · rw [if_neg h]
theorem wpC_stop {α : Type} {M : Model} {A : Around} {t : Sem α} {Q : α → Shared → Prop} {E : Value → Shared → Prop} {s : Shared} (h : wpAny M A t (fun a s' => Stop (Q a s')) E s) : wpC M A t Q E s := wpC_of (wpAny_mono h (fun _ _ x => Stop.out x) fun _ _ x => x)
theorem map_over {k : Str} {x y : Option Value} {f : Str → Option Value} : (fun z => if z = k then x else (fun z => if z = k then y else f z) z) = fun z => if z = k then x else f z := by
  funext z
  by_cases h : z = k <;> simp [h]
theorem law_c10 {w : World} {s : Shared} {L fa : Nat} {cd : Value} {h₀ : Heap} {m₀ mg mb : Str → Option Value} {mean : ExcName → Option Value} {oN oH oW oL oS oO : Obj} {aN : Nat} {n0 n1 n2 n3 n4 n5 : Int} {t0 t1 t2 t3 t4 t5 : Tok} {eN : Nat} {aW r1 r2 r3 : Nat} {u0 u1 u2 u3 : Tok} {g : Int} {tg tl : Tok} {q len : Nat} {st : Array UInt8} {ts : Tok} {aR : Nat} {ys : List Value} {aO : Nat} {o0 o1 o2 : Bool} {du : Array UInt8} {td : Tok} {ws : List Nat} {aK : Nat} :
    (hd.heap_39 w.params).In h₀ → Below callerA h₀ [] h₀ → Top hd.view_39 (looseW hd.view_39 [Str.ofString "_initial_missing", Str.ofString "reduce"]) mean mg mb h₀ → st.size ≤ 54 → ys.length ≤ 6 → IntsAre ys (ws.map fun k : Nat => (k : Int)) → ws ≠ [] → (∀ k ∈ ws, 1 ≤ k ∧ k ≤ 65536 ∧ st.size % k = 0) → ws.foldl swapA st = du → 
    Fr h₀ L s.heap (fun z => if z = Str.ofString "kept" then some (.ref aK) else if z = Str.ofString "due" then some (.bytes du td) else if z = Str.ofString "row" then some (.ref aR) else m₀ z) → News h₀ L s.heap [(aK, baObj st), (aO, W.listOf #[.bool o0, .bool o1, .bool o2, .bool false] 0), (aR, LCg.lst ys), (aW, W.listOf #[.int 1 u0, .int (r1 : Nat) u1, .int (r1 * r2 : Nat) u2, .int (r1 * r2 * r3 : Nat) u3] 3), (aN, W.listOf #[.int n0 t0, .int n1 t1, .int n2 t2, .int n3 t3, .int n4 t4, .int n5 t5] eN), (L + 1 + 1 + 1 + 1 + 1 + 1, oO), (L + 1 + 1 + 1 + 1 + 1, oS), (L + 1 + 1 + 1 + 1, oL), (L + 1 + 1 + 1, oW), (L + 1 + 1, oH), (L + 1, oN)] →
    oN.data = .cell (some (.ref aN)) → oH.data = .cell (some (.int g tg)) → oW.data = .cell (some (.ref aW)) → oL.data = .cell (some (.int (len : Nat) tl)) → oS.data = .cell (some (.bytes st ts)) → oO.data = .cell (some (.ref aO)) →
    (∀ og hh tk, Fr h₀ L hh (fun z => if z = Str.ofString "got" then og else if z = Str.ofString "kept" then some (.ref aK) else if z = Str.ofString "due" then some (.bytes du td) else if z = Str.ofString "row" then some (.ref aR) else m₀ z) → News h₀ L hh [(aK, baObj st), (aO, W.listOf #[.bool o0, .bool o1, .bool o2, .bool false] 0), (aR, LCg.lst ys), (aW, W.listOf #[.int 1 u0, .int (r1 : Nat) u1, .int (r1 * r2 : Nat) u2, .int (r1 * r2 * r3 : Nat) u3] 3), (aN, W.listOf #[.int n0 t0, .int n1 t1, .int n2 t2, .int n3 t3, .int n4 t4, .int n5 t5] eN), (L + 1 + 1 + 1 + 1 + 1 + 1, oO), (L + 1 + 1 + 1 + 1 + 1, oS), (L + 1 + 1 + 1 + 1, oL), (L + 1 + 1 + 1, oW), (L + 1 + 1, oH), (L + 1, oN)] → wpC (model PySem.Challenge.rw_mr0035_01.row.prog w) (callerA.deeper (lawEnv L fa cd)) (execs (lawBody.drop 10) (lawEnv L fa cd)) (LawQ h₀ s.gens s.os) (fun _ _ => False) { s with heap := hh, toks := tk }) →
    wpC (model PySem.Challenge.rw_mr0035_01.row.prog w) (callerA.deeper (lawEnv L fa cd)) (execs (lawBody.drop 9) (lawEnv L fa cd)) (LawQ h₀ s.gens s.os) (fun _ _ => False) s := by
  k_fill
  intro X₀ B T hsz hyl hys hne hws hdu F N dN dH dW dL dS dO K
  have eS : lawScope = Scope.mk _ _ _ _ _ := rfl
  unfold lawEnv
  rw [eS]
  show wpC _ _ (execs (_ :: _) _) _ _ _
  w_on
  refine execsC_cons (ForCC (ListC (splicedC_more (CallC ?_))))
  k_steps
  refine callWithC_K (K := (hd.heap_39 w.params)) (by k_is) ?_
  k_steps
  refine iter_listK (by assumption) (by assumption) (oL := LCg.lst ys) (by k_mem) ⟨rfl, _, rfl⟩ ?_
  intro I oI h' hoI F1 N1 lt1
  k_steps
  refine wpC_call (rd_iter (ws := ws) (b := st) X₀ B (by assumption) N1 T rfl rfl rfl (by simp only [depth_deeper, depth_caller]; decide) rfl rfl hoI (fun p hp => Nat.ne_of_lt (lt1 p hp)) (by k_mem) ⟨rfl, _, rfl⟩ hys ⟨_, _, rfl⟩ (by omega) hws (fun _ => .inl ⟨_, rfl⟩) ?_)
  intro h2 tk2 v hv F2 N2
  dsimp only
  refine splicedC_more (CallC ?_)
  k_steps
  refine callWithC_K (K := (hd.heap_39 w.params)) (by k_is) ?_
  k_steps
  refine wpC_call (rd_missing (ws := ws) (b := st) (ka := aK) (vs := ys) X₀ B (by assumption) (by assumption) T rfl rfl rfl (by simp only [depth_deeper, depth_caller]; decide) rfl rfl (by k_mem) ⟨rfl, _, rfl⟩ hys (by k_mem) (by omega) hws ?_)
  intro h4 tk4 v4 hv4 F4 N4
  obtain ⟨t1, rfl⟩ := CurV_end hne hv
  obtain ⟨t2, rfl⟩ := CurV_end hne hv4
  rw [hdu]
  dsimp only
  have N5 := news_tail (news_tail N4)
  clear N4 hv hv4
  refine splicedC_nil ?_
  k_steps
  refine pyIter_listK (by assumption) (by assumption) (by k_mem) (items := [.bytes du t1, .bytes du t2]) ⟨rfl, _, rfl⟩ ?_
  intro I9 oI9 h9 hoI9 F9 N9 lt9
  refine codeC_for_li (h₀ := h₀) (items := [.bytes du t1, .bytes du t2]) (fun _ m => ∃ og, m = (fun z => if z = Str.ofString "got" then og else if z = Str.ofString "kept" then some (.ref aK) else if z = Str.ofString "due" then some (.bytes du td) else if z = Str.ofString "row" then some (.ref aR) else m₀ z)) rfl rfl rfl F9 N9 hoI9 (by k_mem) ⟨rfl, _, rfl⟩ (fun p hp => Nat.ne_of_lt (lt9 p hp)) (Nat.zero_le _) ⟨m₀ (Str.ofString "got"), map_got⟩ ?turn ?done
  case turn =>
    rintro i v m oI' h tk hv hi ⟨og, rfl⟩ hoI' F10 N10
    obtain ⟨t, rfl⟩ : ∃ t, v = .bytes du t := by
      obtain rfl | rfl : i = 0 ∨ i = 1 := by
        have := (List.getElem?_eq_some_iff.mp hv).1
        simp at this
        omega
      · exact ⟨_, (Option.some.inj hv).symm⟩
      · exact ⟨_, (Option.some.inj hv).symm⟩
    refine wpC_stop ?_
    k_steps
    · rename_i hb
      exact absurd hb (by simp)
    · exact Stop.go ⟨rfl, _, _, _, rfl, F10, N10, some (.bytes du t), map_over⟩
  case done =>
    rintro m h tk ⟨og, rfl⟩ F10 N10
    exact K og _ _ F10 (news_tail N10)
end Mine
end

section
open PySem PySem.W PyProof.Rows PySem.Calls
set_option Elab.async false
set_option maxRecDepth 100000
namespace Mine
set_option pp.deepTerms false
set_option pp.deepTerms.threshold 5
set_option pp.proofs false
set_option maxHeartbeats 4000000

theorem law_c11 {w : World} {s : Shared} {L fa : Nat} {cd : Value} {h₀ : Heap} {m₀ mg mb : Str → Option Value} {mean : ExcName → Option Value} {oN oH oW oL oS oO : Obj} {aN : Nat} {n0 n1 n2 n3 n4 n5 : Int} {t0 t1 t2 t3 t4 t5 : Tok} {eN : Nat} {aW r1 r2 r3 : Nat} {u0 u1 u2 u3 : Tok} {g : Int} {tg tl : Tok} {q len : Nat} {st : Array UInt8} {ts : Tok} {aR : Nat} {ys : List Value} {aO : Nat} {o0 o1 o2 : Bool} {du : Array UInt8} {td : Tok} {ws : List Nat} {aK : Nat} {og : Option Value} :
    (hd.heap_39 w.params).In h₀ → Below callerA h₀ [] h₀ → Top hd.view_39 (looseW hd.view_39 [Str.ofString "_initial_missing", Str.ofString "reduce"]) mean mg mb h₀ → st.size ≤ 54 →
    Fr h₀ L s.heap (fun z => if z = Str.ofString "got" then og else if z = Str.ofString "kept" then some (.ref aK) else if z = Str.ofString "due" then some (.bytes du td) else if z = Str.ofString "row" then some (.ref aR) else m₀ z) → News h₀ L s.heap [(aK, baObj st), (aO, W.listOf #[.bool o0, .bool o1, .bool o2, .bool false] 0), (aR, LCg.lst ys), (aW, W.listOf #[.int 1 u0, .int (r1 : Nat) u1, .int (r1 * r2 : Nat) u2, .int (r1 * r2 * r3 : Nat) u3] 3), (aN, W.listOf #[.int n0 t0, .int n1 t1, .int n2 t2, .int n3 t3, .int n4 t4, .int n5 t5] eN), (L + 1 + 1 + 1 + 1 + 1 + 1, oO), (L + 1 + 1 + 1 + 1 + 1, oS), (L + 1 + 1 + 1 + 1, oL), (L + 1 + 1 + 1, oW), (L + 1 + 1, oH), (L + 1, oN)] →
    oN.data = .cell (some (.ref aN)) → oH.data = .cell (some (.int g tg)) → oW.data = .cell (some (.ref aW)) → oL.data = .cell (some (.int (len : Nat) tl)) → oS.data = .cell (some (.bytes st ts)) → oO.data = .cell (some (.ref aO)) →
    (∀ hh tk, Fr h₀ L hh (fun z => if z = Str.ofString "got" then og else if z = Str.ofString "kept" then some (.ref aK) else if z = Str.ofString "due" then some (.bytes du td) else if z = Str.ofString "row" then some (.ref aR) else m₀ z) → News h₀ L hh [(aK, baObj st), (aO, W.listOf #[.bool o0, .bool o1, .bool o2, .bool false] 0), (aR, LCg.lst ys), (aW, W.listOf #[.int 1 u0, .int (r1 : Nat) u1, .int (r1 * r2 : Nat) u2, .int (r1 * r2 * r3 : Nat) u3] 3), (aN, W.listOf #[.int n0 t0, .int n1 t1, .int n2 t2, .int n3 t3, .int n4 t4, .int n5 t5] eN), (L + 1 + 1 + 1 + 1 + 1 + 1, oO), (L + 1 + 1 + 1 + 1 + 1, oS), (L + 1 + 1 + 1 + 1, oL), (L + 1 + 1 + 1, oW), (L + 1 + 1, oH), (L + 1, oN)] → wpC (model PySem.Challenge.rw_mr0035_01.row.prog w) (callerA.deeper (lawEnv L fa cd)) (execs (lawBody.drop 11) (lawEnv L fa cd)) (LawQ h₀ s.gens s.os) (fun _ _ => False) { s with heap := hh, toks := tk }) →
    wpC (model PySem.Challenge.rw_mr0035_01.row.prog w) (callerA.deeper (lawEnv L fa cd)) (execs (lawBody.drop 10) (lawEnv L fa cd)) (LawQ h₀ s.gens s.os) (fun _ _ => False) s := by
  k_fill
  intro X₀ B T hsz F N dN dH dW dL dS dO K
  have eS : lawScope = Scope.mk _ _ _ _ _ := rfl
  unfold lawEnv
  rw [eS]
  show wpC _ _ (execs (_ :: _) _) _ _ _
  w_on
  refine execsC_cons (IfC (orC (cmpC (wpC_of ?_))))
  k_steps
  refine CallC (nameX_B (K := (hd.heap_39 w.params)) (by assumption) X₀ (by k_asm) (by k_is) boot_ba (by decide) ?_ rfl rfl (by decide))
  refine callWithC_T ?_
  k_steps
  refine call_ba_bytes rfl (by assumption) (by assumption) (by rw [PySem.sizeLine_eq]; omega) ?_
  intro aB h' F' N' lt
  refine ba_ne_same (b := st) (by simp only [units_deeper, units_caller]; decide) (News.get N' (by k_mem)) (News.get N' (by k_mem)) (wpAny_truthy_bool ?_)
  refine condC_false rfl ?_
  replace N' := news_tail N'
  clear lt N F
  refine orC (cmpC (CallC ?_))
  k_steps
  refine callWithC_K (K := (hd.heap_39 w.params)) (by k_is) ?_
  k_steps
  refine wpC_call (rd_list (ws := []) (b := st) (items := []) X₀ B (by assumption) (by assumption) T rfl rfl rfl (by simp only [depth_deeper, depth_caller]; decide) rfl rfl (by k_mem) ⟨rfl, _, rfl⟩ .nil (.inr (.inr ⟨aK, baObj st, rfl, by k_mem⟩)) (by omega) (by intro k hk; cases hk) (by intro h; exact absurd rfl h) ?_)
  intro h2 tk2 v hv F2 N2
  obtain rfl : v = .ref aK := by
    rcases hv with ⟨_, e⟩ | ⟨h0, _⟩
    · exact e
    · exact absurd h0 (by decide)
  replace N2 := news_tail N2
  refine wpC_of ?_
  k_steps
  refine orC_nil (condC_false rfl (wpC_of (wpAny_execs_nil ?_)))
  exact K _ _ F2 N2
end Mine
end

section
open PySem PySem.W PyProof.Rows PySem.Calls
set_option Elab.async false
set_option maxRecDepth 100000
namespace Mine
set_option pp.deepTerms false
set_option pp.deepTerms.threshold 5
set_option pp.proofs false
set_option maxHeartbeats 4000000

theorem fold_nil : ∀ ws : List Nat, ws.foldl swapA #[] = #[]
  | [] => rfl
  | k :: ws => by
    rw [List.foldl_cons, show swapA #[] k = #[] from by apply Array.eq_empty_of_size_eq_zero; rw [swapA_size]; rfl, fold_nil ws]
theorem law_c12 {w : World} {s : Shared} {L fa : Nat} {cd : Value} {h₀ : Heap} {m₀ mg mb : Str → Option Value} {mean : ExcName → Option Value} {oN oH oW oL oS oO : Obj} {aN : Nat} {n0 n1 n2 n3 n4 n5 : Int} {t0 t1 t2 t3 t4 t5 : Tok} {eN : Nat} {aW r1 r2 r3 : Nat} {u0 u1 u2 u3 : Tok} {g : Int} {tg tl : Tok} {q len : Nat} {st : Array UInt8} {ts : Tok} {aR : Nat} {ys : List Value} {aO : Nat} {o0 o1 o2 : Bool} {du : Array UInt8} {td : Tok} {ws : List Nat} {aK : Nat} {og : Option Value} :
    (hd.heap_39 w.params).In h₀ → Below callerA h₀ [] h₀ → Top hd.view_39 (looseW hd.view_39 [Str.ofString "_initial_missing", Str.ofString "reduce"]) mean mg mb h₀ → st.size ≤ 54 → ys.length ≤ 6 → IntsAre ys (ws.map fun k : Nat => (k : Int)) → ws ≠ [] → (∀ k ∈ ws, 1 ≤ k ∧ k ≤ 65536 ∧ st.size % k = 0) → ws.foldl swapA st = du →
    Fr h₀ L s.heap (fun z => if z = Str.ofString "got" then og else if z = Str.ofString "kept" then some (.ref aK) else if z = Str.ofString "due" then some (.bytes du td) else if z = Str.ofString "row" then some (.ref aR) else m₀ z) → News h₀ L s.heap [(aK, baObj st), (aO, W.listOf #[.bool o0, .bool o1, .bool o2, .bool false] 0), (aR, LCg.lst ys), (aW, W.listOf #[.int 1 u0, .int (r1 : Nat) u1, .int (r1 * r2 : Nat) u2, .int (r1 * r2 * r3 : Nat) u3] 3), (aN, W.listOf #[.int n0 t0, .int n1 t1, .int n2 t2, .int n3 t3, .int n4 t4, .int n5 t5] eN), (L + 1 + 1 + 1 + 1 + 1 + 1, oO), (L + 1 + 1 + 1 + 1 + 1, oS), (L + 1 + 1 + 1 + 1, oL), (L + 1 + 1 + 1, oW), (L + 1 + 1, oH), (L + 1, oN)] →
    oN.data = .cell (some (.ref aN)) → oH.data = .cell (some (.int g tg)) → oW.data = .cell (some (.ref aW)) → oL.data = .cell (some (.int (len : Nat) tl)) → oS.data = .cell (some (.bytes st ts)) → oO.data = .cell (some (.ref aO)) →
    (∀ vb hh tk, Fr h₀ L hh (fun z => if z = Str.ofString "bare" then some vb else if z = Str.ofString "got" then og else if z = Str.ofString "kept" then some (.ref aK) else if z = Str.ofString "due" then some (.bytes du td) else if z = Str.ofString "row" then some (.ref aR) else m₀ z) → News h₀ L hh [(aK, baObj st), (aO, W.listOf #[.bool o0, .bool o1, .bool o2, .bool false] 0), (aR, LCg.lst ys), (aW, W.listOf #[.int 1 u0, .int (r1 : Nat) u1, .int (r1 * r2 : Nat) u2, .int (r1 * r2 * r3 : Nat) u3] 3), (aN, W.listOf #[.int n0 t0, .int n1 t1, .int n2 t2, .int n3 t3, .int n4 t4, .int n5 t5] eN), (L + 1 + 1 + 1 + 1 + 1 + 1, oO), (L + 1 + 1 + 1 + 1 + 1, oS), (L + 1 + 1 + 1 + 1, oL), (L + 1 + 1 + 1, oW), (L + 1 + 1, oH), (L + 1, oN)] → wpC (model PySem.Challenge.rw_mr0035_01.row.prog w) (callerA.deeper (lawEnv L fa cd)) (execs (lawBody.drop 13) (lawEnv L fa cd)) (LawQ h₀ s.gens s.os) (fun _ _ => False) { s with heap := hh, toks := tk }) →
    wpC (model PySem.Challenge.rw_mr0035_01.row.prog w) (callerA.deeper (lawEnv L fa cd)) (execs (lawBody.drop 11) (lawEnv L fa cd)) (LawQ h₀ s.gens s.os) (fun _ _ => False) s := by
  k_fill
  intro X₀ B T hsz hyl hys hne hws hdu F N dN dH dW dL dS dO K
  have eS : lawScope = Scope.mk _ _ _ _ _ := rfl
  unfold lawEnv
  rw [eS]
  show wpC _ _ (execs (_ :: _) _) _ _ _
  w_on
  refine execsC_cons (AssignC (CallC ?_))
  k_steps
  refine callWithC_K (K := (hd.heap_39 w.params)) (by k_is) ?_
  k_steps
  refine wpC_call (rd_list (ws := ws) (b := #[]) (items := ys) X₀ B (by assumption) (by assumption) T rfl rfl rfl (by simp only [depth_deeper, depth_caller]; decide) rfl rfl (by k_mem) ⟨rfl, _, rfl⟩ hys (.inr (.inl ⟨_, _, rfl⟩)) (by decide) (fun k hk => ⟨(hws k hk).1, (hws k hk).2.1, Nat.zero_mod k⟩) (fun _ => .inl ⟨_, rfl⟩) ?_)
  intro h2 tk2 v hv F2 N2
  obtain ⟨t2, rfl⟩ := CurV_end hne hv
  rw [fold_nil]
  dsimp only
  k_steps
  show wpC _ _ (execs (_ :: _) _) _ _ _
  refine execsC_cons (IfC (orC (wpC_of ?_)))
  k_steps
  refine orC (wpC_of ?_)
  k_steps

  refine orC (cmpC (CallC ?_))
  k_steps
  refine callWithC_K (K := (hd.heap_39 w.params)) (by k_is) ?_
  k_steps
  refine wpC_call (rd_list (ws := []) (b := #[]) (items := []) X₀ B (by assumption) (by assumption) T rfl rfl rfl (by simp only [depth_deeper, depth_caller]; decide) rfl rfl (by k_mem) ⟨rfl, _, rfl⟩ .nil (.inl rfl) (by decide) (by intro k hk; cases hk) (by intro h; exact absurd rfl h) ?_)
  intro h3 tk3 v hv F3 N3
  obtain rfl : v = .none := by
    rcases hv with ⟨_, e⟩ | ⟨h0, _⟩
    · exact e
    · exact absurd h0 (by decide)
  replace N3 := news_tail N3
  refine wpC_of ?_
  k_steps
  refine orC_nil (condC_false rfl (wpC_of (wpAny_execs_nil ?_)))
  exact K _ _ _ F3 N3
end Mine
end

section
open PySem PySem.W PyProof.Rows PySem.Calls
set_option Elab.async false
set_option maxRecDepth 100000
namespace Mine
set_option pp.deepTerms false
set_option pp.deepTerms.threshold 5
set_option pp.proofs false
set_option maxHeartbeats 4000000

theorem short_ints {r1 r2 r3 : Nat} {o0 o1 o2 : Bool} {ys : List Value}
    (h : IntsAre ys (((rangeKs 0 3).filter fun k => ([o0, o1, o2, false].getD k.toNat false) != ([o0, o1, o2, false].getD (k.toNat + 1) false)).map fun k => ((wdN r1 r2 r3 (k.toNat + 1) : Nat) : Int))) :
    IntsAre ys (((shortC o0 o1 o2).map (wdN r1 r2 r3)).map fun k : Nat => (k : Int)) := by
  have e : (((rangeKs 0 3).filter fun k => ([o0, o1, o2, false].getD k.toNat false) != ([o0, o1, o2, false].getD (k.toNat + 1) false)).map fun k => ((wdN r1 r2 r3 (k.toNat + 1) : Nat) : Int)) = ((shortC o0 o1 o2).map (wdN r1 r2 r3)).map fun k : Nat => (k : Int) := by
    cases o0 <;> cases o1 <;> cases o2 <;> rfl
  exact e ▸ h
theorem CurV_bytes {v : Value} {b : Array UInt8} {ws : List Nat} {t0 : Tok} (h : CurV (.bytes b t0) b ws ws.length v) : ∃ t, v = .bytes (ws.foldl swapA b) t := by
  rcases h with ⟨e, rfl⟩ | ⟨_, t, e⟩
  · rw [List.length_eq_zero_iff.mp e]; exact ⟨_, rfl⟩
  · rw [List.take_length] at e; exact ⟨t, e⟩
theorem law_c14 {w : World} {s : Shared} {L fa : Nat} {cd : Value} {h₀ : Heap} {m₀ mg mb : Str → Option Value} {mean : ExcName → Option Value} {oN oH oW oL oS oO : Obj} {aN : Nat} {n0 n1 n2 n3 n4 n5 : Int} {t0 t1 t2 t3 t4 t5 : Tok} {eN : Nat} {aW r1 r2 r3 : Nat} {u0 u1 u2 u3 : Tok} {g : Int} {tg tl : Tok} {q len : Nat} {st : Array UInt8} {ts : Tok} {aR : Nat} {ys : List Value} {aO : Nat} {o0 o1 o2 : Bool} {du : Array UInt8} {td : Tok} {ws : List Nat} {aK : Nat} {og : Option Value} {vb : Value} :
    (hd.heap_39 w.params).In h₀ → Below callerA h₀ [] h₀ → Top hd.view_39 (looseW hd.view_39 [Str.ofString "_initial_missing", Str.ofString "reduce"]) mean mg mb h₀ → (r1 = 2 ∨ r1 = 3) → (r2 = 2 ∨ r2 = 3) → (r3 = 2 ∨ r3 = 3) → (q = 1 ∨ q = 2) → len = r1 * r2 * r3 * q → 8 ≤ len → len ≤ 54 → st.size = len → dueA r1 r2 r3 o0 o1 o2 st = du →
    Fr h₀ L s.heap (fun z => if z = Str.ofString "bare" then some vb else if z = Str.ofString "got" then og else if z = Str.ofString "kept" then some (.ref aK) else if z = Str.ofString "due" then some (.bytes du td) else if z = Str.ofString "row" then some (.ref aR) else m₀ z) → News h₀ L s.heap [(aK, baObj st), (aO, W.listOf #[.bool o0, .bool o1, .bool o2, .bool false] 0), (aR, LCg.lst ys), (aW, W.listOf #[.int 1 u0, .int (r1 : Nat) u1, .int (r1 * r2 : Nat) u2, .int (r1 * r2 * r3 : Nat) u3] 3), (aN, W.listOf #[.int n0 t0, .int n1 t1, .int n2 t2, .int n3 t3, .int n4 t4, .int n5 t5] eN), (L + 1 + 1 + 1 + 1 + 1 + 1, oO), (L + 1 + 1 + 1 + 1 + 1, oS), (L + 1 + 1 + 1 + 1, oL), (L + 1 + 1 + 1, oW), (L + 1 + 1, oH), (L + 1, oN)] →
    oN.data = .cell (some (.ref aN)) → oH.data = .cell (some (.int g tg)) → oW.data = .cell (some (.ref aW)) → oL.data = .cell (some (.int (len : Nat) tl)) → oS.data = .cell (some (.bytes st ts)) → oO.data = .cell (some (.ref aO)) →
    (∀ vs hh tk, Fr h₀ L hh (fun z => if z = Str.ofString "short" then some vs else (fun z => if z = Str.ofString "bare" then some vb else if z = Str.ofString "got" then og else if z = Str.ofString "kept" then some (.ref aK) else if z = Str.ofString "due" then some (.bytes du td) else if z = Str.ofString "row" then some (.ref aR) else m₀ z) z) → News h₀ L hh [(aK, baObj st), (aO, W.listOf #[.bool o0, .bool o1, .bool o2, .bool false] 0), (aR, LCg.lst ys), (aW, W.listOf #[.int 1 u0, .int (r1 : Nat) u1, .int (r1 * r2 : Nat) u2, .int (r1 * r2 * r3 : Nat) u3] 3), (aN, W.listOf #[.int n0 t0, .int n1 t1, .int n2 t2, .int n3 t3, .int n4 t4, .int n5 t5] eN), (L + 1 + 1 + 1 + 1 + 1 + 1, oO), (L + 1 + 1 + 1 + 1 + 1, oS), (L + 1 + 1 + 1 + 1, oL), (L + 1 + 1 + 1, oW), (L + 1 + 1, oH), (L + 1, oN)] → wpC (model PySem.Challenge.rw_mr0035_01.row.prog w) (callerA.deeper (lawEnv L fa cd)) (execs (lawBody.drop 15) (lawEnv L fa cd)) (LawQ h₀ s.gens s.os) (fun _ _ => False) { s with heap := hh, toks := tk }) →
    wpC (model PySem.Challenge.rw_mr0035_01.row.prog w) (callerA.deeper (lawEnv L fa cd)) (execs (lawBody.drop 13) (lawEnv L fa cd)) (LawQ h₀ s.gens s.os) (fun _ _ => False) s := by
  k_fill
  intro X₀ B T hr1 hr2 hr3 hq eL h8 h54 hsz hdu F N dN dH dW dL dS dO K
  have eS : lawScope = Scope.mk _ _ _ _ _ := rfl
  unfold lawEnv
  rw [eS]
  show wpC _ _ (execs (_ :: _) _) _ _ _
  w_on
  refine execsC_cons (wpC_of ?_)
  refine LCt.Assign_ListComp_T (F₀ := F) rfl (by with_unfolding_all rfl) (by with_unfolding_all rfl) (by decide) (by rfl) (by decide) (by rfl) (by rfl) (by rfl) ?_
  refine wpAny_mono (Q := fun xv s' => Stop (LCt.CompSrcT _ _ _ _ _ _ _ _ _ _ _ _ _ xv s')) ?_ (fun _ _ x => Stop.out x) (fun _ _ x => x)
  k_steps
  refine Stop.go (LCt.CompSrcT.range (n := 3) (by rfl) (by k_asm) (by k_asm) (by assumption) (by decide) (by rfl) (by decide) ?_)
  intro g'
  refine restT_range (fun k => ([o0, o1, o2, false].getD k.toNat false) != ([o0, o1, o2, false].getD (k.toNat + 1) false)) (fun k => ((wdN r1 r2 r3 (k.toNat + 1) : Nat) : Int)) True.intro ?turn ?give ?fin
  case turn =>
    intro k t I C D oI oC m₂ ys' h tk E' hlo hhi hC hx F1 N1
    have hk : k = 0 ∨ k = 1 ∨ k = 2 := by omega
    clear hlo hhi
    rcases hk with rfl | rfl | rfl
    · k_steps
      exact Stop.go ⟨rfl, _, _, rfl, by assumption, by assumption⟩
    · k_steps
      exact Stop.go ⟨rfl, _, _, rfl, by assumption, by assumption⟩
    · k_steps
      exact Stop.go ⟨rfl, _, _, rfl, by assumption, by assumption⟩
  case give =>
    intro k t I C D oI oC m₂ ys' h tk E' hlo hhi hp hC hx F1 N1
    have hk : k = 0 ∨ k = 1 ∨ k = 2 := by omega
    clear hlo hhi hp
    rcases hk with rfl | rfl | rfl
    · k_steps
      exact Stop.go ⟨_, _, _, rfl, rfl, by assumption, by assumption⟩
    · k_steps
      exact Stop.go ⟨_, _, _, rfl, rfl, by assumption, by assumption⟩
    · k_steps
      exact Stop.go ⟨_, _, _, rfl, rfl, by assumption, by assumption⟩
  case fin =>
    intro ys2 hys2
    unfold LCg.FinA
    intro aS h2 tk2 F2 N2 off2
    have hI : IntsAre ys2 (((shortC o0 o1 o2).map (wdN r1 r2 r3)).map fun k : Nat => (k : Int)) := short_ints hys2
    refine execsC_cons (IfC (cmpC (CallC ?_)))
    k_steps
    refine callWithC_K (K := (hd.heap_39 w.params)) (by k_is) ?_
    k_steps
    refine wpC_call (rd_list (ws := (shortC o0 o1 o2).map (wdN r1 r2 r3)) (b := st) (items := ys2) X₀ B F2 N2 T rfl rfl rfl (by simp only [depth_deeper, depth_caller]; decide) rfl rfl (by k_mem) ⟨rfl, _, rfl⟩ hI (.inr (.inl ⟨_, _, rfl⟩)) (by omega) (fun k hk => ?_) (fun _ => .inl ⟨_, rfl⟩) ?_)
    · obtain ⟨c, hc, rfl⟩ := List.mem_map.mp hk
      have := wdN_ok hr1 hr2 hr3 hq (short_lt o0 o1 o2 c hc)
      exact ⟨this.1, this.2.1, by rw [hsz, eL]; exact this.2.2⟩
    intro h3 tk3 v hv F3 N3
    obtain ⟨t3, rfl⟩ := CurV_bytes hv
    rw [short_due hr1 hr2 hr3 hq (by rw [hsz, eL]), hdu]
    dsimp only
    refine wpC_of ?_
    k_steps
    · rename_i hb
      exact absurd hb (by simp)
    · refine wpC_of (wpAny_execs_nil ?_)
      exact K _ _ _ F3 (news_tail N3)
end Mine
end

section
open PySem PySem.W PyProof.Rows PySem.Calls
set_option Elab.async false
set_option maxRecDepth 100000
namespace Mine
set_option pp.deepTerms false
set_option pp.deepTerms.threshold 5
set_option pp.proofs false
set_option maxHeartbeats 4000000

theorem at_nat (x : Int) : ∃ a : Nat, a ≤ 6 ∧ x.fmod 7 = (a : Int) := by
  have h1 := Int.fmod_nonneg_of_pos x (show (0 : Int) < 7 by decide)
  have h2 := Int.fmod_lt_of_pos x (show (0 : Int) < 7 by decide)
  exact ⟨(x.fmod 7).toNat, by omega, by omega⟩
theorem law_c16 {w : World} {s : Shared} {L fa : Nat} {cd : Value} {h₀ : Heap} {m₀ mg mb : Str → Option Value} {mean : ExcName → Option Value} {oN oH oW oL oS oO : Obj} {aN : Nat} {n0 n1 n2 n3 n4 n5 : Int} {t0 t1 t2 t3 t4 t5 : Tok} {eN : Nat} {aW r1 r2 r3 : Nat} {u0 u1 u2 u3 : Tok} {g : Int} {tg tl : Tok} {q len : Nat} {st : Array UInt8} {ts : Tok} {aR : Nat} {ys : List Value} {aO : Nat} {o0 o1 o2 : Bool} {du : Array UInt8} {td : Tok} {ws : List Nat} {aK : Nat} :
    (hd.heap_39 w.params).In h₀ → Below callerA h₀ [] h₀ → Top hd.view_39 (looseW hd.view_39 [Str.ofString "_initial_missing", Str.ofString "reduce"]) mean mg mb h₀ → 8 ≤ len → len ≤ 54 →
    Fr h₀ L s.heap m₀ → News h₀ L s.heap [(aK, baObj st), (aO, W.listOf #[.bool o0, .bool o1, .bool o2, .bool false] 0), (aR, LCg.lst ys), (aW, W.listOf #[.int 1 u0, .int (r1 : Nat) u1, .int (r1 * r2 : Nat) u2, .int (r1 * r2 * r3 : Nat) u3] 3), (aN, W.listOf #[.int n0 t0, .int n1 t1, .int n2 t2, .int n3 t3, .int n4 t4, .int n5 t5] eN), (L + 1 + 1 + 1 + 1 + 1 + 1, oO), (L + 1 + 1 + 1 + 1 + 1, oS), (L + 1 + 1 + 1 + 1, oL), (L + 1 + 1 + 1, oW), (L + 1 + 1, oH), (L + 1, oN)] →
    oN.data = .cell (some (.ref aN)) → oH.data = .cell (some (.int g tg)) → oW.data = .cell (some (.ref aW)) → oL.data = .cell (some (.int (len : Nat) tl)) → oS.data = .cell (some (.bytes st ts)) → oO.data = .cell (some (.ref aO)) →
    (∀ (aB : Nat) yb (at' : Nat) ta hh tk, IntsAre yb ((rangeKs 2 len).filter (fun k : Int => ((len : Int).fmod k != 0))) → at' ≤ 6 → Fr h₀ L hh (fun z => if z = Str.ofString "at" then some (.int (at' : Nat) ta) else if z = Str.ofString "bad" then some (.ref aB) else m₀ z) → News h₀ L hh [(aB, LCg.lst yb), (aK, baObj st), (aO, W.listOf #[.bool o0, .bool o1, .bool o2, .bool false] 0), (aR, LCg.lst ys), (aW, W.listOf #[.int 1 u0, .int (r1 : Nat) u1, .int (r1 * r2 : Nat) u2, .int (r1 * r2 * r3 : Nat) u3] 3), (aN, W.listOf #[.int n0 t0, .int n1 t1, .int n2 t2, .int n3 t3, .int n4 t4, .int n5 t5] eN), (L + 1 + 1 + 1 + 1 + 1 + 1, oO), (L + 1 + 1 + 1 + 1 + 1, oS), (L + 1 + 1 + 1 + 1, oL), (L + 1 + 1 + 1, oW), (L + 1 + 1, oH), (L + 1, oN)] → wpC (model PySem.Challenge.rw_mr0035_01.row.prog w) (callerA.deeper (lawEnv L fa cd)) (execs (lawBody.drop 17) (lawEnv L fa cd)) (LawQ h₀ s.gens s.os) (fun _ _ => False) { s with heap := hh, toks := tk }) →
    wpC (model PySem.Challenge.rw_mr0035_01.row.prog w) (callerA.deeper (lawEnv L fa cd)) (execs (lawBody.drop 15) (lawEnv L fa cd)) (LawQ h₀ s.gens s.os) (fun _ _ => False) s := by
  k_fill
  intro X₀ B T h8 h54 F N dN dH dW dL dS dO K
  have eS : lawScope = Scope.mk _ _ _ _ _ := rfl
  unfold lawEnv
  rw [eS]
  show wpC _ _ (execs (_ :: _) _) _ _ _
  w_on
  refine execsC_cons (wpC_of ?_)
  refine LCt.Assign_ListComp_T (F₀ := F) rfl (by with_unfolding_all rfl) (by with_unfolding_all rfl) (by decide) (by rfl) (by decide) (by rfl) (by rfl) (by rfl) ?_
  refine wpAny_mono (Q := fun xv s' => Stop (LCt.CompSrcT _ _ _ _ _ _ _ _ _ _ _ _ _ xv s')) ?_ (fun _ _ x => Stop.out x) (fun _ _ x => x)
  k_steps
  refine Stop.go (LCt.CompSrcT.range (n := len) (by rfl) (by k_asm) (by k_asm) (by assumption) (small_one (by omega) (by omega) (by omega) (by omega)) (by rw [rangeSize_nat]; congr 1; omega) (by rw [PySem.sizeLine_eq]; omega) ?_)
  intro g'
  refine restT_range (fun k : Int => ((len : Int).fmod k != 0)) (fun k => k) True.intro ?turn ?give ?fin
  case turn =>
    intro k t I C D oI oC m₂ ys' h tk E' hlo hhi hC hx F1 N1
    have hk0 : ¬ k = 0 := by omega
    k_steps
    exact Stop.go ⟨rfl, _, _, rfl, by assumption, by assumption⟩
  case give =>
    intro k t I C D oI oC m₂ ys' h tk E' hlo hhi hp hC hx F1 N1
    k_steps
    exact Stop.go ⟨_, _, _, rfl, rfl, by assumption, by assumption⟩
  case fin =>
    intro ys2 hys2
    unfold LCg.FinA
    intro aB h2 tk2 F2 N2 off2
    rw [List.map_id'] at hys2
    refine execsC_cons (wpC_of (AssignStopC ?_))
    k_steps
    obtain ⟨at', ha, ea⟩ := at_nat (n1.fdiv 4)
    refine Stop.go (store_intC _ ea ?_)
    k_steps
    exact K _ _ at' _ _ _ hys2 ha (by assumption) (by assumption)
end Mine
end

section
open PySem PySem.W PyProof.Rows PySem.Calls
set_option Elab.async false
set_option maxRecDepth 100000
namespace Mine
set_option pp.deepTerms false
set_option pp.deepTerms.threshold 5
set_option pp.proofs false
set_option maxHeartbeats 4000000

theorem bad_len (len : Nat) : ((rangeKs 2 len).filter fun k : Int => ((len : Int).fmod k != 0)).length ≤ len := by
  have := List.length_filter_le (fun k : Int => ((len : Int).fmod k != 0)) (rangeKs 2 len)
  rw [rangeKs_length] at this
  exact this
theorem bad_in {len : Nat} {x : Int} (h : x ∈ (rangeKs 2 len).filter fun k : Int => ((len : Int).fmod k != 0)) : ∃ k : Nat, x = (k : Int) ∧ 2 ≤ k ∧ k ≤ len + 1 ∧ len % k ≠ 0 := by
  obtain ⟨h1, h2⟩ := List.mem_filter.mp h
  have h3 := mem_rangeKs h1
  refine ⟨x.toNat, by omega, by omega, by omega, fun e => ?_⟩
  have h4 : ((len : Int).fmod x) = 0 := by
    rw [Int.fmod_eq_emod_of_nonneg _ (by omega)]
    have e2 : x = ((x.toNat : Nat) : Int) := by omega
    rw [e2]
    exact_mod_cast congrArg (Nat.cast : Nat → Int) e
  rw [h4] at h2
  exact absurd h2 (by decide)
theorem bad_pos {len : Nat} (h8 : 8 ≤ len) : 0 < ((rangeKs 2 len).filter fun k : Int => ((len : Int).fmod k != 0)).length := by
  refine List.length_pos_of_mem (a := (len : Int) + 1) (List.mem_filter.mpr ⟨?_, ?_⟩)
  · unfold rangeKs
    exact List.mem_map.mpr ⟨len - 1, List.mem_range.mpr (by omega), by omega⟩
  · have h4 : ((len : Int).fmod (len + 1)) = len := by
      rw [Int.fmod_eq_emod_of_nonneg _ (by omega)]
      exact Int.emod_eq_of_lt (by omega) (by omega)
    rw [h4]
    simp
    omega
local macro_rules | `(tactic| walk_at "eval BinOp") => `(tactic| ((with_reducible show wpAny _ _ (eval (Expr.BinOp _ Operator.Add _ _) _) _ _ _); refine BinOpStop ?_))
theorem news_drop {h₀ h : Heap} {L : Addr} {p q r b : Addr × Obj} {news : List (Addr × Obj)} (N : News h₀ L h (p :: q :: r :: b :: news)) : News h₀ L h (p :: news) := fun z hz => by
  rcases List.mem_cons.mp hz with rfl | hz
  · exact N _ (.head _)
  · exact N _ (.tail _ (.tail _ (.tail _ (.tail _ hz))))
theorem news_drop3 {h₀ h : Heap} {L : Addr} {p q r : Addr × Obj} {news : List (Addr × Obj)} (N : News h₀ L h (p :: q :: r :: news)) : News h₀ L h (p :: news) := fun z hz => by
  rcases List.mem_cons.mp hz with rfl | hz
  · exact N _ (.head _)
  · exact N _ (.tail _ (.tail _ (.tail _ hz)))
local macro_rules | `(tactic| walk_at "subscriptTail Name Slice ref ref") => `(tactic| (k_here; (with_reducible show wpAny _ _ (subscriptTail _ (PySem.Expr.Slice (some _) none none _) (Value.ref _) (Value.ref _)) _ _ _); k_dflt (refine' kmk_slice_ints ?F ?N ?l ?p ?q ?i ?m rfl ?_ ?s ?t ?z; (case F => k_asm); (case N => k_asm); (case l => kmk_list); (case p => kmk_part); (case q => kmk_part); (case i => l_ints); (case m => exact kmk_from (by l_ints) (Int.natCast_nonneg _)); (case s => with_unfolding_all rfl); (case t => kmk_pure); (case z => kmk_size)); intro D' ws' h' F' N' l1 hI' hC' hL'; (try k_lt l1); (try k_sweep)))
theorem law_c18 {w : World} {s : Shared} {L fa : Nat} {cd : Value} {h₀ : Heap} {m₀ mg mb : Str → Option Value} {mean : ExcName → Option Value} {oN oH oW oL oS oO : Obj} {aN : Nat} {n0 n1 n2 n3 n4 n5 : Int} {t0 t1 t2 t3 t4 t5 : Tok} {eN : Nat} {aW r1 r2 r3 : Nat} {u0 u1 u2 u3 : Tok} {g : Int} {tg tl : Tok} {q len : Nat} {st : Array UInt8} {ts : Tok} {aR : Nat} {ys : List Value} {aO : Nat} {o0 o1 o2 : Bool} {du : Array UInt8} {td : Tok} {ws : List Nat} {aK : Nat} {aB : Nat} {yb : List Value} {at' : Nat} {ta : Tok} :
    (hd.heap_39 w.params).In h₀ → Below callerA h₀ [] h₀ → Top hd.view_39 (looseW hd.view_39 [Str.ofString "_initial_missing", Str.ofString "reduce"]) mean mg mb h₀ → 8 ≤ len → len ≤ 54 → ys.length = 6 → IntsAre ys (ws.map fun k : Nat => (k : Int)) → IntsAre yb ((rangeKs 2 len).filter (fun k : Int => ((len : Int).fmod k != 0))) → at' ≤ 6 →
    Fr h₀ L s.heap (fun z => if z = Str.ofString "at" then some (.int (at' : Nat) ta) else if z = Str.ofString "bad" then some (.ref aB) else if z = Str.ofString "row" then some (.ref aR) else m₀ z) → News h₀ L s.heap [(aB, LCg.lst yb), (aK, baObj st), (aO, W.listOf #[.bool o0, .bool o1, .bool o2, .bool false] 0), (aR, LCg.lst ys), (aW, W.listOf #[.int 1 u0, .int (r1 : Nat) u1, .int (r1 * r2 : Nat) u2, .int (r1 * r2 * r3 : Nat) u3] 3), (aN, W.listOf #[.int n0 t0, .int n1 t1, .int n2 t2, .int n3 t3, .int n4 t4, .int n5 t5] eN), (L + 1 + 1 + 1 + 1 + 1 + 1, oO), (L + 1 + 1 + 1 + 1 + 1, oS), (L + 1 + 1 + 1 + 1, oL), (L + 1 + 1 + 1, oW), (L + 1 + 1, oH), (L + 1, oN)] →
    oN.data = .cell (some (.ref aN)) → oH.data = .cell (some (.int g tg)) → oW.data = .cell (some (.ref aW)) → oL.data = .cell (some (.int (len : Nat) tl)) → oS.data = .cell (some (.bytes st ts)) → oO.data = .cell (some (.ref aO)) →
    (∀ (aI aL : Nat) (oI : Obj) items (x : Nat) hh tk, IntsAre items ((ws.take at' ++ [x] ++ ws.drop at').map fun k : Nat => (k : Int)) → IsLI oI aL 0 → (∀ p ∈ [(aL, W.listOf items.toArray 0), (aK, baObj st), (aO, W.listOf #[.bool o0, .bool o1, .bool o2, .bool false] 0), (aR, LCg.lst ys), (aW, W.listOf #[.int 1 u0, .int (r1 : Nat) u1, .int (r1 * r2 : Nat) u2, .int (r1 * r2 * r3 : Nat) u3] 3), (aN, W.listOf #[.int n0 t0, .int n1 t1, .int n2 t2, .int n3 t3, .int n4 t4, .int n5 t5] eN), (L + 1 + 1 + 1 + 1 + 1 + 1, oO), (L + 1 + 1 + 1 + 1 + 1, oS), (L + 1 + 1 + 1 + 1, oL), (L + 1 + 1 + 1, oW), (L + 1 + 1, oH), (L + 1, oN)], p.1 < aI) →
      Fr h₀ L hh (fun z => if z = Str.ofString "left" then some (.ref aI) else (fun z => if z = Str.ofString "at" then some (.int (at' : Nat) ta) else if z = Str.ofString "bad" then some (.ref aB) else if z = Str.ofString "row" then some (.ref aR) else m₀ z) z) → News h₀ L hh ((aI, oI) :: [(aL, W.listOf items.toArray 0), (aK, baObj st), (aO, W.listOf #[.bool o0, .bool o1, .bool o2, .bool false] 0), (aR, LCg.lst ys), (aW, W.listOf #[.int 1 u0, .int (r1 : Nat) u1, .int (r1 * r2 : Nat) u2, .int (r1 * r2 * r3 : Nat) u3] 3), (aN, W.listOf #[.int n0 t0, .int n1 t1, .int n2 t2, .int n3 t3, .int n4 t4, .int n5 t5] eN), (L + 1 + 1 + 1 + 1 + 1 + 1, oO), (L + 1 + 1 + 1 + 1 + 1, oS), (L + 1 + 1 + 1 + 1, oL), (L + 1 + 1 + 1, oW), (L + 1 + 1, oH), (L + 1, oN)]) → 2 ≤ x → x ≤ len + 1 → len % x ≠ 0 → wpC (model PySem.Challenge.rw_mr0035_01.row.prog w) (callerA.deeper (lawEnv L fa cd)) (execs (lawBody.drop 18) (lawEnv L fa cd)) (LawQ h₀ s.gens s.os) (fun _ _ => False) { s with heap := hh, toks := tk }) →
    wpC (model PySem.Challenge.rw_mr0035_01.row.prog w) (callerA.deeper (lawEnv L fa cd)) (execs (lawBody.drop 17) (lawEnv L fa cd)) (LawQ h₀ s.gens s.os) (fun _ _ => False) s := by
  k_fill
  intro X₀ B T h8 h54 hyl hys hyb hat F N dN dH dW dL dS dO K
  have eS : lawScope = Scope.mk _ _ _ _ _ := rfl
  unfold lawEnv
  rw [eS]
  show wpC _ _ (execs (_ :: _) _) _ _ _
  w_on
  have hbl := hyb.length
  have hb1 : 0 < yb.length := by rw [hbl]; exact bad_pos h8
  have hb2 : yb.length ≤ 54 := by rw [hbl]; exact Nat.le_trans (bad_len len) h54
  have hwl : ws.length = 6 := by have := hys.length; rw [List.length_map] at this; omega
  clear hbl
  refine execsC_cons (wpC_of (AssignStopC ?_))
  k_steps
  rename_i D1 ws1 h1 F1 N1 hI1 hC1 hL1 l1
  clear hC1 hL1 l1
  rw [Int.toNat_natCast, ← List.map_take] at hI1
  refine Stop.go ?_
  refine List_ (spliced_more ?_)
  refine Subscript_ ?_
  refine nameX_L (by assumption) rfl ?_ rfl rfl (by decide)
  k_steps
  refine len_list ⟨LCg.lst yb, News.get (by assumption) (by k_mem), rfl, _, rfl⟩ (by rw [List.size_toArray]; omega) ?_
  rw [List.size_toArray]
  have hn0 : ¬ ((yb.length : Nat) : Int) = 0 := by omega
  have g1 := Int.fmod_nonneg_of_pos (n2.fdiv 4) (show (0 : Int) < (yb.length : Int) by omega)
  have g2 := Int.fmod_lt_of_pos (n2.fdiv 4) (show (0 : Int) < (yb.length : Int) by omega)
  refine mod_int' hn0 ?_
  obtain ⟨xv, hxv⟩ : ∃ v, yb[((n2.fdiv 4).fmod (yb.length : Int)).toNat]? = some v := ⟨_, List.getElem?_eq_getElem (by omega)⟩
  obtain ⟨x', tx, rfl, hx'⟩ := IntsAre.at hyb _ _ hxv
  obtain ⟨x, rfl, hx2, hx3, hx4⟩ := bad_in (List.mem_of_getElem? hx')
  have g3 : (n2.fdiv 4).fmod (yb.length : Int) < 2 ^ 63 := by omega
  refine item_at (l := aB) ⟨LCg.lst yb, News.get (by assumption) (by k_mem), rfl, _, rfl⟩ g1 g3 hxv ?_
  refine spliced_none ?_
  clear hx' hxv g1 g2 g3 hn0
  k_steps
  rename_i l2 h2 F2 N2 lt2
  refine Stop.go ?_
  refine kmk_add_ints (ns := (ws.take at').map fun k : Nat => (k : Int)) (ms := [(x : Int)]) F2 N2 ⟨_, News.get N2 (by k_mem), rfl, _, rfl⟩ ⟨_, News.get N2 (by k_mem), rfl, _, rfl⟩ hI1 (.cons _ _ .nil) ?_ (by rw [PySem.sizeLine_eq, List.length_map, List.length_take]; show _ + 1 ≤ _; omega)
  intro D3 ws3 h3 F3 N3 l3 hI3
  refine Stop.go ?_
  have F3' := F3
  have N3' := news_drop N3
  clear F3 N3 l3 lt2 F2 N2 hI1
  k_steps
  rename_i D4 ws4 h4 F4 N4 hI4 hC4 hL4 l4
  rw [Int.toNat_natCast, ← List.map_drop] at hI4
  refine Stop.go ?_
  refine kmk_add_ints (ns := (ws.take at').map (fun k : Nat => (k : Int)) ++ [(x : Int)]) (ms := (ws.drop at').map fun k : Nat => (k : Int)) F4 N4 ⟨_, News.get N4 (by k_mem), rfl, _, rfl⟩ ⟨_, News.get N4 (by k_mem), rfl, _, rfl⟩ hI3 hI4 ?_ (by rw [PySem.sizeLine_eq, List.length_append, List.length_map, List.length_map, List.length_take, List.length_drop]; show _ + 1 + _ ≤ _; omega)
  intro D5 ws5 h5 F5 N5 l5 hI5
  refine spliced_none ?_
  refine iter_listK F5 (news_drop3 N5) (oL := W.listOf ws5.toArray 0) (items := ws5) (by k_mem) ⟨rfl, _, rfl⟩ ?_
  intro I oI h6 hoI F6 N6 l6
  refine Stop.go ?_
  clear F5 N5 F4 N4
  k_steps
  refine K _ _ _ _ x _ _ ?_ hoI l6 (by assumption) (by assumption) hx2 hx3 hx4
  rw [List.map_append, List.map_append]
  exact hI5
end Mine
end

section
open PySem PySem.W PyProof.Rows PySem.Calls
set_option Elab.async false
set_option maxRecDepth 100000
namespace Mine
theorem un_entry : entryFor table "proto.unchain" = some Builtin.«proto.unchain» := by first | exact entryFor_of_fast (by kernel_rfl) | exact entryFor_of_tree (by kernel_rfl)
theorem un_plain : plainId "proto.unchain" = true := by decide +kernel
section
variable {prog : Program} {w : World} {A : Around} {E : Value → Shared → Prop} {s : Shared}
/-- the chain behind an exception that has none -/
theorem unchain_none {x : Value} {e : Addr} {Q : Value → Shared → Prop} (hn : NoCtx e s.heap) (h : Q .none s) :
    wpAny (model prog w) A (runValue (.builtin "proto.unchain" ⟨[x, .ref e, .ref e, .bool false], []⟩)) Q E s := by
  obtain ⟨o, vs, h1, h2, h3⟩ := hn
  refine wpAny_runValue (codeAny_builtin un_entry ?_)
  rw [Around.under_plainId un_plain _]
  unfold Builtin.«proto.unchain»
  refine wpAny_bind (wpAny_field h1 h2 h3 ?_)
  rw [if_pos (by decide)]
  exact wpAny_pure h
/-- a list's iterator at its end, while an exception is handled -/
theorem next_end_h {it l e : Addr} {i : Nat} {items} {Q : Option Value → Shared → Prop} (hh : A.handled = some (.ref e)) (hn : NoCtx e s.heap)
    (hit : s.heap.IsListIter it l i) (hl : s.heap.IsList l items) (hx : items[i]? = none) (hei : e ≠ it)
    (hQ : ∀ h', Heap.ExtBut it s.heap h' → Q none { s with heap := h' }) : wpAny (model prog w) A (pyNext (.ref it)) Q E s := by
  obtain ⟨o, ho, hc, hd⟩ := id hit
  obtain ⟨ol, hol, _, nl, hdl⟩ := hl
  obtain ⟨oe, ve, he1, he2, he3⟩ := hn
  unfold pyNext
  refine wpAny_bind (wpAny_attempt (wpAny_callSpecial?_slot (name := Str.ofString "__next__") hit.typeIs slot_listiter_next
    (wpAny_call_entry slot_listiter_next hit.typeIs entry_listiter_next ?_ (args_listiter_next _))))
  show wpAny _ _ (field (.ref it) 0 >>= _) _ _ s
  refine wpAny_bind (wpAny_field ho hd (x := .ref l) rfl ?_)
  show wpAny _ _ (if (Value.ref l == Value.none) = true then _ else _) _ _ s
  rw [if_neg (show ¬ ((Value.ref l == Value.none) = true) from Bool.false_ne_true)]
  show wpAny _ _ (field (.ref it) 1 >>= _) _ _ s
  refine wpAny_bind (wpAny_field ho hd (x := .int i 0) rfl ?_)
  show wpAny _ _ (seqItems? (.ref l) >>= _) _ _ s
  refine wpAny_bind (wpAny_seqItems hol hdl ?_)
  simp only [Int.toNat_natCast, hx]
  refine wpAny_bind (wpAny_rule (wpAny_bind (wpAny_setField ho hd (by simp) ?_)))
  show wpAny _ _ (newExc (.type "StopIteration") [] >>= _) _ _ _
  refine wpAny_bind ?_
  simp only [newExc, newTuple]
  refine wpAny_bind (wpAny_newObj_type ?_ (by size_fits))
  refine wpAny_bind (m := firstArgMember _ _) (wpAny_of_eq (a := Value.none) (by first | rfl | (simp only [firstArgMember]; rfl)) ?_)
  refine wpAny_newObj_type ?_ (by size_fits)
  simp only [raiseNew]
  refine wpAny_bind (wpAny_handled ?_)
  rw [show A.in1.handled = some (.ref e) from hh]
  have k1 : ∀ b o, b ≠ it → s.heap.get? b = some o → (s.heap.update it (Obj.mapFields fun x => x.setIfInBounds 0 Value.none)).get? b = some o := fun b o hb q => (Heap.get?_update_other _ _ (Ne.symm hb)).trans q
  generalize (s.heap.update it (Obj.mapFields fun x => x.setIfInBounds 0 Value.none)) = H1 at k1 ⊢
  generalize hH2 : H1.push { cls := .type "tuple", dict := none, data := .seq ([] : List Value).toArray } = H2
  have k2 : ∀ b o, b ≠ it → s.heap.get? b = some o → H2.get? b = some o := fun b o hb q => hH2 ▸ Heap.get?_push_of_some _ (k1 b o hb q)
  have gX := Heap.get?_push_size H2 (o := { cls := .type "StopIteration", dict := none, data := .fields (#[.ref H1.objs.size, .none, .none, .none, .bool false, .none] ++ ownMembersOf (.type "StopIteration") []) }) rfl
  have k3 : ∀ b o, b ≠ it → s.heap.get? b = some o → (H2.push { cls := .type "StopIteration", dict := none, data := .fields (#[.ref H1.objs.size, .none, .none, .none, .bool false, .none] ++ ownMembersOf (.type "StopIteration") []) }).get? b = some o := fun b o hb q => Heap.get?_push_of_some _ (k2 b o hb q)
  generalize (H2.push { cls := .type "StopIteration", dict := none, data := .fields (#[.ref H1.objs.size, .none, .none, .none, .bool false, .none] ++ ownMembersOf (.type "StopIteration") []) }) = H3 at gX k3 ⊢
  have heX : e ≠ H2.objs.size := Nat.ne_of_lt (Heap.lt_size (k2 e oe hei he1))
  show wpAny _ _ (if (Value.ref e != Value.ref H2.objs.size) = true then _ else _) _ _ _
  rw [if_pos (by simp [heX])]
  refine wpAny_bind (wpAny_holding (unchain_none ⟨oe, ve, k3 e oe hei he1, he2, he3⟩ ?_))
  show wpAny _ _ (setField (.ref H2.objs.size) 2 (.ref e) >>= fun _ => _) _ _ _
  refine wpAny_bind (wpAny_setField gX rfl (by simp; omega) ?_)
  refine wpAny_throw ?_
  have gX' := Heap.get?_update_self (Obj.mapFields (·.setIfInBounds 2 (Value.ref e))) gX (Obj.isFreed_of_fields (Obj.data_mapFields rfl _))
  refine wpAny_bind (wpAny_isInstance (T := "StopIteration") (b := true) ⟨_, gX', Obj.cls_mapFields _ _⟩ isSubtype_stop ?_)
  refine wpAny_pure (hQ _ fun b o hb q => ?_)
  have hbX : H2.objs.size ≠ b := Ne.symm (Nat.ne_of_lt (Heap.lt_size (k2 b o hb q)))
  exact (Heap.get?_update_other _ _ hbX).trans (k3 b o hb q)
/-- the rest of a list, walked by its iterator while an exception is handled -/
theorem walks_h {e I ax : Addr} {items : Array Value} {i0 : Nat} (hh : A.handled = some (.ref e)) (hne : ax ≠ I) (hei : e ≠ I) (h0 : i0 ≤ items.size) :
    Walks prog w A I [I, ax, e] [I] (items.size - i0) (fun i v => items[i0 + i]? = some v) (fun i h => h.IsListIter I ax (i0 + i) ∧ h.IsList ax items ∧ NoCtx e h) where
  sub := fun b hb => by simp at hb; simp [hb]
  frame := fun _ _ _ st hk => ⟨st.1.at fun o q => hk I (by simp) o q, st.2.1.at fun o q => hk ax (by simp) o q, by
    obtain ⟨o, vs, h1, h2⟩ := st.2.2
    exact ⟨o, vs, hk e (by simp) o h1, h2⟩⟩
  item := fun i s Q E hi st hQ => by
    have hlt : i0 + i < items.size := by omega
    refine wpAny_pyNext_list_item st.1 st.2.1 (x := items[i0 + i]) (by simp [hlt]) fun h' hit' hs' => ?_
    obtain ⟨o, vs, h1, h2⟩ := st.2.2
    exact hQ _ h' s.toks (by simp [hlt]) ⟨hit', st.2.1.extBut hs'.extBut hne, o, vs, hs'.extBut e o hei h1, h2⟩ fun b o hb q => hs'.extBut b o (fun h => hb (by simp [h])) q
  done := fun s Q E st hQ => next_end_h hh st.2.2 st.1 st.2.1 (by simp; omega) hei fun h' he' => hQ h' s.toks fun b o hb q => he' b o (fun h => hb (by simp [h])) q
  self := fun i s Q E st hQ => wpAny_pyIter_listiter st.1 hQ
end
section
variable {prog : Program} {w : World} {A : Around} {E : Value → Shared → Prop} {s : Shared} {R : Result → Shared → Prop}
variable {I : Addr} {fp wr : List Addr} {G : Array GenState → Array GenState → Prop} {n : Nat} {P : Nat → Value → Prop} {St : Nat → Shared → Prop}
theorem extend_li (W : WalksS prog w A.in1 I fp wr G n P St) (hT : ∀ i s, St i s → s.TypeIs (.ref I) "list_iterator") (S : Addr) (c₀ : Nat) (hst : St 0 s) (hSf : S ∉ fp) (hI : I ∈ fp)
    (hS : s.heap.get? S = some { cls := .type "list", data := .seq #[] c₀ })
    (hR : ∀ s' acc' c', Moved (S :: wr) G s s' → s'.heap.get? S = some { cls := .type "list", dict := none, data := .seq acc' c', slots := #[] } → ItemsOf P acc' n → R (.ok (.ret .none)) s') (hn : n ≤ sizeLine) :
    wpAny (model prog w) A.in1 (Builtin.List.listExtendWith (.ref S) (.ref I) .none)
      (fun fin s' => match fin with | .done f => R (.ok f) s' | .again c' => c'.quiet = true ∧ codeAny (model prog w) A c' R s') (fun e s' => R (.error e) s') s := by
  have hSI : S ≠ I := fun e => hSf (e ▸ hI)
  have h1 : Builtin.List.listSameRef (.ref S) (.ref I) = false := by simp [Builtin.List.listSameRef, hSI]
  unfold Builtin.List.listExtendWith
  refine wpAny_bind (wpAny_typeOf (hT 0 _ hst) ?_)
  rw [if_neg (by rw [h1]; decide)]
  refine wpAny_bind (W.self 0 _ _ _ hst ?_)
  refine wpAny_bind (wpAny_holding ?_)
  unfold Builtin.List.listLengthHint
  refine wpAny_bind (wpAny_specialOf (hT 0 _ hst) F.nolen_li ?_)
  show wpAny _ A.in1 (specialOf (Value.ref I) (Str.ofString "__length_hint__") >>= _) _ _ _
  refine wpAny_bind (wpAny_specialOf (hT 0 _ hst) F.hint_li ?_)
  generalize hid : ("list_iterator.__length_hint__" : String) = id0
  wp_delta
  rw [show splitId id0 = some ("list_iterator", "__length_hint__") from by subst hid; decide +kernel]
  subst hid
  refine wpAny_bind (wpAny_isInstance (b := true) (hT 0 _ hst) (by rw [isSubtype_type]; kernel_rfl) ?_)
  refine wpAny_pure ?_
  rw [if_neg (by decide)]
  refine wpAny_pure ⟨plainId_quiet F.plain_extend_loop _, codeAny_extend_loopS W hn _ hSf _ n 0 _ _ _ rfl (Nat.zero_le _) hst hS (ItemsOf.nil P) hR⟩
theorem init_li (W : WalksS prog w A.in1 I fp wr G n P St) (hT : ∀ i s, St i s → s.TypeIs (.ref I) "list_iterator") (S : Addr) (hst : St 0 s) (hSf : S ∉ fp) (hI : I ∈ fp)
    (hS : s.heap.get? S = some { cls := .type "list", data := .seq #[] })
    (hR : ∀ s' acc' c', Moved (S :: wr) G s s' → s'.heap.get? S = some { cls := .type "list", dict := none, data := .seq acc' c', slots := #[] } → ItemsOf P acc' n → R (.ok (.ret .none)) s') (hn : n ≤ sizeLine) :
    wpAny (model prog w) A.in1 (Builtin.«list.__init__» ⟨[.ref S, .ref I], []⟩)
      (fun fin s' => match fin with | .done f => R (.ok f) s' | .again c' => c'.quiet = true ∧ codeAny (model prog w) A c' R s') (fun e s' => R (.error e) s') s := by
  show wpAny _ A.in1 (do let old ← Builtin.List.listItems (.ref S); Builtin.List.listUpdate (.ref S) (fun _ => #[]); letGo old.toList.reverse; Builtin.List.listExtendWith (.ref S) (.ref I) .none) _ _ s
  refine wpAny_bind ?_
  unfold Builtin.List.listItems
  refine wpAny_bind (wpAny_seqItems hS rfl (wpAny_pure ?_))
  show wpAny _ A.in1 (updateSeq S (fun _ => #[]) >>= fun _ => letGo (#[] : Array Value).toList.reverse >>= fun _ => Builtin.List.listExtendWith (.ref S) (.ref I) .none) _ _ s
  refine wpAny_bind (wpAny_updateSeq hS rfl ?_)
  have hS₂ := Heap.get?_update_self (Obj.mapSeq (fun _ => (#[] : Array Value))) hS rfl
  have oth : ∀ b o, b ≠ S → s.heap.get? b = some o → (s.heap.update S (Obj.mapSeq (fun _ => (#[] : Array Value)))).get? b = some o := fun b o hb q => (Heap.get?_update_other _ _ (Ne.symm hb)).trans q
  refine wpAny_bind (wpAny_letGo ?_)
  refine extend_li (hn := hn) W hT S _ (W.frame 0 s _ s.toks hst (Nat.le_refl _) fun b hb o q => oth b o (fun h => hSf (h ▸ hb)) q) hSf hI hS₂ fun s' acc' c' hm hS' hacc => ?_
  exact hR s' acc' c' (Moved.trans W.gtrans ((Moved.refl W.grefl).then_heap (Nat.le_refl _) fun b o hb q => oth b o (fun h => hb (h ▸ List.mem_cons_self)) q) hm) hS' hacc
/-- list(it) of a list's iterator -/
theorem call_list_li {Q : Value → Shared → Prop} (W : WalksS prog w A.in1.in1 I fp wr G n P St) (hT : ∀ i s, St i s → s.TypeIs (.ref I) "list_iterator") (hst : St 0 s) (hfp : ∀ b ∈ fp, b < s.heap.objs.size) (hI : I ∈ fp)
    (hQ : ∀ s' acc' c', Moved (s.heap.objs.size :: wr) G { s with heap := s.heap.push { cls := .type "list", data := .seq #[] } } s' →
      s'.heap.get? s.heap.objs.size = some { cls := .type "list", dict := none, data := .seq acc' c', slots := #[] } → ItemsOf P acc' n → Q (.ref s.heap.objs.size) s') (hn : n ≤ sizeLine) :
    wpAny (model prog w) A (call (.type "list") [.ref I]) Q E s := by
  have hSf : s.heap.objs.size ∉ fp := fun hm => Nat.lt_irrefl _ (hfp _ hm)
  refine callType_codes (Q₁ := fun obj s₁ => obj = .ref s.heap.objs.size ∧ s₁ = { s with heap := s.heap.push { cls := .type "list", data := .seq #[] } }) F.called_list (F.typeCall_list_1 _) F.entry_list_init
    (code_list_new _ ⟨rfl, rfl⟩) fun obj s₁ h₁ => ?_
  obtain ⟨rfl, rfl⟩ := h₁
  have hS : (s.heap.push { cls := .type "list", data := .seq #[] }).get? s.heap.objs.size = some { cls := .type "list", data := .seq #[] } := Heap.get?_push_size _ rfl
  exact ⟨⟨_, hS, rfl⟩, F.args_list_init_2 _ _, init_li (hn := hn) W hT _ (W.frame 0 s _ s.toks hst (Nat.le_refl _) fun b _ o q => Heap.get?_push_of_some _ q) hSf hI hS fun s' acc' c' hm hS' hacc => ⟨rfl, hQ s' acc' c' hm hS' hacc⟩⟩
end
end Mine
end

section
open PySem PySem.W PyProof.Rows PySem.Calls
set_option Elab.async false
set_option maxRecDepth 100000
namespace Mine
section
variable {prog : Program} {w : World} {A : Around} {E : Value → Shared → Prop} {s : Shared} {h₀ : Heap} {L : Addr} {m : Str → Option Value} {rest : List (Addr × Obj)}
theorem list_restK {I l e : Addr} {i0 : Nat} {oI oL : Obj} {items : List Value} {Q : Value → Shared → Prop} (hh : A.handled = some (.ref e)) (hn : NoCtx e s.heap) (F : Fr h₀ L s.heap m) (N : News h₀ L s.heap ((I, oI) :: rest))
    (hoI : IsLI oI l i0) (hl : (l, oL) ∈ rest) (hL : IsLst oL items) (hoff : ∀ p ∈ rest, p.1 ≠ I) (h0 : i0 ≤ items.length) (hsz : items.length ≤ sizeLine)
    (hQ : ∀ D c h' tk, Fr h₀ L h' m → News h₀ L h' ((D, W.listOf (items.drop i0).toArray c) :: rest) → Q (.ref D) { s with heap := h', toks := tk }) :
    wpAny (model prog w) A (call (.type "list") [.ref I]) Q E s := by
  have DI := N (I, oI) (.head _)
  have gI := DI.1
  have gl := (N (l, oL) (.tail _ hl)).1
  have hlI : l ≠ I := hoff _ hl
  have heI : e ≠ I := by
    rintro rfl
    obtain ⟨o, vs, h1, h2, h3⟩ := hn
    rw [gI] at h1
    obtain rfl := Option.some.inj h1
    rw [hoI.2] at h2
    cases h2
    cases h3
  obtain ⟨oe, ve, ge, he2, he3⟩ := id hn
  have W := (walks_h (prog := prog) (w := w) (A := A.in1.in1) (e := e) (I := I) (ax := l) (items := items.toArray) (i0 := i0) hh hlI heI (by simpa using h0)).toS
  refine call_list_li W (fun i s st => st.1.typeIs) ⟨hoI.at gI, hL.at gl, hn⟩ (fun b hb => ?_) (by simp) (fun s' acc c hm hS hacc => ?_) (by simp; omega)
  · simp only [List.mem_cons, List.not_mem_nil, or_false] at hb
    rcases hb with rfl | rfl | rfl
    · exact Heap.lt_size gI
    · exact Heap.lt_size gl
    · exact Heap.lt_size ge
  have eacc : acc = (items.drop i0).toArray := by
    obtain ⟨z1, z2⟩ := hacc
    refine Array.ext (by simp [z1]) fun j hj1 hj2 => ?_
    have q := z2 j _ (Array.getElem?_eq_getElem hj1)
    have q2 : items[i0 + j]? = some acc[j] := by simpa using q
    obtain ⟨_, q3⟩ := List.getElem?_eq_some_iff.mp q2
    simp [← q3]
  obtain ⟨hp', g', d', tk', os'⟩ := s'
  obtain ⟨m1, m2, m3, m4, m5⟩ := hm
  dsimp only at m1 m2 m3 m4 hS
  subst m2 m3 m4
  have up : ∀ b o, b ≠ I → s.heap.get? b = some o → hp'.get? b = some o := fun b o hb q => m1 b o (by
    have := Heap.lt_size q
    simp only [List.mem_cons, List.not_mem_nil, or_false, not_or]
    exact ⟨Nat.ne_of_lt this, hb⟩) (Heap.get?_push_of_some _ q)
  have F' : Fr h₀ L hp' m := ⟨F.ns.at' fun o q => up L o (Ne.symm DI.2.1) q, fun b o q => up b o (fun y => by rw [y] at q; have z := DI.2.2; dsimp only at z; rw [z] at q; cases q) (F.keep b o q), F.above⟩
  refine hQ s.heap.objs.size c hp' tk' F' fun p hp => ?_
  rcases List.mem_cons.mp hp with rfl | hp
  · refine ⟨by rw [hS, eacc], Nat.ne_of_gt F.ns.lt, next_is_new F⟩
  · exact ⟨up _ _ (hoff p hp) (N p (.tail _ hp)).1, (N p (.tail _ hp)).2⟩
end
section
variable {prog : Program} {w : World} {A : Around} {E : Value → Shared → Prop} {s : Shared} {env : Env}
/-- try with an except clause, over a clean stack -/
theorem TryC {body orelse : List Stmt} {c₀ : ExceptHandler} {cs : List ExceptHandler} {pos : Pos} {Q : Flow → Shared → Prop}
    (h : wpC (model prog w) A (execs body env) (fun f s₁ => match f with | .next => wpAny (model prog w) A (execs orelse env) Q E s₁ | f => Q f s₁)
      (fun e s₁ => wpAny (model prog w) A (noteFrame e env) (fun _ s₂ => wpAny (model prog w) A (setFlight e none) (fun _ s₃ => wpAny (model prog w) A (handleBy e env (c₀ :: cs)) Q E s₃) E s₂) E s₁) s) :
    wpC (model prog w) A (exec (.Try body (c₀ :: cs) orelse [] pos) env) Q E s := by
  rw [arm_exec_Try]
  refine wpC_standAt ?_
  unfold tryStmt
  simp only [List.isEmpty_nil, if_true, List.isEmpty_cons, Bool.false_and, Bool.false_eq_true, if_false]
  refine wpC_bind (wpC_attempt (wpC_mono h (fun f s₁ h₁ => ?_) fun e s₁ h₁ => ?_))
  · cases f <;> first | exact wpC_of h₁ | exact wpC_pure h₁
  · exact wpC_of (wpAny_bind (wpAny_mono h₁ (fun _ _ h₂ => wpAny_bind h₂) fun _ _ x => x))
end
end Mine
end

section
open PySem PySem.W PyProof.Rows PySem.Calls
set_option Elab.async false
set_option maxRecDepth 100000
namespace Mine
section
variable {prog : Program} {w : World} {A₀ : Around} {s' : Shared} {h₀ h : Heap} {outer : List Env} {L a e : Addr} {m : Str → Option Value} {name : Str} {scope : Scope} {cd : Value} {cl : List (Str × Addr)}
  {b₀ : Stmt} {suite : List Stmt} {pos np : Pos} {rest : List ExceptHandler} {Q : Flow → Shared → Prop} {news : List (Addr × Obj)} {KF : Frag}
  {p : Program} {loose : List Str} {mg mb : Str → Option Value}
/-- an IndexError caught in a call whose names are captured; the exception's context is still None -/
theorem caught_C (K : Below A₀ h₀ outer h₀) (F : Fr h₀ L h m) (hsm : h.UpToSlots s'.heap) (R : RaisedN h₀ (envX name scope L a cd cl :: outer) e (.type "IndexError") news s'.heap) (hnc : NoCtx e s'.heap)
    (X : KF.In h₀) (T : TopRead p loose mg mb h₀) (en : nsIn KF mainGlobals (Str.ofString "IndexError") = some none)
    (k : ∀ h', Fr h₀ L h' m → News h₀ L h' news → NoCtx e h' →
      wpAny (model prog w) ((A₀.deeper (envX name scope L a cd cl)).mark (some (.ref e))) (execs (b₀ :: suite) (envX name scope L a cd cl)) Q (fun _ _ => False) { s' with heap := h' })
    (hk : scope.kind = .function := by rfl) (hx : (envX name scope L a cd cl).kindOf (Str.ofString "IndexError") = some .globalImplicit := by rfl) :
    wpAny (model prog w) (A₀.deeper (envX name scope L a cd cl)) (noteFrame (.ref e) (envX name scope L a cd cl))
      (fun _ s₂ => wpAny (model prog w) (A₀.deeper (envX name scope L a cd cl)) (setFlight (.ref e) none) (fun _ s₃ =>
        wpAny (model prog w) (A₀.deeper (envX name scope L a cd cl)) (handleBy (.ref e) (envX name scope L a cd cl) (.ExceptHandler (some (.Name (Str.ofString "IndexError") np)) none (b₀ :: suite) pos :: rest)) Q (fun _ _ => False) s₃) (fun _ _ => False) s₂) (fun _ _ => False) s' := by
  obtain ⟨B, a0, hB, hl, hfl⟩ := R
  have hL : B.get? L = none := by
    obtain ⟨_, ⟨L', _, hf, hn', _⟩, _⟩ := hfl.2.2.1
    obtain rfl : L = L' := Option.some.inj hf
    exact hn'
  refine wpAny_mono (wpAny_keep (pres_noteFrame _ _) hnc (wpAny_looks_onW (Q := fun _ s₂ => ∃ h₄, s₂ = { s' with heap := h₄ } ∧ Heap.HeldW B (envX name scope L a cd cl :: outer) e (.type "IndexError") a0 L h₄ ∧ s'.heap.UpToSlots h₄) (Around.frames_deeper K.stack) rfl hfl fun h₄ x y => ⟨h₄, rfl, x, y⟩)) (fun _ s₂ hq => ?_) fun _ _ x => x
  obtain ⟨⟨h₄, rfl, hheld₄, hsm₄⟩, hn₄⟩ := hq
  refine wpAny_mono (wpAny_keep (pres_setFlight _ _) hn₄ (wpAny_landsW (Q := fun _ s₂ => ∃ h₅, s₂ = { s' with heap := h₅ } ∧ Heap.FlyingW B (envX name scope L a cd cl :: outer) e (.type "IndexError") a0 h₅ ∧ h₄.UpToSlots h₅) hheld₄ fun h₅ x y => ⟨h₅, rfl, x, y⟩)) (fun _ s₂ hq => ?_) fun _ _ x => x
  obtain ⟨⟨h₅, rfl, hheld, hsm₅'⟩, hn₅⟩ := hq
  have hsm₅ := hsm₄.trans hsm₅'
  have hheld' := flyingW_base hB hheld
  have F₅ := F.of_stays hheld'.1 (hsm.trans hsm₅)
  obtain ⟨ob, hob, hobc⟩ := hheld'.there
  refine wpAny_handleBy_builtin (X := "IndexError") (T := "IndexError") (b := true) PySem.F.isExc_IndexError PySem.F.notTuple_IndexError (by rw [isSubtype_type]; kernel_rfl)
    (nameX_B F₅ X T en PyProof.Rows.Boot.«IndexError» (by decide) ⟨rfl, ⟨ob, hob, hobc⟩, ?_⟩ hk hx (by decide))
  refine wpAny_mono (wpAny_keep (pres_setFlight _ _) hn₅ (lands_againW (Q := fun _ s₂ => ∃ h₆, s₂ = { s' with heap := h₆ } ∧ Heap.FlyingW B (envX name scope L a cd cl :: outer) e (.type "IndexError") a0 h₆ ∧ h₅.UpToSlots h₆) hheld fun h₆ x y => ⟨h₆, rfl, x, y⟩)) (fun _ s₂ hq => ?_) fun _ _ x => x
  obtain ⟨⟨h₆, rfl, hfl₆, hsm₆⟩, hn₆⟩ := hq
  have F₆ := F.of_stays (flyingW_base hB hfl₆).1 ((hsm.trans hsm₅).trans hsm₆)
  exact wpAny_mono (k h₆ F₆ (fun q hq => ⟨hfl₆.1 _ _ (hl q hq).1, (fun z => by have := (hl q hq).1; rw [z, hL] at this; cases this), (hl q hq).2⟩) hn₆) (fun _ _ x => x) fun _ _ x => x.elim
end
end Mine
end

section
open PySem PySem.W PyProof.Rows PySem.Calls
set_option Elab.async false
set_option maxRecDepth 100000
namespace Mine
set_option pp.deepTerms false
set_option pp.deepTerms.threshold 5
set_option pp.proofs false
set_option maxHeartbeats 4000000

theorem drop_ints {items : List Value} {ws : List Nat} {x a : Nat} (h : IntsAre items ((ws.take a ++ [x] ++ ws.drop a).map fun k : Nat => (k : Int))) (ha : a ≤ ws.length) : IntsAre (items.drop (a + 1)) ((ws.drop a).map fun k : Nat => (k : Int)) := by
  have h1 := IntsAre.drop h (a + 1)
  have e : ((ws.take a ++ [x] ++ ws.drop a).map fun k : Nat => (k : Int)).drop (a + 1) = (ws.drop a).map fun k : Nat => (k : Int) := by
    rw [← List.map_drop]
    congr 1
    have hl : (ws.take a ++ [x]).length = a + 1 := by simp; omega
    rw [← hl, List.drop_left]
  exact e ▸ h1
theorem bad_at {ws : List Nat} {x a : Nat} (ha : a ≤ ws.length) : (ws.take a ++ [x] ++ ws.drop a)[a]? = some x := by
  have hl : (ws.take a).length = a := by simp; omega
  rw [List.append_assoc, List.getElem?_append_right (by omega), hl, Nat.sub_self]
  rfl
theorem good_at {ws : List Nat} {x a i k : Nat} (ha : a ≤ ws.length) (hi : i < a) (h : (ws.take a ++ [x] ++ ws.drop a)[i]? = some k) : k ∈ ws := by
  have hl : (ws.take a).length = a := by simp; omega
  rw [List.append_assoc, List.getElem?_append_left (by omega)] at h
  exact List.mem_of_mem_take (List.mem_of_getElem? h)
theorem news_drop2 {h₀ h : Heap} {L : Addr} {p q : Addr × Obj} {news : List (Addr × Obj)} (N : News h₀ L h (p :: q :: news)) : News h₀ L h (p :: news) := fun z hz => by
  rcases List.mem_cons.mp hz with rfl | hz
  · exact N _ (.head _)
  · exact N _ (.tail _ (.tail _ hz))
local macro_rules | `(tactic| walk_at "subscriptTail Name Slice ref ref") => `(tactic| (k_here; (with_reducible show wpAny _ _ (subscriptTail _ (PySem.Expr.Slice (some _) none none _) (Value.ref _) (Value.ref _)) _ _ _); k_dflt (refine' kmk_slice_ints ?F ?N ?l ?p ?q ?i ?m rfl ?_ ?s ?t ?z; (case F => k_asm); (case N => k_asm); (case l => kmk_list); (case p => kmk_part); (case q => kmk_part); (case i => l_ints); (case m => exact kmk_from (by l_ints) (Int.natCast_nonneg _)); (case s => with_unfolding_all rfl); (case t => kmk_pure); (case z => kmk_size)); intro D' ws' h' F' N' l1 hI' hC' hL'; (try k_lt l1); (try k_sweep)))
theorem law_c19 {w : World} {s : Shared} {L fa : Nat} {cd : Value} {h₀ : Heap} {m₀ mg mb : Str → Option Value} {mean : ExcName → Option Value} {oN oH oW oL oS oO : Obj} {aN : Nat} {n0 n1 n2 n3 n4 n5 : Int} {t0 t1 t2 t3 t4 t5 : Tok} {eN : Nat} {aW r1 r2 r3 : Nat} {u0 u1 u2 u3 : Tok} {g : Int} {tg tl : Tok} {q len : Nat} {st : Array UInt8} {ts : Tok} {aR : Nat} {ys : List Value} {aO : Nat} {o0 o1 o2 : Bool} {du : Array UInt8} {td : Tok} {ws : List Nat} {aK : Nat} {aB : Nat} {yb : List Value} {at' : Nat} {ta : Tok} {aI aL : Nat} {oI : Obj} {items : List Value} {x : Nat} :
    (hd.heap_39 w.params).In h₀ → Below callerA h₀ [] h₀ → Top hd.view_39 (looseW hd.view_39 [Str.ofString "_initial_missing", Str.ofString "reduce"]) mean mg mb h₀ → st.size = len → len ≤ 54 → ys.length = 6 → IntsAre ys (ws.map fun k : Nat => (k : Int)) → (∀ k ∈ ws, 1 ≤ k ∧ k ≤ 65536 ∧ st.size % k = 0) → at' ≤ 6 →
    IntsAre items ((ws.take at' ++ [x] ++ ws.drop at').map fun k : Nat => (k : Int)) → IsLI oI aL 0 → (∀ p ∈ [(aL, W.listOf items.toArray 0), (aK, baObj st), (aO, W.listOf #[.bool o0, .bool o1, .bool o2, .bool false] 0), (aR, LCg.lst ys), (aW, W.listOf #[.int 1 u0, .int (r1 : Nat) u1, .int (r1 * r2 : Nat) u2, .int (r1 * r2 * r3 : Nat) u3] 3), (aN, W.listOf #[.int n0 t0, .int n1 t1, .int n2 t2, .int n3 t3, .int n4 t4, .int n5 t5] eN), (L + 1 + 1 + 1 + 1 + 1 + 1, oO), (L + 1 + 1 + 1 + 1 + 1, oS), (L + 1 + 1 + 1 + 1, oL), (L + 1 + 1 + 1, oW), (L + 1 + 1, oH), (L + 1, oN)], p.1 < aI) → 2 ≤ x → x ≤ len + 1 → len % x ≠ 0 →
    Fr h₀ L s.heap (fun z => if z = Str.ofString "left" then some (.ref aI) else (fun z => if z = Str.ofString "at" then some (.int (at' : Nat) ta) else if z = Str.ofString "bad" then some (.ref aB) else if z = Str.ofString "row" then some (.ref aR) else m₀ z) z) → News h₀ L s.heap ((aI, oI) :: [(aL, W.listOf items.toArray 0), (aK, baObj st), (aO, W.listOf #[.bool o0, .bool o1, .bool o2, .bool false] 0), (aR, LCg.lst ys), (aW, W.listOf #[.int 1 u0, .int (r1 : Nat) u1, .int (r1 * r2 : Nat) u2, .int (r1 * r2 * r3 : Nat) u3] 3), (aN, W.listOf #[.int n0 t0, .int n1 t1, .int n2 t2, .int n3 t3, .int n4 t4, .int n5 t5] eN), (L + 1 + 1 + 1 + 1 + 1 + 1, oO), (L + 1 + 1 + 1 + 1 + 1, oS), (L + 1 + 1 + 1 + 1, oL), (L + 1 + 1 + 1, oW), (L + 1 + 1, oH), (L + 1, oN)]) →
    oN.data = .cell (some (.ref aN)) → oH.data = .cell (some (.int g tg)) → oW.data = .cell (some (.ref aW)) → oL.data = .cell (some (.int (len : Nat) tl)) → oS.data = .cell (some (.bytes st ts)) → oO.data = .cell (some (.ref aO)) →
    wpC (model PySem.Challenge.rw_mr0035_01.row.prog w) (callerA.deeper (lawEnv L fa cd)) (execs (lawBody.drop 18) (lawEnv L fa cd)) (LawQ h₀ s.gens s.os) (fun _ _ => False) s := by
  k_fill
  intro X₀ B T hsz h54 hyl hys hws hat hit hoI lt hx2 hx3 hx4 F N dN dH dW dL dS dO
  have hwl : ws.length = 6 := by have := hys.length; rw [List.length_map] at this; omega
  have eS : lawScope = Scope.mk _ _ _ _ _ := rfl
  unfold lawEnv
  rw [eS]
  show wpC _ _ (execs (_ :: _) _) _ _ _
  w_on
  refine execsC_cons (TryC (execsC_cons (ExprC (CallC ?_))))
  k_steps
  refine callWithC_K (K := (hd.heap_39 w.params)) (by k_is) ?_
  k_steps
  refine wpC_call (rd_bad (ws := ws.take at' ++ [x] ++ ws.drop at') (n := at') (x := x) (b := st) (items := items) X₀ B F N T rfl rfl rfl (by simp only [depth_deeper, depth_caller]; decide) rfl rfl hoI (fun p hp => Nat.ne_of_lt (lt p hp)) (by k_mem) ⟨rfl, _, rfl⟩ hit (by omega) (fun i k hi hk => hws k (good_at (by omega) hi hk)) (bad_at (by omega)) (by omega) (by omega) (by rw [hsz]; exact hx4) ?_)
  intro g₂ h' tk e oI' hoI' F' sm R' hn'
  dsimp only
  refine caught_C (KF := (hd.heap_39 w.params)) B F' sm R' hn' X₀ (by k_asm) (by k_is) ?_
  intro h2 F2 N2 hn2
  clear N F F'
  refine wpAny_execs_cons (AssignStopC ?_)
  k_steps
  have hil := hit.length
  have hil2 : items.length = 7 := by rw [hil, List.length_map, List.length_append, List.length_append, List.length_take, List.length_drop]; show _ + 1 + _ = 7; omega
  refine list_restK (items := items) (i0 := at' + 1) rfl hn2 F2 N2 hoI' (List.Mem.head _) ⟨rfl, _, rfl⟩ (fun p hp => Nat.ne_of_lt (lt p hp)) (by omega) (by rw [PySem.sizeLine_eq]; omega) ?_
  intro aD c h3 tk3 F3 N3
  have hrs := drop_ints hit (by omega : at' ≤ ws.length)
  have hrl : (items.drop (at' + 1)).length ≤ 7 := by rw [List.length_drop]; omega
  generalize items.drop (at' + 1) = rs at N3 hrs hrl
  have N3' := news_drop2 N3
  clear N3 N2 F2 hit hil hil2 lt hoI hoI' R'
  refine Stop.go ?_
  k_steps
  show wpC _ _ (execs (_ :: _) _) _ _ _
  refine execsC_cons (wpC_stop ?_)
  k_steps
  refine Stop.go ⟨congrArg (fun b => Flow.ret (Value.bool b)) (decide_eq_true ?_), rfl, rfl, fun b o q => Fr.keep (by assumption) b o q⟩
  rw [Int.toNat_natCast, List.map_drop]
end Mine
end

section
open PySem PySem.W PyProof.Rows PySem.Calls
set_option Elab.async false
set_option maxRecDepth 100000
namespace Mine
set_option pp.deepTerms false
set_option pp.deepTerms.threshold 5
set_option pp.proofs false
set_option maxHeartbeats 4000000
local macro_rules | `(tactic| walk_at "subscriptTail Name Slice ref ref") => `(tactic| (k_here; (with_reducible show wpAny _ _ (subscriptTail _ (PySem.Expr.Slice (some _) none none _) (Value.ref _) (Value.ref _)) _ _ _); k_dflt (refine' kmk_slice_ints ?F ?N ?l ?p ?q ?i ?m rfl ?_ ?s ?t ?z; (case F => k_asm); (case N => k_asm); (case l => kmk_list); (case p => kmk_part); (case q => kmk_part); (case i => l_ints); (case m => exact kmk_from (by l_ints) (Int.natCast_nonneg _)); (case s => with_unfolding_all rfl); (case t => kmk_pure); (case z => kmk_size)); intro D' ws' h' F' N' l1 hI' hC' hL'; (try k_lt l1); (try k_sweep)))

theorem six {ws : List Value} {ns : List Int} (h : IntsAre ws (ns.take 6 ++ [42, 17, 3, 2, 8, 6].drop (ns.take 6).length)) :
    ∃ n0 n1 n2 n3 n4 n5 t0 t1 t2 t3 t4 t5, ws = [.int n0 t0, .int n1 t1, .int n2 t2, .int n3 t3, .int n4 t4, .int n5 t5] := by
  have hl : ws.length = 6 := by
    rw [h.length, List.length_append, List.length_drop, List.length_take]
    show _ + (6 - _) = 6
    omega
  generalize (ns.take 6 ++ [42, 17, 3, 2, 8, 6].drop (ns.take 6).length) = ms at h
  match h, hl with
  | .cons n0 t0 (.cons n1 t1 (.cons n2 t2 (.cons n3 t3 (.cons n4 t4 (.cons n5 t5 .nil))))), _ => exact ⟨n0, n1, n2, n3, n4, n5, t0, t1, t2, t3, t4, t5, rfl⟩
theorem law_c1 {w : World} {s : Shared} {L fa sa : Nat} {cd : Value} {h₀ : Heap} {mg mb : Str → Option Value} {mean : ExcName → Option Value} {vs : List Value} {ns : List Int} {oN oH oW oL oS oO : Obj} :
    (hd.heap_39 w.params).In h₀ → Below callerA h₀ [] h₀ → Top hd.view_39 (looseW hd.view_39 [Str.ofString "_initial_missing", Str.ofString "reduce"]) mean mg mb h₀ → h₀.IsList sa vs.toArray → IntsAre vs ns → ns.length ≤ 63 →
    Fr h₀ L s.heap (fun y => if y = Str.ofString "script" then some (.ref sa) else none) → News h₀ L s.heap [(L + 1 + 1 + 1 + 1 + 1 + 1, oO), (L + 1 + 1 + 1 + 1 + 1, oS), (L + 1 + 1 + 1 + 1, oL), (L + 1 + 1 + 1, oW), (L + 1 + 1, oH), (L + 1, oN)] →
    oN.data = .cell none → oH.data = .cell none → oW.data = .cell none → oL.data = .cell none → oS.data = .cell none → oO.data = .cell none →
    (∀ (aN : Nat) (oN : Obj) n0 n1 n2 n3 n4 n5 t0 t1 t2 t3 t4 t5 eN hh tk, @LT.lt Nat _ (L + 1 + 1 + 1 + 1 + 1 + 1) aN → Fr h₀ L hh (fun y => if y = Str.ofString "script" then some (.ref sa) else none) → News h₀ L hh [(aN, W.listOf #[.int n0 t0, .int n1 t1, .int n2 t2, .int n3 t3, .int n4 t4, .int n5 t5] eN), (L + 1 + 1 + 1 + 1 + 1 + 1, oO), (L + 1 + 1 + 1 + 1 + 1, oS), (L + 1 + 1 + 1 + 1, oL), (L + 1 + 1 + 1, oW), (L + 1 + 1, oH), (L + 1, oN)] →
      oN.data = .cell (some (.ref aN)) → wpC (model PySem.Challenge.rw_mr0035_01.row.prog w) (callerA.deeper (lawEnv L fa cd)) (execs (lawBody.drop 1) (lawEnv L fa cd)) (LawQ h₀ s.gens s.os) (fun _ _ => False) { s with heap := hh, toks := tk }) →
    wpC (model PySem.Challenge.rw_mr0035_01.row.prog w) (callerA.deeper (lawEnv L fa cd)) (execs (lawBody.drop 0) (lawEnv L fa cd)) (LawQ h₀ s.gens s.os) (fun _ _ => False) s := by
  k_fill
  intro X₀ B T hS hI hlen F N dN dH dW dL dS dO K
  have eS : lawScope = Scope.mk _ _ _ _ _ := rfl
  unfold lawEnv
  rw [eS]
  show wpC _ _ (execs (_ :: _) _) _ _ _
  w_on
  refine execsC_cons (wpC_of ?_)
  k_steps
  rename_i hI' l1 h' o' F' N' d'
  rw [Int.toNat_natCast] at hI'
  obtain ⟨n0, n1, n2, n3, n4, n5, t0, t1, t2, t3, t4, t5, rfl⟩ := six hI'
  refine K _ _ n0 n1 n2 n3 n4 n5 t0 t1 t2 t3 t4 t5 0 _ _ ?_ F' (News.perm N' ?_) d'
  · omega
  · intro p hp
    rcases List.mem_cons.mp hp with rfl | hp
    · exact List.mem_cons_self
    · exact .tail _ (.tail _ (.tail _ (.tail _ (.tail _ hp))))
end Mine
end

section
open PySem PySem.W PyProof.Rows PySem.Calls
set_option Elab.async false
set_option maxRecDepth 100000
namespace Mine
set_option pp.deepTerms false
set_option pp.deepTerms.threshold 5
set_option pp.proofs false
set_option maxHeartbeats 4000000

theorem map_row2 {m : Str → Option Value} {a b v : Option Value} (h : m (Str.ofString "row") = v) : (fun z => if z = Str.ofString "at" then a else if z = Str.ofString "bad" then b else m z) =
    fun z => if z = Str.ofString "at" then a else if z = Str.ofString "bad" then b else if z = Str.ofString "row" then v else m z := by
  funext z
  by_cases e : z = Str.ofString "row"
  · subst e; simp [h]
  · simp [e]
theorem law_all {w : World} {s : Shared} {L fa sa : Nat} {cd : Value} {h₀ : Heap} {mg mb : Str → Option Value} {mean : ExcName → Option Value} {vs : List Value} {ns : List Int} {oN oH oW oL oS oO : Obj}
    (X₀ : (hd.heap_39 w.params).In h₀) (B : Below callerA h₀ [] h₀) (T : Top hd.view_39 (looseW hd.view_39 [Str.ofString "_initial_missing", Str.ofString "reduce"]) mean mg mb h₀) (hS : h₀.IsList sa vs.toArray) (hI : IntsAre vs ns) (hlen : ns.length ≤ 63)
    (F : Fr h₀ L s.heap (fun y => if y = Str.ofString "script" then some (.ref sa) else none)) (N : News h₀ L s.heap [(L + 1 + 1 + 1 + 1 + 1 + 1, oO), (L + 1 + 1 + 1 + 1 + 1, oS), (L + 1 + 1 + 1 + 1, oL), (L + 1 + 1 + 1, oW), (L + 1 + 1, oH), (L + 1, oN)])
    (dN : oN.data = .cell none) (dH : oH.data = .cell none) (dW : oW.data = .cell none) (dL : oL.data = .cell none) (dS : oS.data = .cell none) (dO : oO.data = .cell none) :
    wpC (model PySem.Challenge.rw_mr0035_01.row.prog w) (callerA.deeper (lawEnv L fa cd)) (execs (lawBody.drop 0) (lawEnv L fa cd)) (LawQ h₀ s.gens s.os) (fun _ _ => False) s := by
  refine law_c1 X₀ B T hS hI hlen F N dN dH dW dL dS dO ?_
  intro aN oN n0 n1 n2 n3 n4 n5 t0 t1 t2 t3 t4 t5 eN h1 k1 hlt F1 N1 dN
  refine law_c2 X₀ B T hlt F1 N1 dN dH dW dL dS dO ?_
  intro g tg tl aW r1 r2 r3 q len u0 u1 u2 u3 h2 k2 oH oW oL hr1 hr2 hr3 hq eL h8 h54 e5 e6 F2 N2 dH dW dL
  refine law_c5 (q := q) X₀ B T h8 h54 (by omega) e5 F2 N2 dN dH dW dL dS dO ?_
  intro st ts h3 k3 oS hst F3 N3 dS
  refine law_c6 (q := q) X₀ B T F3 N3 dN dH dW dL dS dO ?_
  intro aR ys h4 k4 hys eR F4 N4
  refine law_c7 (q := q) X₀ B T eR (by omega) e6 F4 N4 dN dH dW dL dS dO ?_
  intro aO oO h5 k5 F5 N5 dO
  refine law_c8 X₀ B T hr1 hr2 hr3 hq eL h8 h54 hst F5 N5 dN dH dW dL dS dO ?_
  intro td h6 k6 F6 N6
  have hyl : ys.length = 6 := by rw [hys.length]; rfl
  have hws : ∀ k ∈ ([n0, n1, n2, n3, n4, n5].map c4).map (wdN r1 r2 r3), 1 ≤ k ∧ k ≤ 65536 ∧ st.size % k = 0 := by
    intro k hk
    obtain ⟨c, hc, rfl⟩ := List.mem_map.mp hk
    obtain ⟨n, _, rfl⟩ := List.mem_map.mp hc
    have := wdN_ok hr1 hr2 hr3 hq (c4_lt n)
    exact ⟨this.1, this.2.1, by rw [hst, eL]; exact this.2.2⟩
  have hdu : (([n0, n1, n2, n3, n4, n5].map c4).map (wdN r1 r2 r3)).foldl swapA st = dueA r1 r2 r3 (oddB [n0, n1, n2, n3, n4, n5] 0) (oddB [n0, n1, n2, n3, n4, n5] 1) (oddB [n0, n1, n2, n3, n4, n5] 2) st := by
    rw [row_due hr1 hr2 hr3 hq (by rw [hst, eL]) (by intro c hc; obtain ⟨n, _, rfl⟩ := List.mem_map.mp hc; exact c4_lt n), oddB_par, oddB_par, oddB_par]
  generalize hdu' : dueA r1 r2 r3 (oddB [n0, n1, n2, n3, n4, n5] 0) (oddB [n0, n1, n2, n3, n4, n5] 1) (oddB [n0, n1, n2, n3, n4, n5] 2) st = du at F6 hdu
  have hne : ([n0, n1, n2, n3, n4, n5].map c4).map (wdN r1 r2 r3) ≠ [] := by intro h; cases h
  refine law_c9 (q := q) X₀ B T (by omega) F6 N6 dN dH dW dL dS dO ?_
  intro aK h7 k7 F7 N7
  refine law_c10 (q := q) X₀ B T (by omega) (by omega) hys hne hws hdu F7 N7 dN dH dW dL dS dO ?_
  intro og h8' k8 F8 N8
  refine law_c11 (q := q) (ws := []) X₀ B T (by omega) F8 N8 dN dH dW dL dS dO ?_
  intro h9 k9 F9 N9
  refine law_c12 (q := q) X₀ B T (by omega) (by omega) hys hne hws hdu F9 N9 dN dH dW dL dS dO ?_
  intro vb h10 k10 F10 N10
  refine law_c14 (ws := []) X₀ B T hr1 hr2 hr3 hq eL h8 h54 hst hdu' F10 N10 dN dH dW dL dS dO ?_
  intro vsh h11 k11 F11 N11
  refine law_c16 (q := q) (du := du) (td := td) (ws := []) X₀ B T h8 h54 F11 N11 dN dH dW dL dS dO ?_
  intro aB yb at' ta h12 k12 hyb hat F12 N12
  rw [map_row2 rfl] at F12
  refine law_c18 (q := q) (du := du) (td := td) X₀ B T h8 h54 hyl hys hyb hat F12 N12 dN dH dW dL dS dO ?_
  intro aI aL oI items x h13 k13 hit hoI hlt' F13 N13 hx2 hx3 hx4
  exact law_c19 (q := q) (du := du) (td := td) (yb := yb) X₀ B T hst h54 hyl hys hws hat hit hoI hlt' hx2 hx3 hx4 F13 N13 dN dH dW dL dS dO
end Mine
end

section
open PySem PySem.W PyProof.Rows PySem.Calls PySem.Spec
set_option Elab.async false
set_option maxRecDepth 100000
namespace Mine
set_option pp.deepTerms false
set_option pp.deepTerms.threshold 4
set_option pp.proofs false
set_option maxHeartbeats 8000000
section
variable {prog : Program} {w : World} {A : Around} {s : Shared} {R : Result → Shared → Prop}
/-- a call of a def whose names are captured, over a clean stack -/
theorem codeC_cells {name : Str} {params : Arguments} {body : List Stmt} {scope : Scope}
    {pm cd doc : Value} {a : Addr} {o : Obj} {args : List Value} {binds : List (Str × Value)}
    (hroom : A.depth < recursionLimit) (ho : s.heap.get? a = some o) (hdata : o.data = .func (Calls.docDef name params body scope pm cd doc)) (hlim : s.heap.NoLimit) (hcd : s.heap.CodeRec cd name)
    (hbind : bindArgs (Calls.docDef name params body scope pm cd doc) ⟨args, []⟩ = pure binds)
    (hkind : ∀ x ∈ binds, scope.names.lookup x.1 = some .local ∨ (scope.names.lookup x.1 = some .cell ∧ ((cellsFrom (s.heap.objs.size + 1) scope.names []).lookup x.1).isSome = true))
    (hnd : ((cellsFrom 0 scope.names []).map (·.1)).Nodup)
    (h : ∀ h₁ tk cells, Fr s.heap s.heap.objs.size h₁ (bindL (envOfC name scope s.heap.objs.size a cd).kindOf binds fun _ => none) → News s.heap s.heap.objs.size h₁ cells →
      CellsAre (bindC (envOfC name scope s.heap.objs.size a cd).kindOf binds fun _ => none) (cellsFrom (s.heap.objs.size + 1) scope.names []) cells →
      wpC (model prog w) (A.deeper (envOfC name scope s.heap.objs.size a cd)) (execs body (envOfC name scope s.heap.objs.size a cd))
        (fun f s' => R (.ok (.ret (match f with | .ret v => v | _ => .none))) s')
        (fun e s' => wpAny (model prog w) (A.deeper (envOfC name scope s.heap.objs.size a cd)) (leaving (envOfC name scope s.heap.objs.size a cd) e)
          (fun _ s'' => R (.error e) s'') (fun e' s'' => R (.error e') s'') s')
        { s with heap := h₁, toks := tk })
    (hco : scope.isCoroutine = false := by rfl) (hgen : scope.isGenerator = false := by rfl) (hk : scope.kind = .function := by rfl) :
    codeC (model prog w) A (.call (.ref a) ⟨args, []⟩) R s := by
  refine codeC_call_function (fd := Calls.docDef name params body scope pm cd doc) hroom ho hdata hco hgen rfl hcd ?_
  rw [hbind]
  refine wpAny_pure ?_
  refine wpAny_newFunctionEnv_cells hk hkind fun env' he s' x => ?_
  subst he
  refine ⟨hlim.keeps x.toInCall.keep, codeC_func ?_⟩
  obtain ⟨h₁, tk, rfl, _⟩ := x.done
  obtain ⟨cells, NC, Y⟩ := Cl.news (h₀ := s.heap) (Nat.le_refl _) fun n c hm => ⟨x.cell n c (lookup_of_mem_nodup (cellsFrom_names scope.names 0 (s.heap.objs.size + 1) [] [] rfl ▸ hnd) hm), x.above n c hm⟩
  exact h h₁ tk cells ⟨x.toInCall.ns, fun b o e => x.toInCall.keep b o e, Nat.le_refl _⟩ NC Y
end
theorem cells_six {cm : Str → Option Value} {n1 n2 n3 n4 n5 n6 : Str} {c1 c2 c3 c4 c5 c6 : Addr} {cells : List (Addr × Obj)} (x : CellsAre cm [(n1, c1), (n2, c2), (n3, c3), (n4, c4), (n5, c5), (n6, c6)] cells) :
    ∃ o1 o2 o3 o4 o5 o6, cells = [(c1, o1), (c2, o2), (c3, o3), (c4, o4), (c5, o5), (c6, o6)] ∧ o1.data = .cell (cm n1) ∧ o2.data = .cell (cm n2) ∧ o3.data = .cell (cm n3) ∧ o4.data = .cell (cm n4) ∧ o5.data = .cell (cm n5) ∧ o6.data = .cell (cm n6) := by
  cases x with | cons h1 x => cases x with | cons h2 x => cases x with | cons h3 x => cases x with | cons h4 x => cases x with | cons h5 x => cases x with | cons h6 x => cases x; exact ⟨_, _, _, _, _, _, rfl, h1, h2, h3, h4, h5, h6⟩
/-- True is what the claim asks, wherever nothing else is changed -/
theorem true_good {cl : Str → Option Addr} {mean : ExcName → Option Value} {args : List WData} {s₁ s' : Shared} (h1 : s'.gens = #[]) (h2 : s'.os = s₁.os) (h3 : ∀ b o, s₁.heap.get? b = some o → s'.heap.get? b = some o) :
    GoodWG PySem.Challenge.rw_mr0035_01.row.toRowW.claim cl mean args s₁ (.ok (.ret (.bool true))) s' :=
  GoodW.toG ⟨.inl ⟨.bool true, .bool true, [], rfl, fun _ => rfl, .bool _, (by first | with_unfolding_all rfl | (simp [Challenge.rw_mr0035_01])), fun _ => ⟨List.nodup_nil, fun _ h => nomatch h⟩⟩, h3, h2, h1⟩
theorem law_try : PySem.Challenge.rw_mr0035_01.Holds := hd (by
  k_fill
  intro w s₀ s₁ mg mb G Y fa o pm cd doc dV kV ho hd hcd hD hmg hg args vals as hpre hlay hrd hwl hlo
  have KX := kIn_of Y
  have X := (Ground.X G).1
  have V := (Ground.X G).2
  have GL := glob_more (Ground.glob G (by first | k_qdec | decide +kernel) (by first | k_qdec | decide +kernel)) V
  refine Ground.open G ?_
  intro T B D TE TW
  refine guard_noD D (by decide +kernel) ?_
  clear D
  obtain ⟨_, _, M⟩ := bmod_of_top T
  w_on
  wrow_args hpre hlay hrd hwl hlo
  obtain rfl := Dflts.noKw hD
  obtain rfl := Dflts.none hD rfl
  rename_i ns _ _ _ _ _ _ _ sa vs _ hL _ _ _ hI _ hcond _
  refine looked_of (wpC_call (codeC_cells (by decide) ho hd T.nolimit hcd rfl ?_ ?_ ?_)) (true_good hg rfl fun _ _ e => e)
  · intro x hx
    rw [List.mem_singleton.mp hx]
    exact .inl rfl
  · exact (by decide : ((cellsFrom 0 lawScope.names []).map (·.1)).Nodup)
  · intro h₁ tk cells F N Y
    obtain ⟨oO, oS, oL, oW, oH, oN, rfl, dO, dS, dL, dW, dH, dN⟩ := cells_six Y
    refine wpC_mono (law_all (L := s₁.heap.objs.size) (s := { s₁ with heap := h₁, toks := tk }) KX (below_caller _) T hL hI (by omega) F N dN dH dW dL dS dO) (fun f s' hq => ?_) (fun _ _ x => x.elim)
    obtain ⟨rfl, hgens, hos, hst⟩ := hq
    exact true_good (hgens.trans hg) hos hst)
end Mine
end
theorem PySem.Challenge.cw_mr0035_01_holds : PySem.Challenge.rw_mr0035_01.Holds :=
  Mine.law_try
