import PyProof.Rows.All
import Wide.All
import OpenK.AllK
import Wide.FinOn
import Lean
import PySem.Challenge.RW_ad6002_01

set_option Elab.async false

section
open PySem PySem.W PySem.Calls PyProof.Rows
set_option Elab.async false
namespace Mine
set_option maxRecDepth 100000
set_option maxHeartbeats 4000000

/-- the code is a decoder that may hold a bytearray -/
def decodes : Code → Bool
  | .builtin id _ => Builtin.Bytes.decodersThatHold.contains id
  | _ => false
def cleanSt (st : List (Code × Pos)) : Bool := st.all fun c => !decodes c.1
def ClB (l : List (Code × Pos)) : Prop := ∀ c ∈ l, decodes c.1 = false
def Cl (Γ : Ctx) : Prop := decodes Γ.code = false ∧ ClB Γ.below

def wpC {α : Type} (M : Model) (A : Around) (t : Sem α) (Q : α → Shared → Prop) (E : Value → Shared → Prop) (s : Shared) : Prop :=
  ∀ Γ p, Γ.In A → Cl Γ → Sem.wp M Γ t (fun a _ s' => Q a s') (fun e _ s' => E e s') p s
def codeC (M : Model) (A : Around) (c : Code) (R : Result → Shared → Prop) (s : Shared) : Prop :=
  ∀ Γ p, Γ.code = c → Γ.Below A → ClB Γ.below → wpCode M Γ R p s

section
variable {α β : Type} {M : Model} {A : Around} {E : Value → Shared → Prop} {s : Shared}
theorem cOf {t : Sem α} {Q : α → Shared → Prop} (h : wpAny M A t Q E s) : wpC M A t Q E s := fun Γ p a _ => h Γ p a
theorem codeOf {c : Code} {R : Result → Shared → Prop} (h : codeAny M A c R s) : codeC M A c R s := fun Γ p a b _ => h Γ p a b
theorem cPure {a : α} {Q : α → Shared → Prop} (h : Q a s) : wpC M A (pure a) Q E s := fun _ _ _ _ => h
theorem cMono {t : Sem α} {Q Q' : α → Shared → Prop} {E' : Value → Shared → Prop} (h : wpC M A t Q E s)
    (hQ : ∀ a s, Q a s → Q' a s) (hE : ∀ e s, E e s → E' e s) : wpC M A t Q' E' s :=
  fun Γ p a b => Sem.wp_mono M Γ t (fun a _ s => hQ a s) (fun e _ s => hE e s) p s (h Γ p a b)
theorem cBind {m : Sem α} {f : α → Sem β} {Q : β → Shared → Prop} (h : wpC M A m (fun a s' => wpC M A (f a) Q E s') E s) :
    wpC M A (m >>= f) Q E s := fun Γ p a b => by
  rw [Sem.wp_bind']
  exact Sem.wp_mono M Γ m (fun x p' s' h' => h' Γ p' a b) (fun _ _ _ h' => h') p s (h Γ p a b)
/-- the first part by the kit's rules -/
theorem cBindA {m : Sem α} {f : α → Sem β} {Q : β → Shared → Prop} (h : wpAny M A m (fun a s' => wpC M A (f a) Q E s') E s) :
    wpC M A (m >>= f) Q E s := cBind (cOf h)
theorem cHolding {vs : List Value} {m : Sem α} {Q : α → Shared → Prop} (h : wpC M A m Q E s) : wpC M A (holding vs m) Q E s :=
  fun Γ p a b => by rw [Sem.wp_holding]; exact h Γ p a b
theorem cKeep {vs : List Value} {m : Sem α} {Q : α → Shared → Prop} (h : wpC M A m Q E s) : wpC M A (m.keep vs) Q E s :=
  fun Γ p a b => by rw [Sem.wp_keep]; exact h Γ p a b
theorem cStand {pos : Pos} {Q : Unit → Shared → Prop} (h : Q () s) : wpC M A (standAt pos) Q E s := fun _ _ _ _ => h
theorem cRule {tag : String} {Q : Unit → Shared → Prop} (h : Q () s) : wpC M A (rule tag) Q E s := fun _ _ _ _ => h
theorem cPoint {Q : Unit → Shared → Prop} (h : Q () s) : wpC M A point Q E s := fun _ _ _ _ => h
theorem cOnRaise {m : Sem α} {k : Value → Sem Unit} {Q : α → Shared → Prop}
    (h : wpC M A m Q (fun e s' => wpC M A (k e) (fun _ s'' => E e s'') E s') s) : wpC M A (m.onRaise k) Q E s := fun Γ p a b => by
  rw [Sem.wp_onRaise]
  exact Sem.wp_mono M Γ m (fun _ _ _ h' => h') (fun e p' s' h' => h' Γ p' a b) p s (h Γ p a b)
theorem cEq {t u : Sem α} {Q : α → Shared → Prop} (e : t = u) (h : wpC M A u Q E s) : wpC M A t Q E s := e ▸ h
theorem cRun {c : Code} {Q : Flow → Shared → Prop}
    (hc : codeC M A c (fun r s' => match r with | .ok f => Q f s' | .error e => E e s') s) : wpC M A (run c) Q E s :=
  fun Γ p a b => by
    rw [Sem.wp_run]
    exact hc _ p rfl (a.enter c none p (by intro x; cases x)) (List.forall_mem_cons.mpr ⟨b.1, b.2⟩)
theorem cRunValue {c : Code} {Q : Value → Shared → Prop}
    (hc : codeC M A c (fun r s' => match r with | .ok (.ret v) => Q v s' | .ok _ => False | .error e => E e s') s) :
    wpC M A (runValue c) Q E s := fun Γ p a b => by
  rw [Sem.wp_runValue]
  exact hc _ p rfl (a.enter c none p (by intro x; cases x)) (List.forall_mem_cons.mpr ⟨b.1, b.2⟩)
theorem cCall {f : Value} {pos : List Value} {kw : List (Str × Value)} {Q : Value → Shared → Prop}
    (hc : codeC M A (.call f ⟨pos, kw⟩) (fun r s' => match r with | .ok (.ret v) => Q v s' | .ok _ => False | .error e => E e s') s) :
    wpC M A (call f pos kw) Q E s := cRunValue hc
theorem codeC_mono {c : Code} {R R' : Result → Shared → Prop} (h : codeC M A c R s) (hR : ∀ r s, R r s → R' r s) : codeC M A c R' s :=
  fun Γ p hc hΓ b => wpCode_mono hR (h Γ p hc hΓ b)
theorem codeC_tree {c : Code} {R : Result → Shared → Prop} (hd : decodes c = false)
    (h : wpC M (A.under c) (M.den c) (fun fin s' => match fin with | .done f => R (.ok f) s' | .again c' => c'.quiet = true ∧ codeC M A c' R s')
      (fun e s' => R (.error e) s') s) : codeC M A c R s := fun Γ p hc hΓ b => by
  rw [wpCode_iff_wp, hc]
  refine Sem.wp_mono M Γ _ (fun fin p' s' h' => ?_) (fun _ _ _ h' => h') p s (h Γ p (hc ▸ hΓ.in) ⟨hc ▸ hd, b⟩)
  cases fin with
  | done f => exact h'
  | again c' => exact ⟨h'.1, h'.2 (Γ.goto c') p' rfl (hΓ.goto c') b⟩
/-- a code that runs itself again, by a measure -/
theorem codeC_loop {c : Code} {R : Result → Shared → Prop} (hd : decodes c = false) (hq : c.quiet = true) (I : Nat → Shared → Prop)
    (turn : ∀ n s, I n s → wpC M (A.under c) (M.den c)
      (fun fin s' => match fin with | .done f => R (.ok f) s' | .again c' => c' = c ∧ ∃ m, m < n ∧ I m s') (fun e s' => R (.error e) s') s)
    (n : Nat) (h : I n s) : codeC M A c R s := by
  induction n using Nat.strongRecOn generalizing s with
  | ind n ih =>
    refine codeC_tree hd (cMono (turn n s h) (fun fin s' hf => ?_) fun _ _ h' => h')
    cases fin with
    | done f => exact hf
    | again c' => obtain ⟨rfl, m, hm, hI⟩ := hf; exact ⟨hq, ih m hm hI⟩
end

section
variable {α : Type} {M : Model} {A : Around} {E : Value → Shared → Prop} {s : Shared}
theorem cIfF {c : Bool} {a b : Sem α} {Q : α → Shared → Prop} (hc : c = false) (h : wpC M A b Q E s) : wpC M A (if c = true then a else b) Q E s := by
  subst hc; exact h
theorem cIfT {c : Bool} {a b : Sem α} {Q : α → Shared → Prop} (hc : c = true) (h : wpC M A a Q E s) : wpC M A (if c = true then a else b) Q E s := by
  subst hc; exact h
theorem cIfN {c : Prop} [Decidable c] {a b : Sem α} {Q : α → Shared → Prop} (hc : ¬ c) (h : wpC M A b Q E s) : wpC M A (if c then a else b) Q E s := by
  rw [if_neg hc]; exact h
theorem cIfP {c : Prop} [Decidable c] {a b : Sem α} {Q : α → Shared → Prop} (hc : c) (h : wpC M A a Q E s) : wpC M A (if c then a else b) Q E s := by
  rw [if_pos hc]; exact h
theorem aIfN {c : Prop} [Decidable c] {a b : Sem α} {Q : α → Shared → Prop} (hc : ¬ c) (h : wpAny M A b Q E s) : wpAny M A (if c then a else b) Q E s := by
  rw [if_neg hc]; exact h
theorem aIfP {c : Prop} [Decidable c] {a b : Sem α} {Q : α → Shared → Prop} (hc : c) (h : wpAny M A a Q E s) : wpAny M A (if c then a else b) Q E s := by
  rw [if_pos hc]; exact h
theorem cBindE {β : Type} {m : Sem β} {x : β} {f : β → Sem α} {Q : α → Shared → Prop} (e : m = pure x) (h : wpC M A (f x) Q E s) : wpC M A (m >>= f) Q E s := by
  subst e; exact cBind (cPure h)
theorem aBindE {β : Type} {m : Sem β} {x : β} {f : β → Sem α} {Q : α → Shared → Prop} (e : m = pure x) (h : wpAny M A (f x) Q E s) : wpAny M A (m >>= f) Q E s := by
  subst e; exact wpAny_bind (wpAny_pure h)
theorem cBindL {β : Type} {m : Sem β} {x : β} {f : β → Sem α} {Q : α → Shared → Prop} (e : Looks M s.heap m x) (h : wpC M A (f x) Q E s) : wpC M A (m >>= f) Q E s := cBindA (e.here h)
theorem aBindL {β : Type} {m : Sem β} {x : β} {f : β → Sem α} {Q : α → Shared → Prop} (e : Looks M s.heap m x) (h : wpAny M A (f x) Q E s) : wpAny M A (m >>= f) Q E s := wpAny_bind (e.here h)
end

/-! what the stack says of a bytearray -/
section
variable {M : Model} {A : Around} {E : Value → Shared → Prop} {s : Shared}
theorem guard1 : guardIds.contains "bytearray.__contains__" = true := by decide +kernel
theorem guard2 : guardIds.contains "bytearray.__mod__" = true := by decide +kernel
theorem guard3 : guardIds.contains "bytearray.__rmod__" = true := by decide +kernel
theorem guard4 : guardIds.contains "_struct.pack_into.held" = true := by decide +kernel
theorem guard5 : guardIds.contains "bytearray.find.held" = true := by decide +kernel
theorem noGuard {id : String} {a : Args} (h : guardIds.contains id = true) (hg : (Code.builtin id a).isGuard = false) : False := by
  have e : (Code.builtin id a).isGuard = guardIds.contains id := rfl
  rw [e, h] at hg
  cases hg
theorem notGuard {l : List (Code × Pos)} (h : guardsOf l = []) (x : Code × Pos) (hx : x ∈ l) : x.1.isGuard = false := by
  cases hc : x.1.isGuard with
  | false => rfl
  | true =>
    have hm : x.1 ∈ guardsOf l := List.mem_filter.mpr ⟨List.mem_map_of_mem hx, hc⟩
    rw [h] at hm
    cases hm
theorem cExported {v : Value} {Q : Bool → Shared → Prop} (hg : A.guards = some []) (h : Q false s) : wpC M A (Builtin.Bytes.exported v) Q E s := fun Γ p a b => by
  have hgs : guardsOf ((Γ.code, p) :: Γ.below) = [] := by rw [guardsOf_cons]; exact a.2.2.2.1 [] hg
  unfold Builtin.Bytes.exported
  rw [Sem.wp_bind']
  show Q (List.any ((Γ.code, p) :: Γ.below) _) s
  generalize hl : (Γ.code, p) :: Γ.below = l at hgs
  have hcl : ∀ x ∈ l, decodes x.1 = false := by
    rw [← hl]; exact List.forall_mem_cons.mpr ⟨b.1, b.2⟩
  rw [List.any_eq_false.mpr]
  · exact h
  · intro x hx
    obtain ⟨c, q⟩ := x
    have hd : decodes c = false := hcl _ hx
    have hg : c.isGuard = false := notGuard hgs _ hx
    clear hx hcl hgs hl
    rw [Bool.not_eq_true]
    split
    case h_1 e => cases e; exact (noGuard guard1 hg).elim
    case h_2 e => cases e; exact (noGuard guard2 hg).elim
    case h_3 e => cases e; exact (noGuard guard3 hg).elim
    case h_4 e => cases e; exact (noGuard guard4 hg).elim
    case h_5 e => cases e; exact (noGuard guard5 hg).elim
    case h_6 e =>
      cases e
      simp only [decodes] at hd
      rw [hd, Bool.and_false]
    case h_7 => rfl
end
end Mine
end

section
open PySem PySem.W PySem.Calls PyProof.Rows
set_option Elab.async false
namespace Mine
set_option maxRecDepth 100000
set_option maxHeartbeats 4000000
section
variable {prog : Program} {w : World} {A : Around} {E : Value → Shared → Prop} {s : Shared} {R : Result → Shared → Prop}
theorem codeC_builtin {id : String} {args : Args} {b : Builtin} (hd : Builtin.Bytes.decodersThatHold.contains id = false) (hb : entryFor table id = some b)
    (h : wpC (model prog w) (A.under (.builtin id args)) (b args)
      (fun fin s' => match fin with | .done f => R (.ok f) s' | .again c' => c'.quiet = true ∧ codeC (model prog w) A c' R s') (fun e s' => R (.error e) s') s) :
    codeC (model prog w) A (.builtin id args) R s := by
  refine codeC_tree hd ?_
  show wpC _ _ (match entryFor table id with | some b => b args | none => unsupported ((withoutEnding? id "#data").getD id)) _ _ s
  rw [hb]; exact h
theorem codeC_call_builtin {id : String} {args : Args} {b : Builtin} (hd : Builtin.Bytes.decodersThatHold.contains id = false) (hq : plainId id = true) (hb : entryFor table id = some b)
    (h : wpAny (model prog w) A.in1 (checkBuiltinCall id args) (fun _ s₁ => wpC (model prog w) A.in1 (b args)
      (fun fin s' => match fin with | .done f => R (.ok f) s' | .again c' => c'.quiet = true ∧ codeC (model prog w) A c' R s') (fun e s' => R (.error e) s') s₁)
      (fun e s' => R (.error e) s') s) : codeC (model prog w) A (.call (.builtin id) args) R s := by
  refine codeC_tree rfl ?_
  show wpC _ A.in1 (do checkBuiltinCall id args; again (.builtin id args)) _ _ s
  refine cBindA (wpAny_mono h (fun _ s₁ h₁ => cPure ⟨plainId_quiet hq args, codeC_builtin hd hb ?_⟩) fun _ _ h' => h')
  rw [Around.under_plainId hq args]; exact h₁
theorem dec_type_call : Builtin.Bytes.decodersThatHold.contains "type.__call__" = false := by decide +kernel

theorem callTypeC {T newId initId : String} {Bi : Builtin} {args : List Value} {Q Q₁ : Value → Shared → Prop} (ft : TypeCalled T newId initId)
    (hct : checkTypeCall T ⟨args, []⟩ = pure ()) (entryI : entryFor table initId = some Bi) (hdI : Builtin.Bytes.decodersThatHold.contains initId = false)
    (hnew : codeAny (model prog w) A.in1 (.call (.builtin newId) ⟨.type T :: args, []⟩) (wants Q₁ E) s)
    (hnext : ∀ obj s₁, Q₁ obj s₁ → s₁.TypeIs obj T ∧ argsOk initId ⟨obj :: args, []⟩ ∧
      wpC (model prog w) A.in1.in1 (Bi ⟨obj :: args, []⟩)
        (fun fin s' => match fin with | .done f => wants (fun r s₂ => r = .none ∧ Q obj s₂) E (.ok f) s' | .again c' => c'.quiet = true ∧ codeC (model prog w) A.in1 c' (wants (fun r s₂ => r = .none ∧ Q obj s₂) E) s')
        (fun e s' => wants (fun r s₂ => r = .none ∧ Q obj s₂) E (.error e) s') s₁) :
    wpC (model prog w) A (call (.type T) args) Q E s := by
  obtain ⟨c, tl, hmro⟩ := ft.mro
  have hmade := ft.made
  have hsub := ft.sub
  refine cCall (codeC_tree rfl ?_)
  show wpC _ _ (callAny (.type T) _) _ _ _
  refine cPure ⟨Code.quiet_builtin _ (by decide +kernel), codeC_builtin dec_type_call F.entry_type_call ?_⟩
  rw [Around.under_plain (weight_type_call_type T args []) rfl]
  have h1 := ft.notType
  have h2 := ft.canCreate
  unfold Builtin.«type.__call__»
  dsimp only
  refine cIfF h1 (cIfF h2 ?_)
  refine cBindE hct ?_
  refine cBindE hmro ?_
  refine cIfF rfl ?_
  refine cBindE hmade ?_
  dsimp only
  refine cBindE rfl ?_
  refine cBindA (wpAny_holding (wpAny_call (codeAny_mono hnew fun r s₁ hr => ?_)))
  rcases r with e | (v | _ | _ | obj) <;> first | exact hr | exact hr.elim | skip
  obtain ⟨hT, hok, hsi⟩ := hnext _ _ hr
  have hli := ft.init.lookup
  have hbi := ft.init.bind obj
  refine cBindA (wpAny_isInstance hT hsub ?_)
  refine cIfF rfl ?_
  refine cBind (cHolding ?_)
  unfold callSpecial?
  refine cBindA (wpAny_specialOf hT hli ?_)
  dsimp only
  refine cHolding (cBindE hbi ?_)
  dsimp only
  refine cBind (cCall (codeC_mono (codeC_call_builtin hdI ft.init.plain entryI (ft.init.check _ _ _ _ _ _ _ _ hT hok hsi)) fun r₂ s₂ hr₂ => ?_))
  rcases r₂ with e | (v | _ | _ | r) <;> first | exact hr₂ | exact hr₂.elim | skip
  obtain ⟨rfl, hq⟩ := hr₂
  refine cPure ?_
  dsimp only
  refine cIfF (by decide) (cPure hq)
end
end Mine
end

section
open PySem PySem.W PySem.Calls PyProof.Rows
set_option Elab.async false
namespace Mine
set_option maxRecDepth 100000
set_option maxHeartbeats 4000000
abbrev baObj (b : Array UInt8) : Obj := { cls := .type "bytearray", data := .bytearray b }

theorem ba_mro : mroOf (.type "bytearray") = pure [.type "bytearray", .type "object"] := by rw [mroOf_type]; kernel_rfl
theorem ba_lookup_new : typeLookup (.type "bytearray") "__new__" = pure (some (.builtin "bytearray.__new__")) := by rw [typeLookup_type, builtinLookup_eq_fast]; kernel_rfl
theorem ba_slot_init : Slot "bytearray" "__init__" "bytearray.__init__" :=
  .of (owner := "bytearray") (n := "__init__") (by rw [typeLookup_type, builtinLookup_eq_fast]; kernel_rfl) (by decide +kernel) (by decide +kernel) (by decide +kernel)
    (by first | exact .inl (by decide +kernel) | exact .inr (by decide +kernel)) (by rw [isSubtype_type]; kernel_rfl)
theorem ba_sub : isSubtype (.type "bytearray") (.type "bytearray") = pure true := by rw [isSubtype_type]; kernel_rfl
theorem by_sub : isSubtype (.type "bytes") (.type "bytes") = pure true := by rw [isSubtype_type]; kernel_rfl
theorem by_ba_sub : isSubtype (.type "bytes") (.type "bytearray") = pure false := by rw [isSubtype_type]; kernel_rfl
theorem ba_called : TypeCalled "bytearray" "bytearray.__new__" "bytearray.__init__" :=
  ⟨by decide +kernel, by decide +kernel, ⟨_, _, ba_mro⟩, madeBy_type ba_mro ba_lookup_new (by decide +kernel), by decide +kernel, ba_sub, ba_slot_init⟩
theorem ba_typeCall0 : checkTypeCall "bytearray" ⟨[], []⟩ = pure () := by kernel_rfl
theorem ba_typeCall1 (a : Value) : checkTypeCall "bytearray" ⟨[a], []⟩ = pure () := by kernel_rfl
theorem ba_newCall0 : checkBuiltinCall "bytearray.__new__" ⟨[.type "bytearray"], []⟩ = pure () := by kernel_rfl
theorem ba_newCall1 (a : Value) : checkBuiltinCall "bytearray.__new__" ⟨[.type "bytearray", a], []⟩ = pure () := by kernel_rfl
theorem ba_entry_new : entryFor table "bytearray.__new__" = some Builtin.«list.__new__» := entryFor_alias (id' := "list.__new__") (by kernel_rfl) rfl (by decide +kernel) (by kernel_rfl)
theorem ba_entry_init : entryFor table "bytearray.__init__" = some Builtin.«bytearray.__init__» := by first | exact entryFor_of_fast (by kernel_rfl) | exact entryFor_of_tree (by kernel_rfl)
theorem ba_plain_new : plainId "bytearray.__new__" = true := by decide +kernel
theorem ba_dec_init : Builtin.Bytes.decodersThatHold.contains "bytearray.__init__" = false := by decide +kernel
theorem ba_args_init1 (a : Value) : argsOk "bytearray.__init__" ⟨[a], []⟩ := by unfold argsOk; kernel_rfl
theorem ba_args_init2 (a b : Value) : argsOk "bytearray.__init__" ⟨[a, b], []⟩ := by unfold argsOk; kernel_rfl
theorem ba_no_index : typeLookup (.type "bytearray") "__index__" = pure none := by rw [typeLookup_type, builtinLookup_eq_fast]; kernel_rfl
theorem by_no_index : typeLookup (.type "bytes") "__index__" = pure none := by rw [typeLookup_type, builtinLookup_eq_fast]; kernel_rfl
theorem ba_release : typeLookup (.type "bytearray") "__release_buffer__" = pure (some (.builtin "bytearray.__release_buffer__")) := by rw [typeLookup_type, builtinLookup_eq_fast]; kernel_rfl
theorem by_release : typeLookup (.type "bytes") "__release_buffer__" = pure none := by rw [typeLookup_type, builtinLookup_eq_fast]; kernel_rfl
theorem ba_buffer : typeLookup (.type "bytearray") "__buffer__" = pure (some (.builtin "bytearray.__buffer__")) := by rw [typeLookup_type, builtinLookup_eq_fast]; kernel_rfl
theorem by_buffer : typeLookup (.type "bytes") "__buffer__" = pure (some (.builtin "bytes.__buffer__")) := by rw [typeLookup_type, builtinLookup_eq_fast]; kernel_rfl
theorem ba_bind0 : Builtin.Bytes.bindOptional "bytearray.__init__" "bytearray" ["source", "encoding", "errors"] [] [] = pure [none, none, none] := by kernel_rfl
theorem ba_bind1 (v : Value) : Builtin.Bytes.bindOptional "bytearray.__init__" "bytearray" ["source", "encoding", "errors"] [v] [] = pure [some v, none, none] := by kernel_rfl
theorem ba_ends_rel : ("bytearray.__release_buffer__".endsWith ("." ++ "__release_buffer__")) = true := by decide +kernel
theorem ba_cut_rel : ("bytearray.__release_buffer__".dropRight ("__release_buffer__".length + 1)) = "bytearray" := by decide +kernel
theorem ba_ends_buf : ("bytearray.__buffer__".endsWith ("." ++ "__buffer__")) = true := by decide +kernel
theorem ba_cut_buf : ("bytearray.__buffer__".dropRight ("__buffer__".length + 1)) = "bytearray" := by decide +kernel
theorem by_ends_buf : ("bytes.__buffer__".endsWith ("." ++ "__buffer__")) = true := by decide +kernel
theorem by_cut_buf : ("bytes.__buffer__".dropRight ("__buffer__".length + 1)) = "bytes" := by decide +kernel
set_option maxRecDepth 1000000 in
theorem owner_ba_new : ("bytearray.__new__".splitOn ".__new__").headD "" = "bytearray" := by simp +decide [String.splitOn, String.splitOnAux]
end Mine
end

section
open PySem PySem.W PySem.Calls PyProof.Rows
set_option Elab.async false
namespace Mine
set_option maxRecDepth 100000
set_option maxHeartbeats 4000000
section
variable {prog : Program} {w : World} {A : Around} {E : Value → Shared → Prop} {s : Shared} {R : Result → Shared → Prop}
theorem ba_new_run {rest : List Value} {Q₁ : Value → Shared → Prop} (hc : checkBuiltinCall "bytearray.__new__" ⟨.type "bytearray" :: rest, []⟩ = pure ())
    (h : Q₁ (.ref s.heap.objs.size) { s with heap := s.heap.push (baObj #[]) }) :
    codeAny (model prog w) A (.call (.builtin "bytearray.__new__") ⟨.type "bytearray" :: rest, []⟩) (wants Q₁ E) s := by
  refine codeAny_of_tree ?_
  show wpAny _ A.in1 (do checkBuiltinCall "bytearray.__new__" ⟨.type "bytearray" :: rest, []⟩; again (.builtin "bytearray.__new__" ⟨.type "bytearray" :: rest, []⟩)) _ _ s
  refine wpAny_bind (wpAny_of_eq hc (wpAny_pure ⟨plainId_quiet ba_plain_new _, codeAny_builtin_stack ba_entry_new rfl fun p st => ?_⟩))
  rw [Around.under_plainId ba_plain_new _]
  have hsub := ba_sub
  have hown := owner_ba_new
  obtain ⟨hp, g, d, tk, os⟩ := s
  simp only [hown]
  wp_walk
  exact h
theorem typeIs_ba {a : Addr} {b : Array UInt8} (h : s.heap.get? a = some (baObj b)) : s.TypeIs (.ref a) "bytearray" := ⟨_, h, rfl⟩
/-- its own release slot -/
theorem own_release_ba {M : Model} {a : Addr} {b : Array UInt8} {Q : Bool → Shared → Prop} (h : s.heap.get? a = some (baObj b)) (q : Q false s) :
    wpAny M A (Builtin.Bytes.ownRelease (.ref a)) Q E s := by
  have hT := typeIs_ba (s := s) h
  unfold Builtin.Bytes.ownRelease Builtin.Bytes.slotIsOwn
  refine wpAny_bind (wpAny_bind (wpAny_specialOf hT ba_release ?_))
  dsimp only
  rw [ba_ends_rel, ba_cut_rel]
  refine aIfN (by decide) (wpAny_isInstance hT ba_sub (wpAny_pure q))
end
end Mine
end

section
open PySem PySem.W PySem.Calls PyProof.Rows
set_option Elab.async false
namespace Mine
set_option maxRecDepth 100000
set_option maxHeartbeats 4000000
section
variable {M : Model} {A : Around} {E : Value → Shared → Prop} {s : Shared} {a : Addr} {b : Array UInt8}
theorem payload_ba {Q : Array UInt8 → Shared → Prop} (h : s.heap.get? a = some (baObj b)) (q : Q b s) : wpAny M A (Builtin.Bytes.payload (.ref a)) Q E s := by
  unfold Builtin.Bytes.payload Builtin.Bytes.payload?
  exact wpAny_bind (wpAny_bind (wpAny_load h (wpAny_pure (wpAny_pure q))))
theorem payload_by {c : Array UInt8} {t : Tok} {Q : Array UInt8 → Shared → Prop} (q : Q c s) : wpAny M A (Builtin.Bytes.payload (.bytes c t)) Q E s := by
  unfold Builtin.Bytes.payload Builtin.Bytes.payload?
  exact wpAny_bind (wpAny_pure (wpAny_pure q))
theorem write_ba {f : Array UInt8 → Array UInt8} {Q : Unit → Shared → Prop} (h : s.heap.get? a = some (baObj b)) (hz : (f b).size ≤ sizeLine)
    (q : ∀ h', h'.get? a = some (baObj (f b)) → Heap.SameBut a s.heap h' → Q () { s with heap := h' }) : wpAny M A (Builtin.Bytes.write (.ref a) f) Q E s := by
  unfold Builtin.Bytes.write updateBytearray
  refine wpAny_bind (wpAny_load h ?_)
  dsimp only
  refine wpAny_bind (wpAny_update h ?_)
  have h₂ : (s.heap.update a (Obj.mapBytearray f)).get? a = some (baObj (f b)) := Heap.get?_update_self (Obj.mapBytearray f) h rfl
  refine wpAny_lookBehind h₂ ?_ (q _ h₂ (Heap.SameBut.update ..))
  show (if (f b).size > sizeLine then some "bytearray:memory" else none) = none
  rw [if_neg (Nat.not_lt.mpr hz)]
theorem exports_ba {Q : Nat → Shared → Prop} (h : s.heap.get? a = some (baObj b)) (q : Q 0 s) : wpAny M A (Builtin.Bytes.exportsOf (.ref a)) Q E s := by
  unfold Builtin.Bytes.exportsOf
  exact wpAny_bind (wpAny_load h (wpAny_pure q))
/-- the two questions that are asked ahead of a resize -/
theorem held_ba {Q : Bool → Shared → Prop} (hg : A.guards = some []) (h : s.heap.get? a = some (baObj b)) (q : Q false s) :
    wpC M A (Builtin.Bytes.exported (.ref a) <||> (do return (← Builtin.Bytes.exportsOf (.ref a)) > 0)) Q E s := by
  unfold orM
  refine cBind (cExported hg ?_)
  show wpC M A (do return decide ((← Builtin.Bytes.exportsOf (.ref a)) > 0)) Q E s
  exact cBindA (exports_ba h (cPure q))
theorem resize_ba {Q : Unit → Shared → Prop} (hg : A.guards = some []) (h : s.heap.get? a = some (baObj b)) (q : Q () s) : wpC M A (Builtin.Bytes.checkResize (.ref a)) Q E s := by
  unfold Builtin.Bytes.checkResize
  exact cBind (held_ba hg h (cIfF rfl (cPure q)))
end
end Mine
end

section
open PySem PySem.W PySem.Calls PyProof.Rows
set_option Elab.async false
namespace Mine
set_option maxRecDepth 100000
set_option maxHeartbeats 4000000
section
variable {prog : Program} {w : World} {M : Model} {A : Around} {E : Value → Shared → Prop} {s : Shared} {a : Addr} {b c : Array UInt8} {t : Tok}
theorem own_release_by {Q : Bool → Shared → Prop} (q : Q false s) : wpAny M A (Builtin.Bytes.ownRelease (.bytes c t)) Q E s := by
  unfold Builtin.Bytes.ownRelease Builtin.Bytes.slotIsOwn
  refine wpAny_bind (wpAny_bind (wpAny_specialOf (typeIs_bytes _ _ _) by_release ?_))
  exact wpAny_pure (wpAny_pure q)
/-- bytes as a buffer -/
theorem buffer_by {id : String} {full : Bool} {Q : Option (Array UInt8) → Shared → Prop} (q : Q (some c) s) : wpAny M A (Builtin.Bytes.buffer? id (.bytes c t) full) Q E s := by
  have hT := typeIs_bytes (s := s) c t
  unfold Builtin.Bytes.buffer?
  refine wpAny_bind (wpAny_specialOf hT by_buffer ?_)
  dsimp only
  unfold Builtin.Bytes.slotIsOwn
  refine wpAny_bind (wpAny_bind (wpAny_specialOf hT by_buffer ?_))
  dsimp only
  rw [by_ends_buf, by_cut_buf]
  refine aIfN (by decide) (wpAny_isInstance hT by_sub ?_)
  refine aIfN (by decide) ?_
  refine wpAny_bind (wpAny_specialOf hT by_buffer ?_)
  (try dsimp only)
  refine wpAny_bind (own_release_by ?_)
  refine aIfN (by decide) ?_
  exact wpAny_bind (payload_by (wpAny_pure q))
theorem buffer_ba {id : String} {full : Bool} {Q : Option (Array UInt8) → Shared → Prop} (h : s.heap.get? a = some (baObj b)) (q : Q (some b) s) : wpAny M A (Builtin.Bytes.buffer? id (.ref a) full) Q E s := by
  have hT := typeIs_ba (s := s) h
  unfold Builtin.Bytes.buffer?
  refine wpAny_bind (wpAny_specialOf hT ba_buffer ?_)
  dsimp only
  unfold Builtin.Bytes.slotIsOwn
  refine wpAny_bind (wpAny_bind (wpAny_specialOf hT ba_buffer ?_))
  dsimp only
  rw [ba_ends_buf, ba_cut_buf]
  refine aIfN (by decide) (wpAny_isInstance hT ba_sub ?_)
  refine aIfN (by decide) ?_
  refine wpAny_bind (wpAny_specialOf hT ba_buffer ?_)
  (try dsimp only)
  refine wpAny_bind (own_release_ba h ?_)
  refine aIfN (by decide) ?_
  exact wpAny_bind (payload_ba h (wpAny_pure q))
theorem init_ba0 {Q : PySem.Fin → Shared → Prop} (hg : A.guards = some []) (h : s.heap.get? a = some (baObj b))
    (q : ∀ h', h'.get? a = some (baObj #[]) → Heap.SameBut a s.heap h' → Q (.done (.ret .none)) { s with heap := h' }) :
    wpC M A (Builtin.«bytearray.__init__» ⟨[.ref a], []⟩) Q E s := by
  unfold Builtin.«bytearray.__init__»
  dsimp only
  refine cBindA (own_release_ba h ?_)
  refine cIfF rfl ?_
  refine cBindE ba_bind0 ?_
  dsimp only
  refine cBindE rfl ?_
  refine cBindE rfl ?_
  refine cBind (held_ba hg h (cIfF rfl ?_))
  refine cBindA (write_ba h (Nat.zero_le _) fun h' h1 h2 => ?_)
  exact cPure (q h' h1 h2)
theorem init_ba1 {Q : PySem.Fin → Shared → Prop} (hg : A.guards = some []) (h : s.heap.get? a = some (baObj b)) (hz : c.size ≤ sizeLine)
    (q : ∀ h', h'.get? a = some (baObj c) → Heap.SameBut a s.heap h' → Q (.done (.ret .none)) { s with heap := h' }) :
    wpC M A (Builtin.«bytearray.__init__» ⟨[.ref a, .bytes c t], []⟩) Q E s := by
  unfold Builtin.«bytearray.__init__»
  dsimp only
  refine cBindA (own_release_ba h ?_)
  refine cIfF rfl ?_
  refine cBindE (ba_bind1 _) ?_
  dsimp only
  refine cBindE rfl ?_
  refine cBindE rfl ?_
  refine cBind (held_ba hg h (cIfF rfl ?_))
  refine cBindA (write_ba h (Nat.zero_le _) fun h' h1 h2 => ?_)
  refine cBindE (x := none) rfl ?_
  (try dsimp only)
  refine cIfF rfl ?_
  refine cBindE (x := ()) rfl ?_
  refine cBindA (wpAny_specialOf (typeIs_bytes _ _ _) by_no_index ?_)
  refine cIfF rfl ?_
  refine cBindA (buffer_by ?_)
  dsimp only
  refine cBindA (wpAny_rule ?_)
  refine cBindA (write_ba h1 hz fun h'' h3 h4 => ?_)
  exact cPure (q h'' h3 (h2.trans h4))
end
end Mine
end

section
open PySem PySem.W PySem.Calls PyProof.Rows
set_option Elab.async false
namespace Mine
set_option maxRecDepth 100000
set_option maxHeartbeats 4000000
section
variable {prog : Program} {w : World} {A : Around} {E : Value → Shared → Prop} {s : Shared} {a : Addr} {b c : Array UInt8} {t : Tok}
/-- bytearray() -/
theorem make_ba0 {Q : Value → Shared → Prop} (hg : A.guards = some [])
    (q : ∀ h', h'.get? s.heap.objs.size = some (baObj #[]) → Heap.SameBut s.heap.objs.size (s.heap.push (baObj #[])) h' → Q (.ref s.heap.objs.size) { s with heap := h' }) :
    wpC (model prog w) A (call (.type "bytearray") []) Q E s := by
  refine callTypeC (Q₁ := fun obj s₁ => obj = .ref s.heap.objs.size ∧ s₁ = { s with heap := s.heap.push (baObj #[]) }) ba_called ba_typeCall0 ba_entry_init ba_dec_init
    (ba_new_run ba_newCall0 ⟨rfl, rfl⟩) fun obj s₁ h₁ => ?_
  obtain ⟨rfl, rfl⟩ := h₁
  have hS : (s.heap.push (baObj #[])).get? s.heap.objs.size = some (baObj #[]) := Heap.get?_push_size _ rfl
  refine ⟨⟨_, hS, rfl⟩, ba_args_init1 _, init_ba0 hg hS fun h' h1 h2 => ⟨rfl, q h' h1 h2⟩⟩
theorem make_ba1 {Q : Value → Shared → Prop} (hg : A.guards = some []) (hz : c.size ≤ sizeLine)
    (q : ∀ h', h'.get? s.heap.objs.size = some (baObj c) → Heap.SameBut s.heap.objs.size (s.heap.push (baObj #[])) h' → Q (.ref s.heap.objs.size) { s with heap := h' }) :
    wpC (model prog w) A (call (.type "bytearray") [.bytes c t]) Q E s := by
  refine callTypeC (Q₁ := fun obj s₁ => obj = .ref s.heap.objs.size ∧ s₁ = { s with heap := s.heap.push (baObj #[]) }) ba_called (ba_typeCall1 _) ba_entry_init ba_dec_init
    (ba_new_run (ba_newCall1 _) ⟨rfl, rfl⟩) fun obj s₁ h₁ => ?_
  obtain ⟨rfl, rfl⟩ := h₁
  have hS : (s.heap.push (baObj #[])).get? s.heap.objs.size = some (baObj #[]) := Heap.get?_push_size _ rfl
  refine ⟨⟨_, hS, rfl⟩, ba_args_init2 _ _, init_ba1 hg hS hz fun h' h1 h2 => ⟨rfl, q h' h1 h2⟩⟩
end
end Mine
end

section
open PySem PySem.W PySem.Calls PyProof.Rows
set_option Elab.async false
namespace Mine
set_option maxRecDepth 100000
set_option maxHeartbeats 4000000
theorem ba_slot_extend : Slot "bytearray" "extend" "bytearray.extend" :=
  .of (owner := "bytearray") (n := "extend") (by rw [typeLookup_type, builtinLookup_eq_fast]; kernel_rfl) (by decide +kernel) (by decide +kernel) (by decide +kernel)
    (by first | exact .inl (by decide +kernel) | exact .inr (by decide +kernel)) (by rw [isSubtype_type]; kernel_rfl)
theorem ba_entry_extend : entryFor table "bytearray.extend" = some Builtin.«bytearray.extend» := by first | exact entryFor_of_fast (by kernel_rfl) | exact entryFor_of_tree (by kernel_rfl)
theorem ba_args_extend (a b : Value) : argsOk "bytearray.extend" ⟨[a, b], []⟩ := by unfold argsOk; kernel_rfl
theorem ba_type_extend : typeOf (.builtin "bytearray.extend") = pure (.type "method_descriptor") := by show builtinType _ = _; rw [builtinType_eq_fast]; kernel_rfl
theorem ba_dec_extend : Builtin.Bytes.decodersThatHold.contains "bytearray.extend" = false := by decide +kernel
theorem ba_plainAttrs : PlainAttrs "bytearray" :=
  ⟨⟨"bytearray.__getattribute__", by rw [typeLookup_type, builtinLookup_eq_fast]; kernel_rfl, by decide +kernel⟩, by rw [typeLookup_type, builtinLookup_eq_fast]; kernel_rfl⟩
section
variable {prog : Program} {w : World} {M : Model} {A : Around} {E : Value → Shared → Prop} {s : Shared} {a : Addr} {b c : Array UInt8} {t : Tok}
theorem take_by {id : String} {fl : Int} {Q : Option (Array UInt8 × Option Value) → Shared → Prop} (q : Q (some (c, none)) s) :
    wpAny M A (Builtin.Bytes.takeBufferQuiet? id (.bytes c t) fl) Q E s := by
  have hT := typeIs_bytes (s := s) c t
  unfold Builtin.Bytes.takeBufferQuiet?
  refine wpAny_bind (wpAny_attempt ?_)
  unfold Builtin.Bytes.takeBuffer?
  refine wpAny_bind (wpAny_specialOf hT by_buffer ?_)
  (try dsimp only)
  unfold Builtin.Bytes.slotIsOwn
  refine wpAny_bind (wpAny_bind (wpAny_specialOf hT by_buffer ?_))
  dsimp only
  rw [by_ends_buf, by_cut_buf]
  refine aIfN (by decide) (wpAny_isInstance hT by_sub ?_)
  refine aIfN (by decide) ?_
  refine wpAny_bind (wpAny_specialOf hT by_buffer ?_)
  (try dsimp only)
  refine wpAny_bind (buffer_by (wpAny_pure ?_))
  exact wpAny_pure q
theorem extend_run {Q : PySem.Fin → Shared → Prop} (hg : A.guards = some []) (h : s.heap.get? a = some (baObj b)) (hz : (b ++ c).size ≤ sizeLine)
    (q : ∀ h', h'.get? a = some (baObj (b ++ c)) → Heap.SameBut a s.heap h' → Q (.done (.ret .none)) { s with heap := h' }) :
    wpC M A (Builtin.«bytearray.extend» ⟨[.ref a, .bytes c t], []⟩) Q E s := by
  unfold Builtin.«bytearray.extend»
  refine cBindE (x := (.ref a, .bytes c t)) rfl ?_
  dsimp only
  refine cBindA (wpAny_specialOf (typeIs_bytes _ _ _) by_buffer ?_)
  refine cIfT rfl ?_
  refine cBindA (wpAny_rule ?_)
  refine cBindA (payload_ba h ?_)
  refine cBindA (take_by ?_)
  dsimp only
  refine cIfT rfl ?_
  show wpC _ _ (do
    if !c.isEmpty then Builtin.Bytes.checkResize (.ref a)
    Builtin.Bytes.write (.ref a) (· ++ c)
    ret .none) _ _ _
  have fin : wpC M A (do
    Builtin.Bytes.write (.ref a) (· ++ c)
    ret .none) Q E s := cBindA (write_ba h hz fun h' h1 h2 => cPure (q h' h1 h2))
  by_cases hc : c.isEmpty = true
  · rw [hc]
    exact cIfF rfl fin
  · rw [Bool.not_eq_true] at hc
    rw [hc]
    exact cIfT rfl (cBind (resize_ba hg h fin))
theorem call_extend {Q : Value → Shared → Prop} (hg : A.guards = some []) (h : s.heap.get? a = some (baObj b)) (hz : (b ++ c).size ≤ sizeLine)
    (q : ∀ h', h'.get? a = some (baObj (b ++ c)) → Heap.SameBut a s.heap h' → Q .none { s with heap := h' }) :
    wpC (model prog w) A (call (.builtin "bytearray.extend") [.ref a, .bytes c t]) Q E s :=
  cCall (codeC_call_builtin ba_dec_extend ba_slot_extend.plain ba_entry_extend (ba_slot_extend.check _ _ _ _ _ _ _ _ (typeIs_ba h) (ba_args_extend _ _) (extend_run hg h hz q)))
theorem getMethod_extend {pl : Sem Bool} {Q : Value × List Value → Shared → Prop} (h : s.heap.get? a = some (baObj b)) (q : Q (.builtin "bytearray.extend", [.ref a]) s) :
    wpAny M A (getMethod (.ref a) "extend" pl) Q E s :=
  getMethod_builtin (typeIs_ba h) ba_plainAttrs ba_slot_extend ba_type_extend (fun x e => by cases e; exact ⟨_, h, rfl⟩) q
end
end Mine
end

section
open PySem PySem.W PySem.Calls PyProof.Rows Builtin
set_option Elab.async false
namespace Mine
set_option maxRecDepth 100000
set_option maxHeartbeats 4000000
theorem ba_slot_len : Slot "bytearray" "__len__" "bytearray.__len__" :=
  .of (owner := "bytearray") (n := "__len__") (by rw [typeLookup_type, builtinLookup_eq_fast]; kernel_rfl) (by decide +kernel) (by decide +kernel) (by decide +kernel)
    (by first | exact .inl (by decide +kernel) | exact .inr (by decide +kernel)) (by rw [isSubtype_type]; kernel_rfl)
theorem ba_entry_len : entryFor table "bytearray.__len__" = some Builtin.«bytearray.__len__» := by first | exact entryFor_of_fast (by kernel_rfl) | exact entryFor_of_tree (by kernel_rfl)
theorem ba_args_len (a : Value) : argsOk "bytearray.__len__" ⟨[a], []⟩ := by unfold argsOk; kernel_rfl
theorem ba_slot_get : Slot "bytearray" "__getitem__" "bytearray.__getitem__" :=
  .of (owner := "bytearray") (n := "__getitem__") (by rw [typeLookup_type, builtinLookup_eq_fast]; kernel_rfl) (by decide +kernel) (by decide +kernel) (by decide +kernel)
    (by first | exact .inl (by decide +kernel) | exact .inr (by decide +kernel)) (by rw [isSubtype_type]; kernel_rfl)
theorem ba_entry_get : entryFor table "bytearray.__getitem__" = some Builtin.«bytearray.__getitem__» := by first | exact entryFor_of_fast (by kernel_rfl) | exact entryFor_of_tree (by kernel_rfl)
theorem ba_args_get (a b : Value) : argsOk "bytearray.__getitem__" ⟨[a, b], []⟩ := by unfold argsOk; kernel_rfl
section
variable {prog : Program} {w : World} {M : Model} {A : Around} {E : Value → Shared → Prop} {s : Shared} {a : Addr} {b c : Array UInt8} {t : Tok}
theorem len_ba {Q : Value → Shared → Prop} (h : s.heap.get? a = some (baObj b)) (hz : b.size ≤ sizeLine) (q : Q (.int b.size (s.toks + 1)) { s with toks := s.toks + 1 + 1 }) :
    wpAny (model prog w) A (call (.builtin "len") [.ref a]) Q E s := by
  have hz' : b.size ≤ 16777216 := by rw [sizeLine_eq] at hz; exact hz
  refine call_len_slot (n := (b.size : Int)) (typeIs_ba h) ba_slot_len (fun Q' hQ' => ?_) (by omega) (by omega) q
  refine wpAny_call_entry ba_slot_len (typeIs_ba h) ba_entry_len ?_ (ba_args_len _)
  show wpAny _ _ (do retInt (← Bytes.payload (.ref a)).size) _ _ s
  exact wpAny_bind (payload_ba h (wpAny_bind (wpAny_mkInt (wpAny_pure ⟨_, rfl, hQ'⟩))))
theorem ba_meets_slice {x : Addr} {l u : Value} {lo hi : Option Int} (hl : IsPart l lo) (hu : IsPart u hi) :
    Meets («bytearray.__getitem__» ⟨[.ref a, .ref x], []⟩) (fun _ R s => s.heap.get? a = some (baObj b) ∧ s.heap.IsSliceOf x l u .none ∧ (KBy.picked b lo hi).size ≤ sizeLine ∧
      R (.ok (.ret (.ref s.heap.objs.size))) { s with heap := s.heap.push (baObj (KBy.picked b lo hi)) }) := by
  refine .of_wp fun prog w A R s hS => ?_
  obtain ⟨hb, ⟨o, ho, hc, hd⟩, hsz, h⟩ := hS
  have hT : s.TypeIs (.ref x) "slice" := ⟨o, ho, hc⟩
  show wpAny _ _ (Bytes.subscript? (.ref x) >>= fun r => _) _ _ s
  refine wpAny_bind ?_
  unfold Bytes.subscript?
  refine wpAny_bind (wpAny_specialOf hT slice_no_index (wpAny_pure ?_))
  refine wpAny_bind (wpAny_typeOf hT ?_)
  show wpAny _ _ (Bytes.sliceParts (.ref x) >>= fun r => _) _ _ s
  refine wpAny_bind ?_
  unfold Bytes.sliceParts
  refine wpAny_bind (wpAny_field (x := .none) ho hd rfl ?_)
  kby_none
  refine wpAny_ite (KBy.ite_no (show ¬ ((Value.none == rawInt 0) = true) from Bool.false_ne_true) ?_)
  refine wpAny_bind (wpAny_field (x := l) ho hd rfl ?_)
  have go : wpAny (model prog w) A.in1 (sliceIndices (rawPart lo) (rawPart hi) (rawPart none) b.size) (fun r s' => r = sliceBounds lo hi none b.size ∧ s' = s) (fun _ _ => False) s :=
    wpAny_of_eq (sliceIndices_raw lo hi none b.size (fun e => nomatch e)) ⟨rfl, rfl⟩
  cases hl <;> cases hu <;> (first
    | (kby_none; (refine wpAny_bind (wpAny_field (x := .none) ho hd rfl ?_)); kby_none)
    | (kby_none; (refine wpAny_bind (wpAny_field (x := .int _ _) ho hd rfl ?_)); kby_int)
    | (kby_int; (refine wpAny_bind (wpAny_field (x := .none) ho hd rfl ?_)); kby_none)
    | (kby_int; (refine wpAny_bind (wpAny_field (x := .int _ _) ho hd rfl ?_)); kby_int)) <;> refine wpAny_pure ?_
  all_goals
    refine wpAny_bind (payload_ba hb ?_)
    refine wpAny_bind (wpAny_mono go (fun r s' hr => ?_) fun _ _ e => e.elim)
    obtain ⟨hr1, hr2⟩ := hr
    subst hr1 hr2
    unfold Bytes.newBytearray
    exact wpAny_bind (wpAny_newObj_type (wpAny_pure ⟨_, rfl, h⟩) hsz)
/-- data[l:u] of a bytearray, the slice made at the top of the heap -/
theorem slice_ba {value slice : Expr} {l u : Value} {lo hi : Option Int} {Q : Value → Shared → Prop} {x : Addr} (h : s.heap.get? a = some (baObj b)) (hx : s.heap.IsSliceOf x l u .none) (hl : IsPart l lo) (hu : IsPart u hi) (hz : b.size ≤ sizeLine)
    (q : Q (.ref s.heap.objs.size) { s with heap := s.heap.push (baObj (KBy.picked b lo hi)) }) :
    wpAny (model prog w) A (getItem (.ref a) (.ref x)) Q E s :=
  getItem_meets (typeIs_ba h) (by decide) ba_slot_get ba_entry_get (ba_args_get _ _) (ba_meets_slice hl hu) ⟨h, hx, Nat.le_trans (KBc.size_picked_le b lo hi) hz, q⟩
end
end Mine
end

section
open PySem PySem.W PySem.Calls PyProof.Rows Builtin
set_option Elab.async false
namespace Mine
set_option maxRecDepth 100000
set_option maxHeartbeats 4000000
theorem ba_no_bytes : typeLookup (.type "bytearray") "__bytes__" = pure none := by rw [typeLookup_type, builtinLookup_eq_fast]; kernel_rfl
theorem in_no_bytes : typeLookup (.type "int") "__bytes__" = pure none := by rw [typeLookup_type, builtinLookup_eq_fast]; kernel_rfl
theorem by_typeCall0 : checkTypeCall "bytes" ⟨[], []⟩ = pure () := by kernel_rfl
theorem by_newCall0 : checkBuiltinCall "bytes.__new__" ⟨[.type "bytes"], []⟩ = pure () := by kernel_rfl
theorem by_bind0 : Builtin.Bytes.bindOptional "bytes.__new__" "bytes" ["source", "encoding", "errors"] [] [] = pure [none, none, none] := by kernel_rfl
theorem oi_args1 (a : Value) : argsOk "object.__init__" ⟨[a], []⟩ := by unfold argsOk; kernel_rfl
section
variable {prog : Program} {w : World} {M : Model} {A : Around} {E : Value → Shared → Prop} {s : Shared} {a : Addr} {b c : Array UInt8} {t : Tok}
theorem bytes_call {args : List Value} {out : Array UInt8} {Q : Value → Shared → Prop} (hct : checkTypeCall "bytes" ⟨args, []⟩ = pure ()) (hcn : checkBuiltinCall "bytes.__new__" ⟨.type "bytes" :: args, []⟩ = pure ())
    (hok : ∀ obj, argsOk "object.__init__" ⟨obj :: args, []⟩)
    (hrun : ∀ (Q' : PySem.Fin → Shared → Prop) E', (∀ u k, Q' (.done (.ret (.bytes out u))) { s with toks := k }) → wpAny (model prog w) A.in1.in1 (Builtin.«bytes.__new__» ⟨.type "bytes" :: args, []⟩) Q' E' s)
    (q : ∀ u k, Q (.bytes out u) { s with toks := k }) : wpAny (model prog w) A (call (.type "bytes") args) Q E s := by
  refine callType_codes (Q₁ := fun obj s₁ => s₁.TypeIs obj "bytes" ∧ Q obj s₁) F.bm_called hct F.entry_object_init ?_ fun obj s₁ h₁ => ?_
  · refine codeAny_of_tree ?_
    show wpAny _ A.in1.in1 (do checkBuiltinCall "bytes.__new__" ⟨.type "bytes" :: args, []⟩; again (.builtin "bytes.__new__" ⟨.type "bytes" :: args, []⟩)) _ _ s
    refine wpAny_bind (wpAny_of_eq hcn (wpAny_pure ⟨plainId_quiet F.bm_plain _, codeAny_builtin F.bm_entry ?_⟩))
    rw [Around.under_plainId F.bm_plain _]
    exact hrun _ _ fun u k => ⟨typeIs_bytes _ _ _, q u k⟩
  · exact ⟨h₁.1, hok obj, object_init_meets F.bm_called.init.lookup F.bm_called.made (by decide) prog w A.in1 _ s₁ ⟨h₁.1, rfl, h₁.2⟩⟩
theorem bytes_of_ba {Q : Value → Shared → Prop} (h : s.heap.get? a = some (baObj b)) (hz : b.size ≤ sizeLine) (q : ∀ u k, Q (.bytes b u) { s with toks := k }) :
    wpAny (model prog w) A (call (.type "bytes") [.ref a]) Q E s := by
  refine bytes_call (F.bm_typeCall _) (F.bm_newCall _) (fun obj => F.args_object_init_2 obj _) (fun Q' E' q' => ?_) q
  have hT := typeIs_ba (s := s) h
  unfold Builtin.«bytes.__new__»
  refine wpAny_bind (wpAny_of_eq (a := true) rfl ?_)
  refine bm_if_false rfl ?_
  refine wpAny_bind (wpAny_of_eq F.bm_sub ?_)
  refine bm_if_false rfl ?_
  refine wpAny_bind (wpAny_of_eq (F.bm_bind _) ?_)
  refine wpAny_bind (wpAny_of_eq (a := ()) rfl ?_)
  refine wpAny_bind (wpAny_of_eq (a := ()) rfl ?_)
  refine bm_if_false rfl ?_
  refine wpAny_bind (wpAny_specialOf hT ba_no_bytes ?_)
  refine wpAny_bind (wpAny_bind ?_)
  show wpAny _ _ (load a >>= _) _ _ _
  refine wpAny_bind (wpAny_load h ?_)
  refine wpAny_pure (wpAny_pure ?_)
  refine bm_if_false rfl ?_
  refine wpAny_bind (wpAny_specialOf hT ba_no_index ?_)
  refine bm_if_true rfl ?_
  show wpAny _ _ (Builtin.Bytes.buffer? "bytes.__new__" (.ref a) true >>= _) _ _ _
  refine wpAny_bind (buffer_ba h ?_)
  dsimp only
  refine wpAny_bind (wpAny_rule (wpAny_bind (wpAny_mkBytes ?_ hz)))
  show wpAny _ _ (if (Value.type "bytes" == Value.type "bytes") = true then _ else _) _ _ _
  refine bm_if_true (by decide) ?_
  first
    | exact wpAny_pure (q' _ _)
    | exact wpAny_bind (wpAny_pure (wpAny_pure (q' _ _)))
theorem bytes_of_int {n : Int} {Q : Value → Shared → Prop} (h0 : 0 ≤ n) (hz : n ≤ 1000) (q : ∀ u k, Q (.bytes (Array.replicate n.toNat 0) u) { s with toks := k }) :
    wpAny (model prog w) A (call (.type "bytes") [.int n t]) Q E s := by
  refine bytes_call (F.bm_typeCall _) (F.bm_newCall _) (fun obj => F.args_object_init_2 obj _) (fun Q' E' q' => ?_) q
  have hT := typeIs_int (s := s) n t
  unfold Builtin.«bytes.__new__»
  refine wpAny_bind (wpAny_of_eq (a := true) rfl ?_)
  refine bm_if_false rfl ?_
  refine wpAny_bind (wpAny_of_eq F.bm_sub ?_)
  refine bm_if_false rfl ?_
  refine wpAny_bind (wpAny_of_eq (F.bm_bind _) ?_)
  refine wpAny_bind (wpAny_of_eq (a := ()) rfl ?_)
  refine wpAny_bind (wpAny_of_eq (a := ()) rfl ?_)
  refine bm_if_false rfl ?_
  refine wpAny_bind (wpAny_specialOf hT in_no_bytes ?_)
  refine wpAny_bind (wpAny_of_eq (a := false) rfl ?_)
  refine bm_if_false rfl ?_
  refine wpAny_bind (wpAny_specialOf hT F.slot_int_index.lookup ?_)
  refine bm_if_false rfl ?_
  refine wpAny_bind (wpAny_attempt (wpAny_of_eq (rfl : asIndex (.int n t) = pure n) ?_))
  dsimp only
  refine bm_if_false (by simp only [Bytes.fitsIndex, Bool.not_eq_false', Bool.and_eq_true, decide_eq_true_eq]; omega) ?_
  refine aIfN (by omega) ?_
  refine aIfN (by omega) ?_
  refine bm_if_false (by simp only [Bytes.tooLong, sizeLine_eq, decide_eq_false_iff_not]; omega) ?_
  refine wpAny_bind (wpAny_rule (wpAny_bind (wpAny_mkBytes ?_ (by rw [Array.size_replicate, sizeLine_eq]; omega))))
  show wpAny _ _ (if (Value.type "bytes" == Value.type "bytes") = true then _ else _) _ _ _
  refine bm_if_true (by decide) ?_
  first
    | exact wpAny_pure (q' _ _)
    | exact wpAny_bind (wpAny_pure (wpAny_pure (q' _ _)))
theorem bytes_none {Q : Value → Shared → Prop} (q : ∀ u k, Q (.bytes #[] u) { s with toks := k }) :
    wpAny (model prog w) A (call (.type "bytes") []) Q E s := by
  refine bytes_call by_typeCall0 by_newCall0 (fun obj => oi_args1 obj) (fun Q' E' q' => ?_) q
  unfold Builtin.«bytes.__new__»
  refine wpAny_bind (wpAny_of_eq (a := true) rfl ?_)
  refine bm_if_false rfl ?_
  refine wpAny_bind (wpAny_of_eq F.bm_sub ?_)
  refine bm_if_false rfl ?_
  refine wpAny_bind (wpAny_of_eq by_bind0 ?_)
  refine wpAny_bind (wpAny_of_eq (a := ()) rfl ?_)
  refine wpAny_bind (wpAny_of_eq (a := ()) rfl ?_)
  refine bm_if_false rfl ?_
  refine wpAny_bind (wpAny_mkBytes ?_ (Nat.zero_le _))
  show wpAny _ _ (if (Value.type "bytes" == Value.type "bytes") = true then _ else _) _ _ _
  refine bm_if_true (by decide) ?_
  first
    | exact wpAny_pure (q' _ _)
    | exact wpAny_bind (wpAny_pure (wpAny_pure (q' _ _)))
end
end Mine
end

section
open PySem PySem.W PySem.Calls PyProof.Rows Builtin
set_option Elab.async false
namespace Mine
set_option maxRecDepth 100000
set_option maxHeartbeats 4000000
theorem ba_slot_set : Slot "bytearray" "__setitem__" "bytearray.__setitem__" :=
  .of (owner := "bytearray") (n := "__setitem__") (by rw [typeLookup_type, builtinLookup_eq_fast]; kernel_rfl) (by decide +kernel) (by decide +kernel) (by decide +kernel)
    (by first | exact .inl (by decide +kernel) | exact .inr (by decide +kernel)) (by rw [isSubtype_type]; kernel_rfl)
theorem ba_entry_set : entryFor table "bytearray.__setitem__" = some Builtin.«bytearray.__setitem__» := by first | exact entryFor_of_fast (by kernel_rfl) | exact entryFor_of_tree (by kernel_rfl)
theorem ba_args_set (a b c : Value) : argsOk "bytearray.__setitem__" ⟨[a, b, c], []⟩ := by unfold argsOk; kernel_rfl
theorem ba_dec_set : Builtin.Bytes.decodersThatHold.contains "bytearray.__setitem__" = false := by decide +kernel
theorem by_no_int : typeLookup (.type "bytes") "__int__" = pure none := by rw [typeLookup_type, builtinLookup_eq_fast]; kernel_rfl
theorem by_no_float : typeLookup (.type "bytes") "__float__" = pure none := by rw [typeLookup_type, builtinLookup_eq_fast]; kernel_rfl
theorem by_complex : isSubtype (.type "bytes") (.type "complex") = pure false := by rw [isSubtype_type]; kernel_rfl
section
variable {prog : Program} {w : World} {M : Model} {A : Around} {E : Value → Shared → Prop} {s : Shared} {a x : Addr} {b c : Array UInt8} {t : Tok} {p q : Int} {tp tq : Tok}
theorem orFalse {m n : Sem Bool} {Q : Bool → Shared → Prop} (h : wpAny M A m (fun r s' => r = false ∧ wpAny M A n Q E s') E s) : wpAny M A (m <||> n) Q E s := by
  unfold orM
  refine wpAny_bind (wpAny_mono h (fun r s' h' => ?_) fun _ _ e => e)
  obtain ⟨rfl, h'⟩ := h'
  exact h'
/-- the parts of a slice of two ints -/
theorem parts_ii {Q : Value × Value × Value → Shared → Prop} (hx : s.heap.IsSliceOf x (.int p tp) (.int q tq) .none) (h : Q (rawInt p, rawInt q, .none) s) :
    wpAny M A (Bytes.sliceParts (.ref x)) Q E s := by
  obtain ⟨o, ho, hc, hd⟩ := hx
  unfold Bytes.sliceParts
  refine wpAny_bind (wpAny_field (x := .none) ho hd rfl ?_)
  kby_none
  refine wpAny_ite (KBy.ite_no (show ¬ ((Value.none == rawInt 0) = true) from Bool.false_ne_true) ?_)
  refine wpAny_bind (wpAny_field (x := .int p tp) ho hd rfl ?_)
  kby_int
  refine wpAny_bind (wpAny_field (x := .int q tq) ho hd rfl ?_)
  kby_int
  exact wpAny_pure h
def laidIn (b c : Array UInt8) (p q : Int) : Array UInt8 :=
  b.extract 0 (sliceBounds (some p) (some q) none b.size).1.toNat ++ c ++ b.extract (max (sliceBounds (some p) (some q) none b.size).1 (sliceBounds (some p) (some q) none b.size).2.1).toNat b.size
theorem bounds_step (b : Array UInt8) (p q : Int) : (sliceBounds (some p) (some q) none b.size).2.2 = 1 := rfl
theorem set_run {Q : PySem.Fin → Shared → Prop} (hg : A.guards = some []) (h : s.heap.get? a = some (baObj b)) (hx : s.heap.IsSliceOf x (.int p tp) (.int q tq) .none) (hc : c.size ≤ sizeLine)
    (hz : (laidIn b c p q).size ≤ sizeLine)
    (k : ∀ h', h'.get? a = some (baObj (laidIn b c p q)) → (∀ y o, y ≠ a → s.heap.get? y = some o → h'.get? y = some o) → Q (.done (.ret .none)) { s with heap := h' }) :
    wpC (model prog w) A (Builtin.«bytearray.__setitem__» ⟨[.ref a, .ref x, .bytes c t], []⟩) Q E s := by
  have hT : s.TypeIs (.ref x) "slice" := by obtain ⟨o, ho, hc, hd⟩ := hx; exact ⟨o, ho, hc⟩
  unfold Builtin.«bytearray.__setitem__»
  refine cIfF rfl ?_
  dsimp only
  refine cBindA ?_
  unfold Bytes.subscript?
  refine wpAny_bind (wpAny_specialOf hT slice_no_index (wpAny_pure ?_))
  refine cBindA (wpAny_typeOf hT ?_)
  refine cIfF rfl ?_
  refine cBindA (parts_ii hx ?_)
  refine cIfF rfl ?_
  refine cBindA (wpAny_isInstance (typeIs_bytes _ _ _) by_ba_sub ?_)
  refine cIfT rfl ?_
  refine cBindA (orFalse ?_)
  refine wpAny_bind (wpAny_specialOf (typeIs_bytes _ _ _) by_no_index (wpAny_pure ⟨rfl, ?_⟩))
  refine orFalse (wpAny_bind (wpAny_specialOf (typeIs_bytes _ _ _) by_no_int (wpAny_pure ⟨rfl, ?_⟩)))
  refine orFalse (wpAny_bind (wpAny_specialOf (typeIs_bytes _ _ _) by_no_float (wpAny_pure ⟨rfl, ?_⟩)))
  refine wpAny_isInstance (typeIs_bytes _ _ _) by_complex ?_
  refine cBindE (x := none) rfl ?_
  refine cIfF rfl ?_
  refine cBindA (wpAny_rule ?_)
  have keep : ∀ {h' : Heap}, Heap.SameBut s.heap.objs.size (s.heap.push (baObj #[])) h' → ∀ y o, s.heap.get? y = some o → h'.get? y = some o := fun hs y o e =>
    (hs.2 y (Nat.ne_of_lt (Heap.lt_size e))).trans (Heap.get?_push_of_some _ e)
  refine cBind (make_ba1 hg hc fun h1 hn hs => ?_)
  have hb1 : h1.get? a = some (baObj b) := keep hs a _ h
  have hx1 : h1.IsSliceOf x (.int p tp) (.int q tq) .none := by obtain ⟨o, ho, hc, hd⟩ := hx; exact ⟨o, keep hs x _ ho, hc, hd⟩
  refine cBindA (wpAny_holding (parts_ii (s := { s with heap := h1 }) hx1 ?_))
  refine cBindA (payload_ba (s := { s with heap := h1 }) hn ?_)
  refine cBindA (payload_ba (s := { s with heap := h1 }) hb1 ?_)
  refine cBindE (sliceIndices_raw (some p) (some q) none b.size (fun e => nomatch e)) ?_
  refine cIfT rfl ?_
  refine cBindA (wpAny_rule ?_)
  have fin : wpC (model prog w) A (do
      Bytes.write (.ref a) fun b' => b'.extract 0 (sliceBounds (some p) (some q) none b.size).1.toNat ++ c ++ b'.extract (max (sliceBounds (some p) (some q) none b.size).1 (sliceBounds (some p) (some q) none b.size).2.1).toNat b'.size
      ret .none) Q E { s with heap := h1 } := by
    refine cBindA (write_ba (s := { s with heap := h1 }) hb1 hz fun h' e1 e2 => cPure (k h' e1 fun y o hy e => ?_))
    exact (e2.2 y hy).trans (keep hs y o e)
  by_cases hr : ((c.size : Int) != max (sliceBounds (some p) (some q) none b.size).1 (sliceBounds (some p) (some q) none b.size).2.1 - (sliceBounds (some p) (some q) none b.size).1) = true
  · refine cIfT hr (cBind (resize_ba (s := { s with heap := h1 }) hg hb1 fin))
  · rw [Bool.not_eq_true] at hr
    exact cIfF hr fin
theorem setItem_ba {Q : Unit → Shared → Prop} (hg : A.guards = some []) (h : s.heap.get? a = some (baObj b)) (hx : s.heap.IsSliceOf x (.int p tp) (.int q tq) .none) (hc : c.size ≤ sizeLine)
    (hz : (laidIn b c p q).size ≤ sizeLine)
    (k : ∀ h', h'.get? a = some (baObj (laidIn b c p q)) → (∀ y o, y ≠ a → s.heap.get? y = some o → h'.get? y = some o) → Q () { s with heap := h' }) :
    wpC (model prog w) A (setItem (.ref a) (.ref x) (.bytes c t)) Q E s := by
  have hT := typeIs_ba (s := s) h
  unfold setItem
  refine cHolding (cBindA ?_)
  refine wpAny_sequenceKey hT (by decide) ?_
  refine cBind ?_
  unfold callSpecial?
  refine cBindA (wpAny_specialOf hT ba_slot_set.lookup ?_)
  refine cHolding (cBindE (ba_slot_set.bind _) ?_)
  dsimp only
  refine cBind (cCall (codeC_call_builtin ba_dec_set ba_slot_set.plain ba_entry_set (ba_slot_set.check _ _ _ _ _ _ _ _ hT (ba_args_set _ _ _) (set_run hg h hx hc hz fun h' e1 e2 => ?_))))
  exact cPure (cPure (k h' e1 e2))
end
end Mine
end

section
open PySem PySem.W PySem.Calls PyProof.Rows
set_option Elab.async false
namespace Mine
set_option maxRecDepth 100000
set_option maxHeartbeats 4000000
/-- the call, where the stack is clean; elsewhere a plain True (no real run comes there) -/
def chk (f : Value) (vs : List Value) : Sem Value := Sem.stack fun st => if cleanSt st = true then PySem.call f vs else Sem.pure (.bool true)
def chkTree (tree : List Value → Sem PySem.Fin) (vs : List Value) : Sem PySem.Fin := Sem.stack fun st => if cleanSt st = true then tree vs else Sem.pure (.done (.ret (.bool true)))
theorem caller_clean (p : Pos) : cleanSt [((Code.builtin "claim.caller" {}), p)] = true := by
  have h : decodes (Code.builtin "claim.caller" {}) = false := by
    show Builtin.Bytes.decodersThatHold.contains "claim.caller" = false
    decide +kernel
  simp [cleanSt, h]
theorem conv_run {prog : Program} {w : World} {tree : List Value → Sem PySem.Fin} {vs : List Value} {s s' : Shared} {n : Nat} {o : Outcome} (hz : s.asleep)
    (h : schedN (denote table) prog w n (.single s ⟨chkTree tree vs, .builtin "claim.caller" {}, default, []⟩) = .halted o s') :
    ∃ m, schedN (denote table) prog w m (.single s ⟨tree vs, .builtin "claim.caller" {}, default, []⟩) = .halted o s' := by
  cases n with
  | zero => cases h
  | succ n =>
    refine ⟨n, ?_⟩
    have hs : step (denote table) prog w s ⟨chkTree tree vs, .builtin "claim.caller" {}, default, []⟩ = .go s ⟨tree vs, .builtin "claim.caller" {}, default, []⟩ := by
      obtain ⟨heap, gens, drawn, toks, os⟩ := s
      show Step.go _ ⟨(if cleanSt [((Code.builtin "claim.caller" {}), default)] = true then tree vs else Sem.pure (.done (.ret (.bool true)))), _, _, _⟩ = _
      rw [if_pos (caller_clean _)]
    have e : sstep (denote table) prog w (.single s ⟨chkTree tree vs, .builtin "claim.caller" {}, default, []⟩) = .go (.single s ⟨tree vs, .builtin "claim.caller" {}, default, []⟩) := by
      rcases sstep_single (denote table) prog w s ⟨chkTree tree vs, .builtin "claim.caller" {}, default, []⟩ rfl hz with e | e
      · rw [e, hs]; rfl
      · rw [hs] at e; cases e
    simp only [schedN, e] at h
    exact h
theorem conv_claim {c : ClaimW} {tree : List Value → Sem PySem.Fin} {defs keeps : List Str} {writes : Bool}
    (H : c.HoldsOpenBy (fun vs => ⟨chkTree tree vs, .builtin "claim.caller" {}, default, []⟩) defs keeps writes) :
    c.HoldsOpenBy (fun vs => ⟨tree vs, .builtin "claim.caller" {}, default, []⟩) defs keeps writes := by
  obtain ⟨h1, h2, h3⟩ := H
  refine ⟨h1, h2, fun w => ⟨(h3 w).1, fun s hs => ?_⟩⟩
  obtain ⟨s₀, hf, hg, s₁, hT, a1, a2, a3, hcall⟩ := (h3 w).2 s hs
  refine ⟨s₀, hf, hg, s₁, hT, a1, a2, a3, fun args hp hl ord ho => ?_⟩
  obtain ⟨vs, s₂, hlaid, n, o, s', hrun, rest⟩ := hcall args hp hl ord ho
  have z0 : s₀.asleep := Shared.asleep_of_life (fence_lifeW hf) (AfterImport.life hs)
  have z1 : s₁.asleep := Shared.asleep_of_life hT.2.1 z0
  have z2 : s₂.asleep := Shared.asleep_of_life (layAllW_rest _ _ _ hlaid).2.2.2 z1
  obtain ⟨m, hm⟩ := conv_run z2 hrun
  exact ⟨vs, s₂, hlaid, m, o, s', hm, rest⟩
theorem chk_any {M : Model} {A : Around} {f : Value} {vs : List Value} {Q : Value → Shared → Prop} {E : Value → Shared → Prop} {s : Shared}
    (h : wpC M A (PySem.call f vs) Q E s) (q : Q (.bool true) s) : wpAny M A (chk f vs) Q E s := fun Γ p hΓ => by
  show Sem.wp M Γ (if cleanSt ((Γ.code, p) :: Γ.below) = true then PySem.call f vs else Sem.pure (.bool true)) _ _ p s
  by_cases hc : cleanSt ((Γ.code, p) :: Γ.below) = true
  · rw [if_pos hc]
    have hc' := List.all_eq_true.mp hc
    refine h Γ p hΓ ⟨by simpa using hc' _ (.head _), fun x hx => by simpa using hc' _ (.tail _ hx)⟩
  · rw [if_neg hc]; exact q
theorem chk_tree {prog : Program} {w : World} {name : Str} {mg : Str → Option Value} {f : Value} {vs : List Value} {Q : PySem.Fin → Shared → Prop} {E : Value → Shared → Prop} {s : Shared}
    (hg : s.heap.Ns mainGlobals mg) (hf : mg name = some f) (h : wpAny (model prog w) callerA (chk f vs) (fun v s' => Q (.done (.ret v)) s') E s) :
    wpAny (model prog w) callerA (chkTree (fun vs => do match ← nsGet mainNs name with
      | some f => do ret (← PySem.call f vs)
      | none => unsupported "claim.caller:no-such-global") vs) Q E s := fun Γ p hΓ => by
  have h1 : Sem.wp (model prog w) Γ (if cleanSt ((Γ.code, p) :: Γ.below) = true then PySem.call f vs else Sem.pure (.bool true)) (fun v _ s' => Q (.done (.ret v)) s') (fun e _ s' => E e s') p s := h Γ p hΓ
  show Sem.wp _ Γ (if cleanSt ((Γ.code, p) :: Γ.below) = true then _ else Sem.pure (PySem.Fin.done (.ret (.bool true)))) _ _ p s
  by_cases hc : cleanSt ((Γ.code, p) :: Γ.below) = true
  · rw [if_pos hc] at h1 ⊢
    rw [Sem.wp_bind']
    refine (Sem.wp_nsGet _ Γ _ p s hg name _).mpr ?_
    rw [hf]
    dsimp only
    rw [Sem.wp_bind']
    exact Sem.wp_mono _ Γ _ (fun v p' s' hq => hq) (fun _ _ _ x => x) p s h1
  · rw [if_neg hc] at h1 ⊢; exact h1
end Mine
namespace Mine.PySem.W
set_option maxRecDepth 100000
set_option maxHeartbeats 4000000
/-- the head of an open row, the call walked under a clean stack (the kit's own head behind it) -/
theorem holds_open {r : OpenRow} {q : Program} {loose : List Str} {Xt : Shared → Bool} {XP : (Str → Option Value) → Heap → Prop} {α : Type} {Yf : Shared → α} {Ya : World → α} {YP : World → Heap → Prop} {d : DefRec} {kwd : List (Str × Expr)} {N : Nat}
    (left : LeftO r.prog q loose Xt Yf Ya N) (hY : ∀ w s, Yf s = Ya w → YP w s.heap) (hYk : ∀ w h h', YP w h → (∀ b o, h.get? b = some o → h'.get? b = some o) → YP w h')
    (hX : ∀ s, Xt s = true → XP (s.heap.nsMap mainGlobals) s.heap) (hXk : ∀ mg h h', XP mg h → (∀ b o, h.get? b = some o → h'.get? b = some o) → XP mg h')
    (hdef : defOf q r.name = some (d, kwd)) (hp : r.prog.theDef r.name = some (d.params, d.body, d.scope)) (hk : kwWritten? d.params.kwonlyargs d.params.kw_defaults = some kwd) (hRf : ∀ s, Xt s = true → RecFacts r.records s.heap) (hwr : (!r.writes || r.records.isEmpty) = true)
    (k1 : r.wellSaid = true) (ok : (chainsOk q && opensWell r.prog && (frees r.toRowW && r.within.isEmpty)) = true) (hb : r.prog.bare) (hw : r.toRowW.promised)
    (call : WalkO q loose XP YP r.toRowW d kwd chk) : r.Holds := by
  refine ⟨k1, hw, conv_claim (open_anyG (r := r.toRowW) (run := chk) left hY hYk hX hXk hRf hwr ok hb hw
    (fun vs w s mg f Q E hg hf h => chk_tree hg hf h) (fun w s hg G n hn => ?_) fun w s₀ s₁ mg mb G Y args vs as hpre hlay L low => ?_)⟩
  · obtain rfl : n = r.name := by split at hn <;> simp_all
    exact pinned_of_view hg G hdef hp hk
  · obtain ⟨a, o, pm, cd, doc, dV, kV, h1, h2, h3, h4, h5⟩ := G.fn hdef
    exact ⟨.ref a, h1, call w s₀ s₁ mg mb G Y a o pm cd doc dV kV h2 h3 h4 h5 (defOf_name hdef ▸ h1) L.gens args vs as hpre hlay L.reads L.well (L.low low)⟩
end Mine.PySem.W
end

section
open PySem PySem.W PySem.Calls PyProof.Rows PySem.Spec
set_option Elab.async false
namespace Mine
set_option maxRecDepth 100000
set_option maxHeartbeats 4000000
section
variable {prog : Program} {w : World} {A₀ A : Around} {s : Shared} {base h₀ : Heap} {outer : List Env} {L : Addr} {m : Str → Option Value} {env : Env} {news : List (Addr × Obj)}
  {R : Result → Shared → Prop} {name qual : Str} {params : Arguments} {body : List Stmt} {scope : Scope} {cl : List (Str × Addr)} {dV kV doc pm cdv ct : Value} {an : Option Addr} {fo : Obj} {f : Addr} {args : Args} {binds : List (Str × Value)}
theorem codeC_func {body : List Stmt} {env : Env}
    (h : wpC (model prog w) (A.deeper env) (execs body env) (fun f s' => R (.ok (.ret (match f with | .ret v => v | _ => .none))) s')
      (fun e s' => wpAny (model prog w) (A.deeper env) (leaving env e) (fun _ s'' => R (.error e) s'') (fun e' s'' => R (.error e') s'') s') s) :
    codeC (model prog w) A (.func body env) R s := by
  refine codeC_tree rfl ?_
  show wpC _ (A.deeper env) (do point; match ← (execs body env).onRaise (leaving env) with | .ret v => ret v | _ => ret .none) _ _ s
  refine cBind (cPoint (cBind (cOnRaise (cMono h (fun f s' h' => ?_) fun _ _ h' => cOf h'))))
  cases f <;> exact cPure h'
theorem codeC_call_function {a : Addr} {args : Args} {o : Obj} {fd : FuncData} {body : List Stmt} (hroom : A.depth < recursionLimit)
    (ho : s.heap.get? a = some o)
    (hd' : o.data = .func fd) (hco : fd.scope.isCoroutine = false) (hgen : fd.scope.isGenerator = false) (hbody : fd.body = .stmts body) (hcd : s.heap.CodeRec fd.code fd.qualname)
    (h : wpAny (model prog w) A.in1 (bindArgs fd args) (fun binds s₁ =>
      wpAny (model prog w) A.in1 (newFunctionEnv fd.scope fd.globals fd.closure binds (fd.qualname ++ ".<locals>.") (some a) fd.code none fd.builtins)
        (fun env s₂ => s₂.heap.NoLimit ∧ codeC (model prog w) A (.func body env) R s₂) (fun e s' => R (.error e) s') s₁) (fun e s' => R (.error e) s') s) :
    codeC (model prog w) A (.call (.ref a) args) R s := by
  refine codeC_tree rfl (cOf ?_)
  show wpAny _ A.in1 (callAny (.ref a) args) _ _ s
  simp only [callAny]
  refine wpAny_bind (wpAny_load ho ?_)
  obtain ⟨c, oc, vs, tq, hc, hoc, hdc, hq⟩ := hcd
  simp only [hd', callFunction, hco, hgen, hbody, hc]
  rw [hc] at h
  refine wpAny_bind (m := field (.ref c) 1) (wpAny_field hoc hdc hq (wpAny_bind (wpAny_pure ?_)))
  exact wpAny_bind (wpAny_mono h (fun binds s₁ h₁ => wpAny_bind (wpAny_mono h₁ (fun env s₂ h₂ => wpAny_bind (wpAny_enterFrame h₂.1 hroom
    (wpAny_pure (And.intro rfl h₂.2)))) fun _ _ h' => h')) fun _ _ h' => h')
theorem callC_plain (B : Below A₀ base outer h₀) (F : Fr h₀ L s.heap m) (N : News h₀ L s.heap news) (hlim : h₀.NoLimit) (hA : A.frames = some (env :: outer)) (hf : env.frame = some L) (hke : env.scope.kind = .function)
    (ho : s.heap.get? f = some fo) (hd : fo.data = .func (fnX name qual params body scope cl dV kV doc pm an cdv ct)) (hcd : s.heap.CodeRec cdv qual) (hroom : A.depth < recursionLimit)
    (hbind : BindsTo s (fnX name qual params body scope cl dV kV doc pm an cdv ct) args binds) (hloc : ∀ y ∈ binds, scope.names.lookup y.1 = some .local)
    (h : ∀ g L' h₁, Fr h₀ L g m → Fr g L' h₁ (fun y => binds.reverse.lookup y) → News g L' h₁ news → Below A base (env :: outer) g → h₀.StaysIn g → (∀ p ∈ news, p.1 < L') →
      wpC (model prog w) (A.deeper (envX qual scope L' f cdv cl)) (execs body (envX qual scope L' f cdv cl))
        (fun fl s' => LeaveK h₀ L m g R (match fl with | .ret v => v | _ => .none) s')
        (fun e s' => wpAny (model prog w) (A.deeper (envX qual scope L' f cdv cl)) (leaving (envX qual scope L' f cdv cl) e) (fun _ s'' => R (.error e) s'') (fun e' s'' => R (.error e') s'') s')
        { s with heap := h₁, toks := s.toks + binds.length })
    (hcell : ∀ x ∈ scope.names, x.2 ≠ .cell) (hco : scope.isCoroutine = false := by rfl) (hgen : scope.isGenerator = false := by rfl) (hk : scope.kind = .function := by rfl) : codeC (model prog w) A (.call (.ref f) args) R s := by
  obtain ⟨FG, BG, st, lv⟩ := groundX (R := R) B F N hA hf hke
  refine codeC_call_function hroom ho hd hco hgen rfl hcd (hbind _ _ _ _ ?_)
  refine wpAny_newFunctionEnv hcell hloc (fun h₁ hns₁ hsb₁ => ⟨(hlim.keeps F.keep).fresh _ hsb₁, codeC_func ?_⟩) hk
  have hk₁ : ∀ b o, s.heap.get? b = some o → h₁.get? b = some o := fun b o e => hsb₁.extBut b o (Nat.ne_of_lt (Heap.lt_size e)) (Heap.get?_push_of_some _ e)
  refine cMono (h _ s.heap.objs.size h₁ FG ⟨hns₁, fun b o e => hk₁ b o (of_hideAll _ e), Nat.le_of_eq (hideAll_size _ _)⟩
    (fun p hp => ⟨hk₁ _ _ (N p hp).1, Nat.ne_of_lt (Heap.lt_size (N p hp).1), hideAll_none _ (List.mem_map_of_mem hp)⟩) BG st (fun p hp => Heap.lt_size (N p hp).1)) (fun fl s' hl => lv _ _ hl) fun _ _ y => y
/-- a def of the text -/
theorem callC_def {K : Frag} {p : Program} {loose : List Str} {mean : ExcName → Option Value} {mg mb : Str → Option Value} {oc : Value} {od : Option Addr} {osl : Array (Option Value)}
    (B : Below A₀ base outer h₀) (F : Fr h₀ L s.heap m) (X₀ : K.In h₀) (N : News h₀ L s.heap news) (T : Top p loose mean mg mb h₀) (hA : A.frames = some (env :: outer)) (hf : env.frame = some L) (hke : env.scope.kind = .function)
    (ho : K.lookup f = some ⟨oc, od, .func (fnOf name qual params body scope dV kV doc pm an cdv ct), osl⟩) (hcd : codeIn K cdv qual = true) (hroom : A.depth < recursionLimit)
    (hbind : BindsTo s (fnOf name qual params body scope dV kV doc pm an cdv ct) args binds) (hloc : ∀ y ∈ binds, scope.names.lookup y.1 = some .local)
    (h : ∀ g L' h₁, Fr h₀ L g m → Fr g L' h₁ (fun y => binds.reverse.lookup y) → News g L' h₁ news → Below A base (env :: outer) g → K.In g → Top p loose mean mg mb g → (∀ p ∈ news, p.1 < L') →
      wpC (model prog w) (A.deeper (envOf qual scope L' f cdv)) (execs body (envOf qual scope L' f cdv))
        (fun fl s' => LeaveK h₀ L m g R (match fl with | .ret v => v | _ => .none) s')
        (fun e s' => wpAny (model prog w) (A.deeper (envOf qual scope L' f cdv)) (leaving (envOf qual scope L' f cdv) e) (fun _ s'' => R (.error e) s'') (fun e' s'' => R (.error e') s'') s')
        { s with heap := h₁, toks := s.toks + binds.length })
    (hcell : ∀ x ∈ scope.names, x.2 ≠ .cell) (hco : scope.isCoroutine = false := by rfl) (hgen : scope.isGenerator = false := by rfl) (hk : scope.kind = .function := by rfl) : codeC (model prog w) A (.call (.ref f) args) R s :=
  callC_plain (cl := []) B F N T.nolimit hA hf hke ((X₀.keeps F.keep) _ _ ho) rfl (codeRec_of (X₀.keeps F.keep) hcd) hroom hbind hloc (fun g L' h₁ FG F' N' B' st l => h g L' h₁ FG F' N' B' (X₀.keeps st) (T.keeps st) l) hcell hco hgen hk
/-- the def with cells, called from the top -/
theorem callC_cells {pm cd doc : Value} {a : Addr} {o : Obj} {args : List Value}
    (hroom : A.depth < recursionLimit) (ho : s.heap.get? a = some o) (hdata : o.data = .func (Calls.docDef name params body scope pm cd doc)) (hlim : s.heap.NoLimit) (hcd : s.heap.CodeRec cd name)
    (hbind : bindArgs (Calls.docDef name params body scope pm cd doc) ⟨args, []⟩ = pure binds)
    (hkind : ∀ x ∈ binds, scope.names.lookup x.1 = some .local ∨ (scope.names.lookup x.1 = some .cell ∧ ((cellsFrom (s.heap.objs.size + 1) scope.names []).lookup x.1).isSome = true))
    (hnd : ((cellsFrom 0 scope.names []).map (·.1)).Nodup)
    (h : ∀ h₁ tk cells, Fr s.heap s.heap.objs.size h₁ (bindL (envOfC name scope s.heap.objs.size a cd).kindOf binds fun _ => none) → News s.heap s.heap.objs.size h₁ cells →
      CellsAre (bindC (envOfC name scope s.heap.objs.size a cd).kindOf binds fun _ => none) (cellsFrom (s.heap.objs.size + 1) scope.names []) cells →
      wpC (model prog w) (A.deeper (envOfC name scope s.heap.objs.size a cd)) (execs body (envOfC name scope s.heap.objs.size a cd))
        (fun f s' => R (.ok (.ret (match f with | .ret v => v | _ => .none))) s')
        (fun e s' => wpAny (model prog w) (A.deeper (envOfC name scope s.heap.objs.size a cd)) (leaving (envOfC name scope s.heap.objs.size a cd) e)
          (fun _ s'' => R (.error e) s'') (fun e' s'' => R (.error e') s'') s')
        { s with heap := h₁, toks := tk })
    (hco : scope.isCoroutine = false := by rfl) (hgen : scope.isGenerator = false := by rfl) (hk : scope.kind = .function := by rfl) :
    codeC (model prog w) A (.call (.ref a) ⟨args, []⟩) R s := by
  refine codeC_call_function hroom ho hdata hco hgen rfl hcd ?_
  rw [hbind]
  refine wpAny_pure (wpAny_newFunctionEnv_cells hk hkind fun env' he s' x => ?_)
  subst he
  refine ⟨hlim.keeps x.toInCall.keep, codeC_func ?_⟩
  obtain ⟨h₁, tk, rfl, _⟩ := x.done
  obtain ⟨cells, NC, Y⟩ := Cl.news (h₀ := s.heap) (Nat.le_refl _) fun n c hm => ⟨x.cell n c (lookup_of_mem_nodup (cellsFrom_names scope.names 0 (s.heap.objs.size + 1) [] [] rfl ▸ hnd) hm), x.above n c hm⟩
  exact h h₁ tk cells ⟨x.toInCall.ns, x.toInCall.keep, Nat.le_refl _⟩ NC Y
end
end Mine
end

section
open PySem PySem.W PySem.Calls PyProof.Rows PySem.Spec
set_option Elab.async false
namespace Mine
set_option maxRecDepth 100000
set_option maxHeartbeats 4000000
section
variable {prog : Program} {w : World} {A : Around} {K : Frag} {C : Addr} {s : Shared} {R : Result → Shared → Prop}
theorem makeC_core {h : Heap} {g : Array GenState} {d : Drawn} {t : Nat} {os : OsState} {init : Value} (Y : Makes (model prog w) h C) (hi : Looks (model prog w) h (typeLookup (.ref C) "__init__") (some init))
    (hb : ∀ self, Looks (model prog w) h (bindSpecial init self) (init, [self])) (hne : (some init != some (Value.builtin "object.__init__")) = true)
    (hq : codeC (model prog w) (A.under (.builtin "type.__call__" ⟨[.ref C], []⟩)) (.call init ⟨[.ref (h.objs.size + 1)], []⟩) (InitBack (h.objs.size + 1) R) ⟨(h.push emptyDict).push (instObj C h.objs.size), g, d, t, os⟩) :
    codeC (model prog w) A (.call (.ref C) ⟨[], []⟩) R ⟨h, g, d, t, os⟩ := by
  have Y' := Y
  obtain ⟨⟨oc, od, cd, sl, hC, e1, e2, e4⟩, made, base, self, top, call, typ⟩ := Y
  refine codeC_tree rfl ?_
  show wpC _ _ (callAny (.ref C) _) _ _ _
  refine cOf (nd_load hC ?_)
  show wpAny _ _ (callAny.viaDunder (.ref C) _) _ _ _
  unfold callAny.viaDunder
  refine wpAny_bind (call.at ?_)
  dsimp only
  rw [tc_bind]
  refine wpAny_bind (wpAny_pure (wpAny_bind (wpAny_pure ?_)))
  refine wpAny_pure (a := Fin.again (.call (.builtin "type.__call__") ⟨[.ref C], []⟩)) (And.intro rfl ?_)
  refine codeC_tree rfl ?_
  show wpC _ _ (do checkBuiltinCall "type.__call__" ⟨[.ref C], []⟩; again (.builtin "type.__call__" ⟨[.ref C], []⟩)) _ _ _
  refine cBindA (check_slot tc_kind tc_split typ (tc_args _ _ _) (cPure ⟨Code.quiet_builtin _ (by decide +kernel), codeC_builtin dec_type_call entry_typeCall ?_⟩))
  unfold Builtin.«type.__call__»
  have hm : Looks (model prog w) h (mroOf (.ref C)) cd.mro := ((Looks.ld (part := none) hC).andThen .now).andThen .now
  dsimp only
  refine cIfF rfl ?_
  refine cBindA (hm.at ?_)
  refine cIfF e4 ?_
  refine cBindA (made.at ?_)
  dsimp only
  refine cBindE rfl ?_
  refine cBindA (wpAny_holding (wpAny_call (new_K Y' hi (.inl hne) ?_)))
  dsimp only
  have k : ∀ b o, h.get? b = some o → ((h.push emptyDict).push (instObj C h.objs.size)).get? b = some o := fun b o e => Heap.get?_push_of_some _ (Heap.get?_push_of_some _ e)
  have hx : ((h.push emptyDict).push (instObj C h.objs.size)).get? (h.objs.size + 1) = some (instObj C h.objs.size) := by heap_get
  have t1 : Looks (model prog w) ((h.push emptyDict).push (instObj C h.objs.size)) (typeOf (.ref (h.objs.size + 1))) (.ref C) := (Looks.ld hx).andThen .now
  have s1 := self.keeps k
  have i1 := hi.keeps k
  have b1 := (hb (.ref (h.objs.size + 1))).keeps k
  unfold isInstance callSpecial? specialOf
  refine cBindA (wpAny_bind (t1.at (s1.at ?_)))
  refine cIfF rfl ?_
  refine cBind (cHolding (cBindA (wpAny_bind (t1.at (i1.at ?_)))))
  dsimp only
  refine cHolding (cBindA (b1.at ?_))
  dsimp only
  refine cBind (cCall (codeC_mono hq fun r s' z => ?_))
  rcases r with e | (v | _ | _ | _) <;> first | exact z | exact z.elim | skip
  obtain ⟨rfl, z⟩ := z
  exact cPure (cIfF (by decide) (cPure z))
theorem makeC {h₀ : Heap} {L : Addr} {m : Str → Option Value} {news : List (Addr × Obj)} {fI : Addr} (F : Fr h₀ L s.heap m) (N : News h₀ L s.heap news) (X : K.In s.heap) (hm : makesIn K C = true)
    (hi : findIn K (.ref C) "__init__" = some (some (.ref fI))) (hf : typeIn K (.ref fI) = some (.type "function"))
    (h : ∀ x dx h', Fr h₀ L h' m → News h₀ L h' ((x, instObj C dx) :: (dx, emptyDict) :: news) → (∀ p ∈ news, p.1 < dx) → dx < x →
      codeC (model prog w) (A.under (.builtin "type.__call__" ⟨[.ref C], []⟩)) (.call (.ref fI) ⟨[.ref x], []⟩) (InitBack x R) { s with heap := h' }) :
    codeC (model prog w) A (.call (.ref C) ⟨[], []⟩) R s := by
  obtain ⟨hh, g, d, t, os⟩ := s
  refine makeC_core (makes_of X hm) (looks_findIn X hi) (fun self => bind_fn X self hf) rfl (h _ hh.objs.size _ ((F.push _).push _) ?_ (fun p hp => Heap.lt_size (N p hp).1) (Nat.lt_succ_self _))
  have := (N.push F emptyDict).push (F.push _) (instObj C hh.objs.size)
  rwa [Heap.size_push] at this
end
end Mine
end

section
open PySem PySem.W PySem.Calls PyProof.Rows PySem.Spec
set_option Elab.async false
namespace Mine
set_option maxRecDepth 100000
set_option maxHeartbeats 4000000
section
variable {M : Model} {A : Around} {E : Value → Shared → Prop} {s : Shared} {env : Env}
theorem cExecs {st : Stmt} {rest : List Stmt} {Q : Flow → Shared → Prop}
    (h : wpC M A (exec st env) (fun f s' => match f with | .next => wpC M A (execs rest env) Q E s' | f => Q f s') E s) :
    wpC M A (execs (st :: rest) env) Q E s := by
  rw [execs_cons]
  refine cBind (cMono h (fun f s' h' => ?_) fun _ _ x => x)
  cases f <;> first | exact h' | exact cPure h'
/-- a statement by the kit's rules, the rest under a clean stack -/
theorem cExecsA {st : Stmt} {rest : List Stmt} {Q : Flow → Shared → Prop}
    (h : wpAny M A (exec st env) (fun f s' => match f with | .next => wpC M A (execs rest env) Q E s' | f => Q f s') E s) :
    wpC M A (execs (st :: rest) env) Q E s := cExecs (cOf h)
theorem cNil {Q : Flow → Shared → Prop} (h : Q .next s) : wpC M A (execs [] env) Q E s := cPure h
theorem cIf {test : Expr} {body orelse : List Stmt} {pos : Pos} {Q : Flow → Shared → Prop}
    (h : wpC M A (isTrue test env (eval test env)) (fun b s₂ => if b = true then wpC M A (execs body env) Q E s₂ else wpC M A (execs orelse env) Q E s₂) E s) :
    wpC M A (exec (.If test body orelse pos) env) Q E s := by
  rw [exec_If]
  refine cBind (cStand (cBind (cMono h (fun b s' h' => ?_) fun _ _ x => x)))
  cases b
  · exact cIfF rfl (by simpa using h')
  · exact cIfT rfl (by simpa using h')
theorem wp_operate_any {vs : List Value} {m : Sem Value} {Q : Value → Shared → Prop} (h : wpAny M A m Q E s) : wpAny M A (operate vs m) Q E s := fun Γ p hΓ => by
  rw [Sem.wp_operate]; exact h Γ p hΓ
theorem cTest1 {l r : Expr} {op : CmpOp} {pos : Pos} {whole : Sem Value} {Q : Bool → Shared → Prop}
    (h : wpC M A (eval l env) (fun a s₁ => wpAny M A (eval r env) (fun b s₂ => wpAny M A (compareOp op a b)
      (fun c s₃ => wpAny M A (truthy c) Q E s₃) E s₂) E s₁) E s)
    (hm : behindInMarks op r = false := by with_unfolding_all rfl) : wpC M A (isTrue (.Compare l [op] [r] pos) env whole) Q E s := by
  rw [isTrue_Compare1, markedBehindIn_of_false hm]
  refine cBind (cMono h (fun a s₁ h₁ => cOf ?_) fun _ _ x => x)
  refine wpAny_bind (wpAny_holding (wpAny_mono h₁ (fun b s₂ h₂ => wpAny_bind (wpAny_standAt (wpAny_bind (wp_operate_any (wpAny_mono h₂ (fun c s₃ h₃ => wpAny_holding h₃) fun _ _ x => x)))) ) fun _ _ x => x))
theorem cExpr {e : Expr} {pos : Pos} {Q : Flow → Shared → Prop} (h : wpC M A (eval e env) (fun v s' => match v with | .ref _ => False | _ => Q .next s') E s)
    (hi : interactive env = false := by rfl) (hs : swapsWith e none pos.line env = pure false := by rfl) :
    wpC M A (exec (.Expr e pos) env) Q E s := by
  rw [exec_Expr env e pos hi hs]
  refine cBind (cStand (cBind (cMono h (fun v s' h' => ?_) fun _ _ x => x)))
  have hv : ∀ a, v ≠ .ref a := fun a hva => by subst hva; exact h'
  rw [dropValue_plain hv]
  refine cPure ?_
  cases v <;> first | exact h' | exact (hv _ rfl).elim
theorem cAssignName {x : Str} {pos' pos : Pos} {value : Expr} {Q : Flow → Shared → Prop}
    (h : wpC M A (eval value env) (fun v s₁ => wpAny M A (storeName env x v) (fun _ s₂ => Q .next s₂) E s₁) E s)
    (hs : swapsWith value (some (.Name x pos')) pos.line env = pure false := by rfl) :
    wpC M A (exec (.Assign [.Name x pos'] value pos) env) Q E s := by
  rw [exec_Assign_Name env x pos' value pos hs]
  refine cBind (cStand (cBind (cMono h (fun v s₁ h₁ => ?_) fun _ _ x => x)))
  exact cBind (cStand (cBindA (wpAny_bindName (wpAny_mono h₁ (fun _ _ h₂ => cPure h₂) fun _ _ x => x))))
theorem wp_release_any {vs ks : List Value} {Q : Unit → Shared → Prop} (h : Q () s) : wpAny M A (release vs ks) Q E s := fun Γ p hΓ => by
  rw [Sem.wp_release]; exact h
theorem cAssignSub {o i : Expr} {pos' pos : Pos} {value : Expr} {Q : Flow → Shared → Prop}
    (h : wpAny M A (eval value env) (fun v s₁ => wpAny M A (eval o env) (fun ov s₂ => wpAny M A (eval i env) (fun iv s₃ =>
      wpC M A (setItem ov iv v) (fun _ => Q .next) E s₃) E s₂) E s₁) E s)
    (hs : swapsWith value (some (.Subscript o i pos')) pos.line env = pure false := by rfl) :
    wpC M A (exec (.Assign [.Subscript o i pos'] value pos) env) Q E s := by
  rw [exec_Assign_Subscript o i pos' value pos hs]
  refine cBind (cStand (cBindA (wpAny_mono h (fun v s₁ h₁ => cBind ?_) fun _ _ x => x)))
  rw [assign_Subscript]
  refine cBindA (wpAny_holding (wpAny_mono h₁ (fun ov s₂ h₂ => ?_) fun _ _ x => x))
  refine cBindA (wpAny_holding (wpAny_mono h₂ (fun iv s₃ h₃ => ?_) fun _ _ x => x))
  refine cBind (cStand (cBind (cHolding (cMono h₃ (fun _ s₄ h₄ => ?_) fun _ _ x => x))))
  exact cOf (wp_release_any (cPure h₄))
/-- any targets: the value under a clean stack, the stores by the kit's rules -/
theorem cAssignAny {targets : List Expr} {value : Expr} {pos : Pos} {Q : Flow → Shared → Prop}
    (h : wpC M A (eval value env) (fun v s₁ => wpAny M A (assignAll v ((assignEach targets env).map (·.2))) (fun _ s₂ => Q .next s₂) E s₁) E s)
    (hs : swapsWithSole targets value pos.line env = pure false := by rfl)
    (hw : swappedStores targets value env = pure none := by rfl) :
    wpC M A (exec (.Assign targets value pos) env) Q E s := by
  rw [exec_Assign, hs]
  refine cBind (cStand (cBindE rfl ?_))
  refine cIfF rfl (cBind (cMono h (fun v s₁ h₁ => ?_) fun _ _ x => x))
  rw [hw]
  refine cBindE rfl ?_
  show wpC M A (do assignAll v ((assignEach targets env).map (·.2)); pure Flow.next) Q E s₁
  exact cBindA (wpAny_mono h₁ (fun _ _ h₂ => cPure h₂) fun _ _ x => x)
theorem cSpliced {x : Sem Value} {rest : List (Bool × Sem Value)} {Q : List Value → Shared → Prop}
    (h : wpC M A x (fun v s₁ => wpC M A (spliced rest) (fun vs s₂ => Q (v :: vs) s₂) E s₁) E s) : wpC M A (spliced ((false, x) :: rest)) Q E s := by
  rw [spliced]
  refine cBind (cMono h (fun v s₁ h₁ => ?_) fun _ _ x => x)
  simp only [Bool.false_eq_true, if_false]
  exact cBind (cPure (cBind (cHolding (cMono h₁ (fun vs s₂ h₂ => cPure h₂) fun _ _ x => x))))
theorem cSplicedNil {Q : List Value → Shared → Prop} (h : Q [] s) : wpC M A (spliced []) Q E s := cPure h
theorem cList {elts : List Expr} {pos : Pos} {Q : Value → Shared → Prop}
    (h : wpC M A (spliced (backTo pos (starEach elts env))) (fun vs s₁ => wpAny M A (newList vs) Q E s₁) E s) : wpC M A (eval (.List elts pos) env) Q E s := by
  show wpC M A (do standAt pos; newList (← spliced (backTo pos (starEach elts env)))) Q E s
  exact cBind (cStand (cBind (cMono h (fun _ _ h' => cOf h') fun _ _ x => x)))
theorem cTuple {elts : List Expr} {k : Nat} {pos : Pos} {Q : Value → Shared → Prop}
    (h : wpC M A (spliced (backTo pos (starEach elts env))) (fun vs s₁ => wpAny M A (newTuple vs) Q E s₁) E s) : wpC M A (eval (.Tuple elts k pos) env) Q E s := by
  show wpC M A (do standAt pos; newTuple (← spliced (backTo pos (starEach elts env)))) Q E s
  exact cBind (cStand (cBind (cMono h (fun _ _ h' => cOf h') fun _ _ x => x)))
/-- the arguments by the kit's rules, the call itself under a clean stack -/
theorem cCallWith {pos : Pos} {f : Value} {first : List Value} {P : Heap → Prop} {args : List (Bool × Sem Value)} {keywords : List (Option Str × Sem Value)} {Q : Value → Shared → Prop} (hplain : (args.any (·.1) || keywords.any (·.1.isNone)) = false)
    (hk : ∀ h, P h → ∃ k, (k = Keeper.frame ∨ k = Keeper.machine ∨ k = Keeper.boundFrame) ∧ Looks M h (keeperOf f) k)
    (h : wpAny M A (evalArgs f true args keywords) (fun a s₁ => P s₁.heap ∧ wpC M A (call f (first ++ a.pos) a.kw) Q E s₁) E s) : wpC M A (callWith pos f first args keywords) Q E s := by
  unfold callWith
  refine cBindA (wpAny_holding (wpAny_mono h (fun a s₁ h₁ => cBind (cStand ?_)) fun _ _ x => x))
  obtain ⟨k, hk', L⟩ := hk _ h₁.1
  simp only [hplain]
  refine cBindA (L.here ?_)
  have tail : ∀ {t : Sem Value}, wpC M A t Q E s₁ → wpC M A (t >>= fun r => holding [r] point >>= fun _ => pure r) Q E s₁ :=
    fun ht => cBind (cMono ht (fun r s₂ hr => cBind (cHolding (cPoint (cPure hr)))) fun _ _ x => x)
  have marked (mk : Value) : wpC M A (callMarked mk f (first ++ a.pos) a.kw) Q E s₁ := by unfold callMarked; exact cKeep h₁.2
  rcases hk' with rfl | rfl | rfl <;> dsimp only <;> first | exact tail h₁.2 | (split <;> first | exact tail h₁.2 | exact tail (marked _))
theorem cCallWithE {pos : Pos} {f : Value} {first : List Value} {P : Heap → Prop} {e : Expr} {rest : List Expr} {Q : Value → Shared → Prop}
    (hk : ∀ h, P h → ∃ k, (k = Keeper.frame ∨ k = Keeper.machine ∨ k = Keeper.boundFrame) ∧ Looks M h (keeperOf f) k)
    (h : wpAny M A (spliced (backTo pos (starEach (e :: rest) env))) (fun vs s₁ => P s₁.heap ∧ wpC M A (call f (first ++ vs)) Q E s₁) E s)
    (he : starEach (e :: rest) env = (false, eval e env) :: starEach rest env := by rfl) (hplain : (backTo pos (starEach rest env)).any (·.1) = false := by rfl) :
    wpC M A (callWith pos f first (backTo pos (starEach (e :: rest) env)) []) Q E s := by
  rw [he] at h ⊢
  exact cCallWith (by show ((false || (backTo pos (starEach rest env)).any (·.1)) || false) = false; rw [hplain]; rfl) hk (evalArgs_plain h)
theorem cCallWith0 {pos : Pos} {f : Value} {first : List Value} {P : Heap → Prop} {Q : Value → Shared → Prop}
    (hk : ∀ h, P h → ∃ k, (k = Keeper.frame ∨ k = Keeper.machine ∨ k = Keeper.boundFrame) ∧ Looks M h (keeperOf f) k) (hp : P s.heap)
    (h : wpC M A (call f (first ++ [])) Q E s) : wpC M A (callWith pos f first (backTo pos (starEach [] env)) []) Q E s :=
  cCallWith rfl hk (evalArgs_nil3 ⟨hp, h⟩)
theorem keeps_builtin {id : String} (h : Heap) (_ : True) : ∃ k, (k = Keeper.frame ∨ k = Keeper.machine ∨ k = Keeper.boundFrame) ∧ Looks M h (keeperOf (.builtin id)) k :=
  ⟨.machine, .inr (.inl rfl), Looks.of_pure rfl⟩
theorem keeps_type {id : String} (h : Heap) (_ : True) : ∃ k, (k = Keeper.frame ∨ k = Keeper.machine ∨ k = Keeper.boundFrame) ∧ Looks M h (keeperOf (.type id)) k :=
  ⟨.machine, .inr (.inl rfl), Looks.of_pure rfl⟩
/-- o.name(args): the object and the method by the kit's rules -/
theorem cMethodCall {o : Expr} {name : Str} {apos pos : Pos} {args : List Expr} {pl : Sem Bool} {Q : Value → Shared → Prop}
    (h : wpAny M A (eval o env) (fun ov s₁ => wpAny M A (getMethod ov name pl) (fun fx s₂ => wpC M A (callWith pos fx.1 fx.2 (backTo pos (starEach args env)) []) Q E s₂) E s₁) E s)
    (he : eval (.Call (.Attribute o name apos) args [] pos) env = (do
      let ov ← eval o env
      standAt apos.atName
      let (f, first) ← holding [ov] (getMethod ov name pl)
      callWith pos f first (backTo pos (starEach args env)) []) := by rfl) :
    wpC M A (eval (.Call (.Attribute o name apos) args [] pos) env) Q E s := by
  rw [he]
  refine cBindA (wpAny_mono h (fun ov s₁ h₁ => cBind (cStand (cBindA (wpAny_holding (wpAny_mono h₁ (fun fx s₂ h₂ => ?_) fun _ _ x => x))))) fun _ _ x => x)
  exact h₂
theorem cCallName {f : Str} {fp pos : Pos} {args : List Expr} {Q : Value → Shared → Prop}
    (h : wpAny M A (eval (.Name f fp) env) (fun fv s₁ => wpC M A (callWith pos fv [] (backTo pos (starEach args env)) []) Q E s₁) E s) :
    wpC M A (eval (.Call (.Name f fp) args [] pos) env) Q E s := by
  show wpC M A (do callWith pos (← eval (.Name f fp) env) [] (backTo pos (starEach args env)) []) Q E s
  exact cBindA h
theorem cRunOwn {c : Code} {Q : Flow → Shared → Prop}
    (hc : codeC M A c (fun r s' => match r with | .ok f => Q f s' | .error e => cameBackBy M A env E e s') s) :
    wpC M A (runOwn c env) Q E s := by
  unfold runOwn
  exact cOnRaise (cMono (cRun hc) (fun _ _ x => x) fun e s' h' => cOf h')
theorem cWhile {test : Expr} {body orelse : List Stmt} {pos : Pos} {Q : Flow → Shared → Prop}
    (h : codeC M A (.whileLoop test body orelse env) (fun r s' => match r with | .ok f => Q f s' | .error e => cameBackBy M A env E e s') s) :
    wpC M A (exec (.While test body orelse pos) env) Q E s := by
  rw [exec_While]; exact cBind (cStand (cRunOwn h))
theorem cFor {target iter : Expr} {body orelse : List Stmt} {pos : Pos} {Q : Flow → Shared → Prop}
    (h : wpAny M A (eval iter env) (fun x s₁ => wpAny M A (pyIter x) (fun it s₂ =>
      codeC M A (.forLoop target it body orelse env) (fun r s' => match r with | .ok f => Q f s' | .error e => cameBackBy M A env E e s') s₂) E s₁) E s)
    (hs : ∀ x, foldedSetIterable iter env x = pure x := by intro _; rfl) :
    wpC M A (exec (.For target iter body orelse pos) env) Q E s := by
  rw [exec_For]
  exact cBind (cStand (cBindA (wpAny_mono h (fun x s₁ h₁ => cBindE (hs x) (cBind (cStand (cBindA (wpAny_holding
    (wpAny_mono h₁ (fun it s₂ h₂ => cRunOwn h₂) fun _ _ h' => h')))))) fun _ _ h' => h')))
end
end Mine
end

section
open PySem PySem.W PySem.Calls PyProof.Rows PySem.Spec
set_option Elab.async false
namespace Mine
set_option maxRecDepth 100000
set_option maxHeartbeats 4000000
section
variable {prog : Program} {w : World} {A : Around} {s : Shared} {env : Env} {R : Result → Shared → Prop}
theorem block_nil (h : R (.ok .next) s) : codeC (model prog w) A (.block [] env) R s := by
  refine codeC_tree rfl ?_
  rw [Around.under_of_weight rfl]
  show wpC _ A (do return PySem.Fin.done (← (execs [] env).onRaise (fun x => do noteFrame x env; theTreesLotGoes x))) _ _ s
  exact cBind (cOnRaise (cPure (cPure h)))
theorem for_list {I l : Addr} {vs : Array Value} {x : Str} {px : Pos} {body : List Stmt} (hh : A.handled = none) (J : Nat → Shared → Prop)
    (hJ : ∀ i s', J i s' → s'.heap.IsList l vs ∧ s'.heap.IsListIter I l i)
    (turn : ∀ i v s' h', J i s' → vs[i]? = some v → Heap.SameBut I s'.heap h' → h'.IsListIter I l (i + 1) →
      wpAny (model prog w) A (storeName env x v) (fun _ s₁ => wpC (model prog w) A (execs body env)
        (fun fl s₂ => match fl with | .brk => R (.ok .next) s₂ | .ret r => R (.ok (.ret r)) s₂ | _ => J (i + 1) s₂) (fun _ _ => False) s₁) (fun _ _ => False) { s' with heap := h' })
    (done : ∀ s' h', J vs.size s' → Heap.ExtBut I s'.heap h' → R (.ok .next) { s' with heap := h' })
    (h : J 0 s) : codeC (model prog w) A (.forLoop (.Name x px) (.ref I) body [] env) R s := by
  have key : ∀ k i s', vs.size - i = k → i ≤ vs.size → J i s' → codeC (model prog w) A (.forLoop (.Name x px) (.ref I) body [] env) R s' := by
    intro k
    induction k with
    | zero =>
      intro i s' hk hi hj
      have e : i = vs.size := by omega
      subst e
      obtain ⟨hl, hit⟩ := hJ _ _ hj
      refine codeC_tree rfl ?_
      rw [Around.under_of_weight rfl]
      show wpC _ A ((forTurn (.Name x px) (.ref I) body [] env).onRaise (fun y => do noteFrame y env; theTreesLotGoes y)) _ _ s'
      refine cOnRaise ?_
      unfold forTurn
      refine cBind (cStand (cBindA (wpAny_onRaise (wpAny_pyNext_list_end hh hit hl (by simp) fun h' he => ?_))))
      exact cPure ⟨rfl, block_nil (done s' h' hj he)⟩
    | succ k ih =>
      intro i s' hk hi hj
      have hlt : i < vs.size := by omega
      obtain ⟨hl, hit⟩ := hJ _ _ hj
      have hv : vs[i]? = some vs[i] := by simp [hlt]
      refine codeC_tree rfl ?_
      rw [Around.under_of_weight rfl]
      show wpC _ A ((forTurn (.Name x px) (.ref I) body [] env).onRaise (fun y => do noteFrame y env; theTreesLotGoes y)) _ _ s'
      refine cOnRaise ?_
      unfold forTurn
      refine cBind (cStand (cBindA (wpAny_onRaise (wpAny_pyNext_list_item hit hl hv fun h' hit' hs => ?_))))
      refine cBindE (x := ()) rfl ?_
      refine cBindA (wpAny_mono (wpAny_assign_Name (turn i _ s' h' hj hv hs hit')) (fun _ s₁ h₁ => cBind (cMono h₁ (fun fl s₂ h₂ => ?_) fun _ _ x => x.elim)) fun _ _ x => x.elim)
      cases fl with
      | brk => exact cPure h₂
      | ret r => exact cPure h₂
      | next => exact cPure ⟨rfl, ih (i + 1) s₂ (by omega) hlt h₂⟩
      | cont => exact cPure ⟨rfl, ih (i + 1) s₂ (by omega) hlt h₂⟩
  exact key _ 0 s rfl (Nat.zero_le _) h
/-- one turn of a while -/
theorem while_turn {test : Expr} {body : List Stmt}
    (h : wpC (model prog w) A (isTrue test env (eval test env)) (fun b s₁ => if b = true then wpC (model prog w) A (execs body env)
        (fun fl s₂ => match fl with | .brk => R (.ok .next) s₂ | .ret r => R (.ok (.ret r)) s₂ | _ => codeC (model prog w) A (.whileLoop test body [] env) R s₂) (fun _ _ => False) s₁
      else R (.ok .next) s₁) (fun _ _ => False) s) : codeC (model prog w) A (.whileLoop test body [] env) R s := by
  refine codeC_tree rfl ?_
  rw [Around.under_of_weight rfl]
  show wpC _ A ((whileTurn test body [] env).onRaise (fun y => do noteFrame y env; theTreesLotGoes y)) _ _ s
  refine cOnRaise ?_
  unfold whileTurn
  refine cBind (cMono h (fun b s₁ h₁ => ?_) fun _ _ x => x.elim)
  cases b
  · refine cIfF rfl ?_
    exact cBind (cPure (cPure (by simpa using h₁)))
  · simp only [if_true] at h₁
    refine cIfT rfl (cBind (cMono h₁ (fun fl s₂ h₂ => ?_) fun _ _ x => x.elim))
    cases fl with
    | brk => exact cPure h₂
    | ret r => exact cPure h₂
    | next => exact cPure ⟨rfl, h₂⟩
    | cont => exact cPure ⟨rfl, h₂⟩
end
end Mine
end

section
open PySem PySem.W PyProof.Rows
set_option Elab.async false
namespace Mine
set_option maxRecDepth 100000
set_option maxHeartbeats 8000000
open_top hd for PySem.Challenge.rw_ad6002_01
end Mine
end

section
open PySem PySem.W PySem.Calls PyProof.Rows PySem.Spec
set_option Elab.async false
namespace Mine
set_option maxRecDepth 100000
set_option maxHeartbeats 4000000
/-- the parts of the law's text, picked out of the given program -/
def pickFn (n : Str) : List Stmt → Option (List Stmt × Scope)
  | [] => none
  | .FunctionDef name _ body _ _ _ scope _ _ _ :: r => if name = n then some (body, scope) else pickFn n r
  | _ :: r => pickFn n r
def pickFor : List Stmt → Option (List Stmt)
  | [] => none
  | .For _ _ body _ _ :: _ => some body
  | _ :: r => pickFor r
def lawFn : Σ' b : List Stmt × Scope, pickFn (Str.ofString "law") PySem.Challenge.pw_ad6002_01.main.body = some b := ⟨_, by with_unfolding_all rfl⟩
def turnB : Σ' b : List Stmt, pickFor lawFn.1.1 = some b := ⟨_, by with_unfolding_all rfl⟩
abbrev lawScope : Scope := lawFn.1.2
abbrev turnBody : List Stmt := turnB.1
abbrev lawEnv (L fa : Addr) (cd : Value) : Env := envOfC (Str.ofString "law") lawScope L fa cd
end Mine
end

section
open PySem PySem.W PySem.Calls PyProof.Rows PySem.Spec
set_option Elab.async false
namespace Mine
set_option maxRecDepth 100000
set_option maxHeartbeats 4000000
abbrev octDict (P : Params) (t1 t2 : Tok) (ba : Addr) (p : Int) (tp : Tok) : Obj :=
  dictOf [⟨PyData.keyHash P (Str.ofString "data"), .str (Str.ofString "data") t1, .ref ba⟩, ⟨PyData.keyHash P (Str.ofString "place"), .str (Str.ofString "place") t2, .int p tp⟩] 2
abbrev aroundOf (dep un : Nat) (env : Env) (outer : List Env) : Around := { handled := none, depth := dep, frames := some (env :: outer), guards := some [], units := un }
section
variable {prog : Program} {w : World} {A : Around} {E : Value → Shared → Prop} {s : Shared} {h₀ : Heap} {L a : Addr} {m : Str → Option Value} {news : List (Addr × Obj)} {b c : Array UInt8} {Q : Value → Shared → Prop} {t : Tok}
theorem k_len_ba (N : News h₀ L s.heap news) (hm : (a, baObj b) ∈ news) (hz : b.size ≤ 1000) (q : Q (.int b.size (s.toks + 1)) { s with toks := s.toks + 1 + 1 }) :
    wpAny (model prog w) A (call (.builtin "len") [.ref a]) Q E s := len_ba (N.get hm) (by rw [sizeLine_eq]; omega) q
theorem k_slice_ba {value slice : Expr} {l u : Value} {lo hi : Option Int} (F : Fr h₀ L s.heap m) (N : News h₀ L s.heap news) (hm : (a, baObj b) ∈ news) (hl : IsPart l lo) (hu : IsPart u hi) (hz : b.size ≤ 1000)
    (q : ∀ y h', Fr h₀ L h' m → News h₀ L h' ((y, baObj (KBy.picked b lo hi)) :: news) → (∀ p ∈ news, p.1 < y) → Q (.ref y) { s with heap := h' })
    (hs : subscripted slice false (.ref a) (.ref s.heap.objs.size) = operate [.ref s.heap.objs.size, .ref a] (getItem (.ref a) (.ref s.heap.objs.size)) := by with_unfolding_all rfl) :
    wpAny (model prog w) A (subscriptTail value slice (.ref a) (.ref s.heap.objs.size)) Q E { s with heap := s.heap.push { cls := .type "slice", data := .fields #[l, u, .none] } } := by
  have F1 := F.push { cls := .type "slice", data := .fields #[l, u, .none] }
  have N1 : News h₀ L (s.heap.push { cls := .type "slice", data := .fields #[l, u, .none] }) news := News.pushKeep N _
  refine tail_any (s := { s with heap := s.heap.push { cls := .type "slice", data := .fields #[l, u, .none] } }) (typeIs_ba (N1.get hm)) ba_slot_get.lookup (slice_ba (value := value) (slice := slice) (s := { s with heap := s.heap.push { cls := .type "slice", data := .fields #[l, u, .none] } }) (N1.get hm) (Heap.IsSliceOf.new _ _ _ _) hl hu (by rw [sizeLine_eq]; omega) ?_) hs
  exact q _ _ (F1.push _) (N1.push F1 _) fun p hp => Heap.lt_size (N1 p hp).1
theorem k_bytes_ba (N : News h₀ L s.heap news) (hm : (a, baObj b) ∈ news) (hz : b.size ≤ 1000) (q : ∀ u k, Q (.bytes b u) { s with toks := k }) :
    wpAny (model prog w) A (call (.type "bytes") [.ref a]) Q E s := bytes_of_ba (N.get hm) (by rw [sizeLine_eq]; omega) q
end
local macro_rules | `(tactic| walk_at "call builtin:len") => `(tactic| (k_here; (with_reducible show wpAny _ _ (call (Value.builtin "len") [Value.ref _]) _ _ _); k_dflt (refine' k_len_ba ?N ?m ?z ?_; (case N => k_asm); (case m => k_mem); (case z => first | assumption | omega); k_whole)))
local macro_rules | `(tactic| walk_at "subscriptTail") => `(tactic| (k_here; (with_reducible show wpAny _ _ (subscriptTail _ (Expr.Slice _ _ none _) (Value.ref _) (Value.ref _)) _ _ _); (with_reducible rename Fr _ _ _ _ => F'); (with_reducible rename News _ _ _ _ => N'); k_dflt (refine' k_slice_ba (s := ⟨_, _, _, _, _⟩) F' N' ?m ?hl ?hu ?z ?_; (case m => k_mem); (case hl => constructor); (case hu => constructor); (case z => first | assumption | omega); k_whole); intro y' h' F' N' l1; (try k_lt l1)))
local macro_rules | `(tactic| walk_at "call type:bytes") => `(tactic| (k_here; (with_reducible show wpAny _ _ (call (Value.type "bytes") [Value.ref _]) _ _ _); k_dflt (refine' k_bytes_ba ?N ?m ?z ?_; (case N => k_asm); (case m => k_mem); (case z => first | assumption | omega); k_whole); intro _ _))
local macro_rules | `(tactic| k_room) => `(tactic| ((try simp only [depth_deeper]); omega))
theorem fillK : PySem.Challenge.rw_ad6002_01 = PySem.Challenge.rw_ad6002_01 ∧ hd.heap_39 = hd.heap_39 := by
  k_with_none
  w_top off
  k_fill
  exact ⟨rfl, rfl⟩

end Mine
end

section
open PySem PySem.W PySem.Calls PyProof.Rows PySem.Spec
set_option Elab.async false
namespace Mine
set_option maxRecDepth 100000
set_option maxHeartbeats 4000000
theorem fillW : PySem.Challenge.rw_ad6002_01 = PySem.Challenge.rw_ad6002_01 ∧ hd.heap_39 = hd.heap_39 := by
  k_with_none
  w_top off
  k_fill
  exact ⟨rfl, rfl⟩
theorem upd_led {h₀ h h' : Heap} {L a : Addr} {m : Str → Option Value} {o o' : Obj} {rest : List (Addr × Obj)} (F : Fr h₀ L h m) (N : News h₀ L h ((a, o) :: rest)) (hne : ∀ p ∈ rest, p.1 ≠ a)
    (ha : h'.get? a = some o') (hk : ∀ y ob, y ≠ a → h.get? y = some ob → h'.get? y = some ob) : Fr h₀ L h' m ∧ News h₀ L h' ((a, o') :: rest) := by
  have D := N (a, o) (.head _)
  obtain ⟨oL, es, ep, hL, r⟩ := F.ns
  refine ⟨⟨⟨oL, es, ep, hk L oL (Ne.symm D.2.1) hL, r⟩, fun b x q => hk b x (fun z => ?_) (F.keep b x q), F.above⟩, fun p hp => ?_⟩
  · have := D.2.2; rw [← z, q] at this; cases this
  · rcases List.mem_cons.mp hp with rfl | hp'
    · exact ⟨ha, D.2⟩
    · have P := N p (.tail _ hp')
      exact ⟨hk _ _ (hne p hp') P.1, P.2⟩
theorem laidIn_size (b c : Array UInt8) (p q : Int) : (laidIn b c p q).size ≤ b.size + c.size + b.size := by
  unfold laidIn
  rw [Array.size_append, Array.size_append, Array.size_extract, Array.size_extract]
  omega
theorem sub_led {h₀ h : Heap} {L : Addr} {l l' : List (Addr × Obj)} (N : News h₀ L h l) (hs : ∀ p ∈ l', p ∈ l) : News h₀ L h l' := fun p hp => N p (hs p hp)
section
variable {prog : Program} {w : World} {M : Model} {A : Around} {E : Value → Shared → Prop} {s : Shared} {h₀ : Heap} {L a : Addr} {m : Str → Option Value} {news : List (Addr × Obj)} {b c : Array UInt8} {t : Tok}
theorem k_getMethod_extend {pl : Sem Bool} {Q : Value × List Value → Shared → Prop} (N : News h₀ L s.heap news) (hm : (a, baObj b) ∈ news) (q : Q (.builtin "bytearray.extend", [.ref a]) s) :
    wpAny M A (getMethod (.ref a) (Str.ofString "extend") pl) Q E s := getMethod_extend (N.get hm) q
end
local macro_rules | `(tactic| walk_at "getMethod ref") => `(tactic| (k_here; (with_reducible show wpAny _ _ (getMethod (Value.ref _) (PySem.Str.ofString "extend") _) _ _ _); k_dflt (refine' k_getMethod_extend ?N ?m ?_; (case N => k_asm); (case m => k_mem))))
local macro_rules | `(tactic| walk_at "call type:bytes") => `(tactic| (k_here; (with_reducible show wpAny _ _ (call (Value.type "bytes") [Value.int _ _]) _ _ _); k_dflt (refine' bytes_of_int ?z0 ?z ?_; (case z0 => omega); (case z => omega); k_whole); intro _ _))
local macro_rules | `(tactic| walk_at "call builtin:len") => `(tactic| (k_here; (with_reducible show wpAny _ _ (call (Value.builtin "len") [Value.bytes _ _]) _ _ _); k_dflt (refine' len_bytes ?z ?_; (case z => omega); k_whole)))
local macro_rules | `(tactic| walk_at "call builtin:len") => `(tactic| (k_here; (with_reducible show wpAny _ _ (call (Value.builtin "len") [Value.ref _]) _ _ _); k_dflt (refine' k_len_ba ?N ?m ?z ?_; (case N => k_asm); (case m => k_mem); (case z => first | assumption | omega); k_whole)))
local macro_rules | `(tactic| k_room) => `(tactic| ((try simp only [depth_deeper]); omega))
section
set_option pp.deepTerms false
set_option pp.deepTerms.threshold 8
set_option pp.proofs false
variable {prog : Program} {w : World} {A₀ : Around} {E : Value → Shared → Prop} {s : Shared} {base h₀ : Heap} {outer : List Env} {env : Env} {L : Addr} {m mg mb : Str → Option Value} {p : Program} {loose : List Str} {mean : ExcName → Option Value}
  {dep un : Nat} {x d ba : Addr} {pl n : Int} {t1 t2 tp tn : Tok} {rest : List (Addr × Obj)} {b c : Array UInt8} {t : Tok} {Q : Value → Shared → Prop}
theorem write_ok (B : Below A₀ base outer h₀) (F : Fr h₀ L s.heap m) (X₀ : (hd.heap_39 w.params).In h₀) (N : News h₀ L s.heap ((ba, baObj b) :: (x, instObj 88 d) :: (d, octDict w.params t1 t2 ba pl tp) :: rest)) (T : Top p loose mean mg mb h₀)
    (hf : env.frame = some L) (hke : env.scope.kind = .function) (hd1 : dep + 4 < recursionLimit) (hun : un + 20 < cLine) (hb : b.size ≤ 300) (hc : c.size ≤ 10) (h0 : 0 ≤ pl) (h1 : pl ≤ 300)
    (hxd : @Ne Nat x d) (hxb : @Ne Nat x ba) (hdb : @Ne Nat d ba) (hr : OwnOff rest [x, d, ba])
    (q : ∀ h' tk u v, Fr h₀ L h' m → News h₀ L h' ((ba, baObj (laidIn (b ++ Array.replicate (if pl - (b.size : Int) > 0 then pl - (b.size : Int) else 0).toNat 0) c pl (pl + c.size))) :: (x, instObj 88 d) :: (d, octDict w.params t1 t2 ba (pl + c.size) v) :: rest) →
      Q (.int c.size u) { s with heap := h', toks := tk }) :
    wpC (model prog w) (aroundOf dep un env outer) (call (.ref 85) [.ref x, .bytes c t]) Q E s := by
  refine cCall ?_
  refine' callC_def ?k1 ?k2 ?k3 ?k4 ?k5 ?kA ?kF ?kK ?k6 ?k7 ?k8 ?k9 ?kB ?_ ?c5 ?c2 ?c3 ?c4
  (case kA => exact rfl); (case kF => exact hf); (case kK => exact hke); (case k1 => k_asm); (case k2 => k_asm); (case k3 => k_asm); (case k4 => k_asm); (case k5 => k_asm); (case k6 => k_is); (case k7 => k_is); (case k8 => k_room); (case k9 => first | exact BindsTo.of_eq rfl | exact binds_K (by k_in) rfl (by k_is) rfl rfl rfl); (case c5 => decide); (case kB => exact locs rfl); (case c2 => exact rfl); (case c3 => exact rfl); (case c4 => exact rfl)
  intro g' L' h' FG' F' N' B' X' T' l0
  clear B F X₀ N T
  (try dsimp only)
  (try k_lift B')
  refine cExecs (cExpr (cMethodCall ?_))
  k_steps
  dsimp only
  refine cCallWithE (P := fun _ => True) keeps_builtin ?_
  k_steps
  dsimp only
  rename Fr g' _ _ _ => F1
  rename News g' _ _ _ => N1
  have hne : ∀ q ∈ (x, instObj 88 d) :: (d, octDict w.params t1 t2 ba pl tp) :: rest, q.1 ≠ ba :=
    List.forall_mem_cons.mpr ⟨hxb, List.forall_mem_cons.mpr ⟨hdb, fun q hq => hr q hq ba (by simp)⟩⟩
  have hpad : ((if pl - (b.size : Int) > 0 then pl - (b.size : Int) else 0).toNat : Int) ≤ 300 := by split <;> omega
  refine call_extend rfl (N1.get (.head _)) (by rw [Array.size_append, Array.size_replicate, sizeLine_eq]; omega) (fun h1 e1 e2 => ?_)
  obtain ⟨F2, N2⟩ := upd_led F1 N1 hne e1 (fun y ob hy e => (e2.2 y hy).trans e)
  clear F1 N1
  dsimp only
  refine cExecs (cAssignSub ?_)
  k_steps
  dsimp only
  refine setItem_ba rfl ((News.pushKeep N2 _).get (.head _)) (Heap.IsSliceOf.new _ _ _ _) (by rw [sizeLine_eq]; omega) (Nat.le_trans (laidIn_size _ _ _ _) (by rw [Array.size_append, Array.size_replicate, sizeLine_eq]; omega)) (fun h3 e3 e4 => ?_)
  obtain ⟨F4, N4⟩ := upd_led (F2.push _) (News.pushKeep N2 _) hne e3 e4
  clear F2 N2
  refine cOf ?_
  (try k_fold)
  k_steps
  refine leaveK_ (by assumption) (by assumption) (fun kF kN => ?_)
  exact q _ _ _ _ kF kN
end
end Mine
end

section
open PySem PySem.W PySem.Calls PyProof.Rows PySem.Spec
set_option Elab.async false
namespace Mine
set_option maxRecDepth 100000
set_option maxHeartbeats 4000000
theorem fillW1 : PySem.Challenge.rw_ad6002_01 = PySem.Challenge.rw_ad6002_01 ∧ hd.heap_39 = hd.heap_39 := by
  k_with_none
  w_top off
  k_fill
  exact ⟨rfl, rfl⟩
theorem picked_all (c : Array UInt8) : KBy.picked c (some 0) none = c := by
  rw [KBc.picked_eq]
  show ((c.toList.drop (clipAt c.size 0)).take (c.size - clipAt c.size 0)).toArray = c
  have e : clipAt c.size 0 = 0 := by
    have h := clipAt_nat c.size 0
    rw [Nat.zero_min] at h
    exact h
  rw [e, List.drop_zero, Nat.sub_zero, List.take_of_length_le (by rw [Array.length_toList]; exact Nat.le_refl _), Array.toArray_toList]
local macro_rules | `(tactic| walk_at "call builtin:len") => `(tactic| (k_here; (with_reducible show wpAny _ _ (call (Value.builtin "len") [Value.bytes _ _]) _ _ _); k_dflt (refine' len_bytes ?z ?_; (case z => omega); k_whole)))
local macro_rules | `(tactic| walk_at "subscriptTail") => `(tactic| (k_here; (with_reducible show wpAny _ _ (subscriptTail _ (Expr.Slice _ _ none _) (Value.bytes _ _) (Value.ref _)) _ _ _); (with_reducible rename Fr _ _ _ _ => F'); (with_reducible rename News _ _ _ _ => N'); (refine KBc.slice_K (s := ⟨_, _, _, _, _⟩) F' N' rfl (by constructor) (by constructor) (by rw [KBw.ints_length]; omega) ?_); intro _ _ _ _ _ kbcK; clear kbcK))
local macro_rules | `(tactic| k_room) => `(tactic| ((try simp only [depth_deeper]); omega))
section
set_option pp.deepTerms false
set_option pp.deepTerms.threshold 8
set_option pp.proofs false
variable {prog : Program} {w : World} {A₀ : Around} {E : Value → Shared → Prop} {s : Shared} {base h₀ : Heap} {outer : List Env} {env : Env} {L : Addr} {m mg mb : Str → Option Value} {p : Program} {loose : List Str} {mean : ExcName → Option Value}
  {dep un : Nat} {x d ba : Addr} {pl n : Int} {t1 t2 tp tn : Tok} {rest : List (Addr × Obj)} {b c : Array UInt8} {t : Tok} {Q : Value → Shared → Prop}
theorem write_to_ok (B : Below A₀ base outer h₀) (F : Fr h₀ L s.heap m) (X₀ : (hd.heap_39 w.params).In h₀) (N : News h₀ L s.heap ((ba, baObj b) :: (x, instObj 88 d) :: (d, octDict w.params t1 t2 ba pl tp) :: rest)) (T : Top p loose mean mg mb h₀)
    (hf : env.frame = some L) (hke : env.scope.kind = .function) (hd1 : dep + 6 < recursionLimit) (hun : un + 30 < cLine) (hb : b.size ≤ 300) (hc : c.size ≤ 10) (h0 : 0 ≤ pl) (h1 : pl ≤ 300)
    (hxd : @Ne Nat x d) (hxb : @Ne Nat x ba) (hdb : @Ne Nat d ba) (hr : OwnOff rest [x, d, ba])
    (q0 : c.size = 0 → ∀ h' tk, Fr h₀ L h' m → News h₀ L h' ((ba, baObj b) :: (x, instObj 88 d) :: (d, octDict w.params t1 t2 ba pl tp) :: rest) → Q .none { s with heap := h', toks := tk })
    (q : 0 < c.size → ∀ h' tk v, Fr h₀ L h' m → News h₀ L h' ((ba, baObj (laidIn (b ++ Array.replicate (if pl - (b.size : Int) > 0 then pl - (b.size : Int) else 0).toNat 0) c pl (pl + c.size))) :: (x, instObj 88 d) :: (d, octDict w.params t1 t2 ba (pl + c.size) v) :: rest) →
      Q .none { s with heap := h', toks := tk }) :
    wpC (model prog w) (aroundOf dep un env outer) (call (.ref 35) [.ref x, .none, .bytes c t]) Q E s := by
  refine cCall ?_
  refine' callC_def ?k1 ?k2 ?k3 ?k4 ?k5 ?kA ?kF ?kK ?k6 ?k7 ?k8 ?k9 ?kB ?_ ?c5 ?c2 ?c3 ?c4
  (case kA => exact rfl); (case kF => exact hf); (case kK => exact hke); (case k1 => k_asm); (case k2 => k_asm); (case k3 => k_asm); (case k4 => k_asm); (case k5 => k_asm); (case k6 => k_is); (case k7 => k_is); (case k8 => k_room); (case k9 => first | exact BindsTo.of_eq rfl | exact binds_K (by k_in) rfl (by k_is) rfl rfl rfl); (case c5 => decide); (case kB => exact locs rfl); (case c2 => exact rfl); (case c3 => exact rfl); (case c4 => exact rfl)
  intro g' L' h' FG' F' N' B' X' T' l0
  clear B F X₀ N T
  (try dsimp only)
  (try k_lift B')
  refine cExecsA ?_
  k_steps
  dsimp only
  refine cExecsA ?_
  k_steps
  dsimp only
  refine cExecs (cWhile (while_turn (cOf ?_)))
  k_steps
  · refine cExecs (cAssignName (cMethodCall ?_))
    k_steps
    dsimp only
    refine cCallWithE (P := (hd.heap_39 w.params).In) (keeps_K (by k_is)) ?_
    k_steps
    rw [picked_all]
    rename Fr g' _ _ _ => F1
    rename News g' _ _ _ => N1
    rename 0 < (c.size : Int) => hpos
    show wpC (model prog w) (aroundOf (dep + 1) (un + 3) _ (env :: outer)) _ _ _ _
    refine write_ok B' F1 X' N1 T' rfl rfl (by omega) (by omega) hb hc h0 h1 hxd hxb hdb hr (fun h3 tk u v F2 N2 => ?_)
    clear F1 N1
    (try dsimp only)
    k_steps
    dsimp only
    refine cNil ?_
    (try dsimp only)
    refine while_turn (cOf ?_)
    k_steps
    (try dsimp only)
    rename Fr g' _ _ _ => F1
    rename News g' _ _ _ => N1
    refine cNil ?_
    (try dsimp only)
    refine leaveK_ (by assumption) (by assumption) (fun kF kN => ?_)
    exact q (by omega) _ _ _ kF kN
  · rename Fr g' _ _ _ => F1
    rename News g' _ _ _ => N1
    refine cNil ?_
    (try dsimp only)
    refine leaveK_ (by assumption) (by assumption) (fun kF kN => ?_)
    exact q0 (by omega) _ _ kF kN
end
end Mine
end

section
open PySem PySem.W PySem.Calls PyProof.Rows PySem.Spec
set_option Elab.async false
namespace Mine
set_option maxRecDepth 100000
set_option maxHeartbeats 4000000
def setsOf (p : Int) (c : List Int) (d : List Int) (ks : List Int) : List Int := ks.foldl (fun acc j => acc.set (p + j).toNat (c.getD j.toNat 0)) d
theorem len_pad (k : Int) : (List.replicate k.toNat [(0 : Int)]).flatten.length = k.toNat := by simp
def laidRow (row : List Int) (p : Int) (c : List Int) : List Int := setsOf p c (row ++ (List.replicate (p + (c.length : Int) - (row.length : Int)).toNat [(0 : Int)]).flatten) (rangeKs 0 ((c.length : Int) - 0).toNat)
def toldOf (row : List Int) (ks : List Int) : List Int := (ks.filter fun (a : Int) => decide (a < (row.length : Int))).map fun (a : Int) => row.getD a.toNat 0
end Mine
end

section
open PySem PySem.W PySem.Calls PyProof.Rows PySem.Spec
set_option Elab.async false
namespace Mine
theorem in_getD {row : List Int} (h : KBa.In row) (i : Nat) : 0 ≤ row.getD i 0 ∧ row.getD i 0 < 256 := by
  rw [List.getD_eq_getElem?_getD]
  cases e : row[i]? with
  | none => simp
  | some a => simpa using h a (List.mem_of_getElem? e)
theorem told_in {row ks : List Int} (h : KBa.In row) : KBa.In (toldOf row ks) := by
  intro a ha
  obtain ⟨k, _, rfl⟩ := List.mem_map.mp ha
  exact in_getD h _
theorem rangeKs_succ (a : Int) (k : Nat) : rangeKs a (k + 1) = rangeKs a k ++ [a + (k : Int)] := by
  simp [rangeKs, List.range_succ]
theorem told_eq (row : List Int) {p : Int} (hp : 0 ≤ p) (k : Nat) : toldOf row (rangeKs p k) = (row.drop p.toNat).take k := by
  induction k with
  | zero => rfl
  | succ k ih =>
    have e1 : toldOf row (rangeKs p (k + 1)) = toldOf row (rangeKs p k) ++ toldOf row [p + (k : Int)] := by
      simp [toldOf, rangeKs_succ, List.filter_append]
    have hn : (p + (k : Int)).toNat = p.toNat + k := by omega
    rw [e1, ih, List.take_add_one, List.getElem?_drop]
    congr 1
    by_cases hl : p.toNat + k < row.length
    · have hd : decide (p + (k : Int) < (row.length : Int)) = true := decide_eq_true (by omega)
      have e2 : toldOf row [p + (k : Int)] = [row.getD (p.toNat + k) 0] := by
        unfold toldOf
        rw [List.filter_cons_of_pos (by simpa using hd), List.filter_nil, List.map_cons, List.map_nil, hn]
      rw [e2, List.getElem?_eq_getElem hl, List.getD_eq_getElem?_getD, List.getElem?_eq_getElem hl]
      rfl
    · have e2 : toldOf row [p + (k : Int)] = [] := by
        unfold toldOf
        rw [List.filter_cons_of_neg (by simp; omega), List.filter_nil, List.map_nil]
      rw [e2, List.getElem?_eq_none (by omega)]
      rfl
theorem byteArr_toList (l : List Int) : (byteArr l).toList = l.map fun n => n.toNat.toUInt8 := by simp [byteArr]
theorem clip_at (n : Nat) {p : Int} (hp : 0 ≤ p) : clipAt n p = min p.toNat n := by
  have e := clipAt_nat n p.toNat
  rwa [Int.toNat_of_nonneg hp] at e
theorem picked_byte (row : List Int) {p q : Int} (hp : 0 ≤ p) (hq : p ≤ q) : KBy.picked (byteArr row) (some p) (some q) = byteArr ((row.drop p.toNat).take (q.toNat - p.toNat)) := by
  rw [KBc.picked_eq]
  show (((byteArr row).toList.drop (clipAt (byteArr row).size p)).take (clipAt (byteArr row).size q - clipAt (byteArr row).size p)).toArray = _
  rw [clip_at _ hp, clip_at _ (by omega), byteArr_size, byteArr_toList]
  show _ = (((row.drop p.toNat).take (q.toNat - p.toNat)).map fun n => n.toNat.toUInt8).toArray
  congr 1
  rw [← List.map_drop, ← List.map_take]
  congr 1
  by_cases h1 : p.toNat ≤ row.length
  · rw [Nat.min_eq_left h1]
    by_cases h2 : q.toNat ≤ row.length
    · rw [Nat.min_eq_left h2]
    · rw [Nat.min_eq_right (by omega), List.take_of_length_le (by rw [List.length_drop]; omega), List.take_of_length_le (by rw [List.length_drop]; omega)]
  · rw [Nat.min_eq_right (a := q.toNat) (by omega), Nat.min_eq_right (a := p.toNat) (by omega), List.drop_of_length_le (Nat.le_refl _), List.drop_of_length_le (by omega), List.take_nil, List.take_nil]
theorem pad_eq (k : Nat) : (List.replicate k [(0 : Int)]).flatten = List.replicate k 0 := by
  induction k with
  | zero => rfl
  | succ k ih => rw [List.replicate_succ, List.flatten_cons, ih, List.replicate_succ]; rfl
theorem sets_eq (ds base : List Int) (P : Nat) (hP : P + ds.length ≤ base.length) : ∀ k, k ≤ ds.length → setsOf (P : Int) ds base (rangeKs 0 k) = base.take P ++ ds.take k ++ base.drop (P + k) := by
  intro k
  induction k with
  | zero => intro _; show base = _; simp
  | succ k ih =>
    intro hk
    have hk' : k < ds.length := hk
    have e1 : setsOf (P : Int) ds base (rangeKs 0 (k + 1)) = (setsOf (P : Int) ds base (rangeKs 0 k)).set (P + k) (ds.getD k 0) := by
      unfold setsOf
      rw [rangeKs_succ, List.foldl_append]
      show (List.foldl _ base (rangeKs 0 k)).set ((P : Int) + (0 + (k : Int))).toNat (ds.getD (0 + (k : Int)).toNat 0) = _
      have n1 : ((P : Int) + (0 + (k : Int))).toNat = P + k := by omega
      have n2 : (0 + (k : Int)).toNat = k := by omega
      rw [n1, n2]
    rw [e1, ih (by omega)]
    have hlen : (base.take P ++ ds.take k).length = P + k := by rw [List.length_append, List.length_take, List.length_take]; omega
    have hd : base.drop (P + k) = base[P + k] :: base.drop (P + (k + 1)) := List.drop_eq_getElem_cons (by omega)
    have ht : ds.take (k + 1) = ds.take k ++ [ds[k]] := by rw [List.take_add_one, List.getElem?_eq_getElem hk']; rfl
    rw [List.set_append_right _ _ (by omega), hlen, Nat.sub_self, hd, List.set_cons_zero, ht, List.getD_eq_getElem?_getD, List.getElem?_eq_getElem hk']
    simp only [List.append_assoc, List.singleton_append, Option.getD_some]
theorem laidRow_eq (row ds : List Int) {p : Int} (hp : 0 ≤ p) :
    laidRow row p ds = (row ++ List.replicate (p.toNat + ds.length - row.length) 0).take p.toNat ++ ds ++ (row ++ List.replicate (p.toNat + ds.length - row.length) 0).drop (p.toNat + ds.length) := by
  unfold laidRow
  have e1 : (p + (ds.length : Int) - (row.length : Int)).toNat = p.toNat + ds.length - row.length := by omega
  have e2 : ((ds.length : Int) - 0).toNat = ds.length := by omega
  rw [pad_eq, e1, e2]
  have e := sets_eq ds (row ++ List.replicate (p.toNat + ds.length - row.length) 0) p.toNat (by rw [List.length_append, List.length_replicate]; omega) ds.length (Nat.le_refl _)
  rw [Int.toNat_of_nonneg hp, List.take_length] at e
  exact e
theorem laidRow_len (row ds : List Int) {p : Int} (hp : 0 ≤ p) : (laidRow row p ds).length = max row.length (p.toNat + ds.length) := by
  rw [laidRow_eq _ _ hp]
  simp only [List.length_append, List.length_take, List.length_drop, List.length_replicate]
  omega
theorem laidRow_in {row ds : List Int} {p : Int} (hp : 0 ≤ p) (h : KBa.In row) (hd : KBa.In ds) : KBa.In (laidRow row p ds) := by
  rw [laidRow_eq _ _ hp]
  have hb : KBa.In (row ++ List.replicate (p.toNat + ds.length - row.length) 0) := by
    intro a ha
    rcases List.mem_append.mp ha with ha | ha
    · exact h a ha
    · rw [(List.mem_replicate.mp ha).2]; decide
  intro a ha
  rcases List.mem_append.mp ha with ha | ha
  · rcases List.mem_append.mp ha with ha | ha
    · exact hb a (List.mem_of_mem_take ha)
    · exact hd a ha
  · exact hb a (List.mem_of_mem_drop ha)
theorem byteArr_append (a b : List Int) : byteArr (a ++ b) = byteArr a ++ byteArr b := by simp [byteArr]
theorem laid_byte (row ds : List Int) {p : Int} (hp : 0 ≤ p) :
    laidIn (byteArr row ++ Array.replicate (if p - ((byteArr row).size : Int) > 0 then p - ((byteArr row).size : Int) else 0).toNat 0) (byteArr ds) p (p + ((byteArr ds).size : Int)) = byteArr (laidRow row p ds) := by
  apply Array.toList_inj.mp
  have hz : (if p - ((byteArr row).size : Int) > 0 then p - ((byteArr row).size : Int) else 0).toNat = p.toNat - row.length := by
    rw [byteArr_size]; split <;> omega
  have hz2 : byteArr row ++ Array.replicate (p.toNat - row.length) 0 = byteArr (row ++ List.replicate (p.toNat - row.length) 0) := by
    rw [byteArr_append]
    congr 1
    apply Array.toList_inj.mp
    rw [byteArr_toList, List.map_replicate, Array.toList_replicate]
    rfl
  rw [hz, hz2]
  unfold laidIn
  rw [sliceBounds_plain]
  simp only [Option.elim]
  rw [clip_at _ hp, clip_at _ (by omega), byteArr_size, byteArr_size]
  simp only [Array.toList_append, Array.toList_extract, byteArr_toList, List.length_append, List.length_replicate]
  rw [laidRow_eq _ _ hp]
  have hq : (p + (ds.length : Int)).toNat = p.toNat + ds.length := by omega
  rw [hq]
  generalize p.toNat = P
  simp only [List.extract_eq_take_drop, byteArr_toList, ← List.map_drop, ← List.map_take, ← List.map_append]
  congr 1
  by_cases hle : P + ds.length ≤ row.length
  · have n1 : P - row.length = 0 := by omega
    have n2 : P + ds.length - row.length = 0 := by omega
    rw [n1, n2, List.replicate_zero, List.append_nil]
    have n3 : ((min P (row.length + 0) : Nat) : Int).toNat - 0 = P := by omega
    have n4 : (max ((min P (row.length + 0) : Nat) : Int) ((min (P + ds.length) (row.length + 0) : Nat) : Int)).toNat = P + ds.length := by omega
    rw [n3, n4, List.drop_zero]
    congr 1
    exact List.take_of_length_le (by rw [List.length_drop]; omega)
  · have hd1 : (row ++ List.replicate (P + ds.length - row.length) (0 : Int)).drop (P + ds.length) = [] := List.drop_of_length_le (by rw [List.length_append, List.length_replicate]; omega)
    have n4 : (max ((min P (row.length + (P - row.length)) : Nat) : Int) ((min (P + ds.length) (row.length + (P - row.length)) : Nat) : Int)).toNat = row.length + (P - row.length) := by omega
    have n3 : ((min P (row.length + (P - row.length)) : Nat) : Int).toNat - 0 = P := by omega
    rw [hd1, n4, n3, Nat.sub_self, List.take_zero, List.drop_zero]
    congr 2
    by_cases hP : P ≤ row.length
    · rw [List.take_append_of_le_length hP, List.take_append_of_le_length hP]
    · rw [List.take_append, List.take_append, List.take_replicate, List.take_replicate]
      congr 2
      omega
end Mine
end

section
open PySem PySem.W PySem.Calls PyProof.Rows PySem.Spec PySem.W.KBy
set_option Elab.async false
namespace Mine
set_option maxRecDepth 100000
set_option maxHeartbeats 4000000
theorem by_noI : typeLookup (.type "bytes") (dunderI "add") = pure none := by
  rw [typeLookup_type]; kernel_rfl
section
variable {prog : Program} {w : World} {A : Around} {E : Value → Shared → Prop} {s : Shared} {b c : Array UInt8} {t u : Tok} {Q : Value → Shared → Prop}
theorem iadd_bytes (hsz : b.size + c.size ≤ 16777216) (h : ∀ t' k, Q (.bytes (b ++ c) t') { s with toks := k }) : wpAny (model prog w) A (inplaceOp .Add (.bytes b t) (.bytes c u)) Q E s := by
  refine iconcat_gives (typeIs_bytes s b t) (typeIs_bytes s c u) by_noI noFill_bytes_add seq_bytes_add FB.slot_bytes_add FB.entry_bytes_add (FB.args_bytes_add_2 _ _) (gives_bytes_add (tooLong_not hsz)) ?_
  by_cases hb : b.isEmpty = true
  · rw [if_pos hb]
    have e : b = #[] := Array.isEmpty_iff.1 hb
    have h' := h u s.toks
    rw [e, Array.empty_append] at h'
    exact h'
  · rw [if_neg hb]
    by_cases hc : c.isEmpty = true
    · rw [if_pos hc]
      have e : c = #[] := Array.isEmpty_iff.1 hc
      have h' := h t s.toks
      rw [e, Array.append_empty] at h'
      exact h'
    · rw [if_neg hc]
      exact ⟨by rw [Array.size_append, sizeLine_eq]; exact hsz, h s.toks (s.toks + 1)⟩
end
end Mine
end

section
open PySem PySem.W PySem.Calls PyProof.Rows PySem.Spec
set_option Elab.async false
namespace Mine
set_option maxRecDepth 100000
set_option maxHeartbeats 4000000
/-- the class that a handler's name reads takes the exception, and the asking stores nothing -/
def Takes (M : Model) (A : Around) (env : Env) (e : Addr) (x : Str) (np : Pos) (s : Shared) : Prop :=
  ∀ (Q : Bool → Shared → Prop) (E : Value → Shared → Prop), Q true s → wpAny M A (eval (.Name x np) env) (fun c s₁ => wpAny M A (excMatches (.ref e) c) Q E s₁) E s
section
variable {prog : Program} {w : World} {A A₀ : Around} {E : Value → Shared → Prop} {s : Shared} {B h₀ h h' : Heap} {l outer : List Env} {env : Env} {L a e t C : Addr} {m : Str → Option Value} {name : Str} {scope : Scope} {cd cls a0 : Value}
  {vs : List Value} {b₀ : Stmt} {suite : List Stmt} {pos np : Pos} {rest : List ExceptHandler} {Q : Flow → Shared → Prop} {news : List (Addr × Obj)} {KF : Frag}
  {p : Program} {loose : List Str} {mg mb : Str → Option Value} {x : Str} {X T' : String} {M : Model}
/-- the exception is noted at the frame and laid down -/
theorem noted_laid {P : Shared → Prop} (hs : A.frames = some (env :: outer)) (hf : env.frame = some L) (R : B.FlyingW (env :: outer) e cls a0 s.heap)
    (k : ∀ h', B.FlyingW (env :: outer) e cls a0 h' → s.heap.UpToSlots h' → P { s with heap := h' }) :
    wpAny M A (noteFrame (.ref e) env) (fun _ s₂ => wpAny M A (setFlight (.ref e) none) (fun _ s₃ => P s₃) E s₂) E s :=
  wpAny_looks_onW hs hf R fun _ H u => wpAny_landsW H fun h₂ R₂ u₂ => k h₂ R₂ (u.trans u₂)
/-- the handler whose class takes the exception runs its suite; what the suite does raises nothing -/
theorem suite_runs (R : B.FlyingW l e cls a0 s.heap) (H : Takes (model prog w) (A.mark (some (.ref e))) env e x np s)
    (k : ∀ h', B.FlyingW l e cls a0 h' → s.heap.UpToSlots h' → wpAny (model prog w) (A.mark (some (.ref e))) (execs (b₀ :: suite) env) Q (fun _ _ => False) { s with heap := h' }) :
    wpAny (model prog w) A (handleBy (.ref e) env (.ExceptHandler (some (.Name x np)) none (b₀ :: suite) pos :: rest)) Q E s :=
  wpAny_handleBy_cons (codeAny_handlers_test (H _ _ (codeAny_handlers_suite (lands_againW R fun h' R' u => wpAny_noRaise (k h' R' u))))) (fun q => by cases q)
/-- what the flight leaves as it was: the frame and the written part -/
theorem flight_keeps (hB : h₀.StaysIn B) (hl : ∀ q ∈ news, B.get? q.1 = some q.2 ∧ h₀.get? q.1 = none) (hf : env.frame = some L) (F : Fr h₀ L h m)
    (R : B.FlyingW (env :: outer) e cls a0 h') (u : h.UpToSlots h') : Fr h₀ L h' m ∧ News h₀ L h' news := by
  refine ⟨F.of_stays (flyingW_base hB R).1 u, fun q hq => ⟨R.1 _ _ (hl q hq).1, ?_, (hl q hq).2⟩⟩
  obtain ⟨_, ⟨_, _, hf', hnone, _⟩, _⟩ := R.2.2.1
  cases hf.symm.trans hf'
  intro z
  have hz := (hl q hq).1
  rw [z, hnone] at hz
  cases hz
/-- catching in a frame of any kind -/
theorem caughtX (K : Below A₀ h₀ outer h₀) (F : Fr h₀ L h m) (u : h.UpToSlots s.heap) (R : RaisedK h₀ (env :: outer) e cls t vs news s.heap) (hf : env.frame = some L)
    (H : ∀ h₁ ob, Fr h₀ L h₁ m → h₁.get? e = some ob → ob.cls = cls → Takes (model prog w) ((A₀.deeper env).mark (some (.ref e))) env e x np { s with heap := h₁ })
    (k : ∀ h', Fr h₀ L h' m → News h₀ L h' news →
      wpAny (model prog w) ((A₀.deeper env).mark (some (.ref e))) (execs (b₀ :: suite) env) Q (fun _ _ => False) { s with heap := h' }) :
    wpAny (model prog w) (A₀.deeper env) (noteFrame (.ref e) env)
      (fun _ s₂ => wpAny (model prog w) (A₀.deeper env) (setFlight (.ref e) none) (fun _ s₃ =>
        wpAny (model prog w) (A₀.deeper env) (handleBy (.ref e) env (.ExceptHandler (some (.Name x np)) none (b₀ :: suite) pos :: rest)) Q E s₃) E s₂) E s := by
  obtain ⟨⟨B, hB, hl, R, _⟩, _⟩ := R
  refine noted_laid (Around.frames_deeper K.stack) hf R fun h₁ R₁ u₁ => ?_
  obtain ⟨ob, ho, hc⟩ := R₁.there
  refine suite_runs R₁ (H h₁ ob (flight_keeps hB hl hf F R₁ (u.trans u₁)).1 ho hc) fun h₂ R₂ u₂ => ?_
  have z := flight_keeps hB hl hf F R₂ ((u.trans u₁).trans u₂)
  exact k h₂ z.1 z.2
/-- a builtin class by its name, in a frame with cells -/
theorem takes_B (F : Fr h₀ L s.heap m) (XB : KF.In h₀) (T : TopRead p loose mg mb h₀) (ex : nsIn KF mainGlobals x = some none) (hv : bootBuiltins x = some (.type T')) (hn : x ≠ "__name__")
    (hexc : isSubtype (.type T') (.type "BaseException") = pure true) (hnt : isSubtype (.type ((Manifest.find? T').elim "type" fun y => y.metatype)) (.type "tuple") = pure false) (hsub : isSubtype (.type X) (.type T') = pure true)
    (ty : s.TypeIs (.ref e) X) (hk : scope.kind = .function := by rfl) (hx : (envX name scope L a cd (cellsFrom (L + 1) scope.names [])).kindOf x = some .globalImplicit := by rfl) (hd : (x == ("__debug__" : Str)) = false := by decide) :
    Takes (model prog w) A (envOfC name scope L a cd) e x np s := fun _ _ q =>
  nameX_B (cl := cellsFrom (L + 1) scope.names []) F XB T ex hv hn (wpAny_excMatches_type ty hexc hnt hsub q) hk hx hd
/-- a class of the text by its name, in a frame with cells -/
theorem takes_O {ob : Obj} (F : Fr h₀ L s.heap m) (XB : KF.In h₀) (T : TopRead p loose mg mb h₀) (ex : nsIn KF mainGlobals x = some (some (.ref C))) (q : ktsIn KF C "BaseException" = true)
    (ho : s.heap.get? e = some ob) (hc : ob.cls = .ref C) (hk : scope.kind = .function := by rfl) (hx : (envX name scope L a cd (cellsFrom (L + 1) scope.names [])).kindOf x = some .globalImplicit := by rfl) (hd : (x == ("__debug__" : Str)) = false := by decide) :
    Takes (model prog w) A (envOfC name scope L a cd) e x np s := fun _ _ r => by
  obtain ⟨_, _, _, _, _, _, _, _, _, _, _, _, _, _, _, _, _, hC, hbase, _⟩ := kts_cls XB q
  exact nameX_K (cl := cellsFrom (L + 1) scope.names []) F XB T ex (wpAny_excMatches_sub_self (F.keep _ _ hC) ho hc hbase r) hk hx hd
end
end Mine
end

section
open PySem PySem.W PySem.Calls PyProof.Rows PySem.Spec
set_option Elab.async false
namespace Mine
set_option maxRecDepth 100000
set_option maxHeartbeats 4000000
theorem fillX2 : PySem.Challenge.rw_ad6002_01 = PySem.Challenge.rw_ad6002_01 ∧ hd.heap_39 = hd.heap_39 := by
  k_with_none
  w_top off
  k_fill
  exact ⟨rfl, rfl⟩

local macro_rules | `(tactic| walk_at "call builtin:len") => `(tactic| (k_here; (with_reducible show wpAny _ _ (call (Value.builtin "len") [Value.bytes _ _]) _ _ _); k_dflt (refine' len_bytes ?z ?_; (case z => omega); k_whole)))
local macro_rules | `(tactic| walk_at "call builtin:len") => `(tactic| (k_here; (with_reducible show wpAny _ _ (call (Value.builtin "len") [Value.ref _]) _ _ _); k_dflt (refine' k_len_ba ?N ?m ?z ?_; (case N => k_asm); (case m => k_mem); (case z => first | assumption | omega); k_whole)))
local macro_rules | `(tactic| walk_at "call builtin:len") => `(tactic| (k_here; (with_reducible show wpAny _ _ (call (Value.builtin "len") [Value.bytes (KBy.picked _ _ _) _]) _ _ _); k_dflt (refine' len_bytes ?z ?_; (case z => refine Nat.le_trans (KBc.size_picked_le _ _ _) ?_; omega); k_whole)))
local macro_rules | `(tactic| walk_at "subscriptTail") => `(tactic| (k_here; (with_reducible show wpAny _ _ (subscriptTail _ (Expr.Slice _ _ none _) (Value.ref _) (Value.ref _)) _ _ _); (with_reducible rename Fr _ _ _ _ => F'); (with_reducible rename News _ _ _ _ => N'); k_dflt (refine' k_slice_ba (s := ⟨_, _, _, _, _⟩) F' N' ?m ?hl ?hu ?z ?_; (case m => k_mem); (case hl => constructor); (case hu => constructor); (case z => first | assumption | omega); k_whole); intro y' h' F' N' l1; (try k_lt l1)))
local macro_rules | `(tactic| walk_at "call type:bytes") => `(tactic| (k_here; (with_reducible show wpAny _ _ (call (Value.type "bytes") [Value.ref _]) _ _ _); k_dflt (refine' k_bytes_ba ?N ?m ?z ?_; (case N => k_asm); (case m => k_mem); (case z => first | assumption | omega | exact Nat.le_trans (KBc.size_picked_le _ _ _) (by first | assumption | omega)); k_whole); intro _ _))
local macro_rules | `(tactic| walk_at "call type:bytes") => `(tactic| (k_here; (with_reducible show wpAny _ _ (call (Value.type "bytes") []) _ _ _); (refine bytes_none ?_); intro _ _))
local macro_rules | `(tactic| walk_at "inplaceOp Add bytes bytes") => `(tactic| (k_here; (with_reducible show wpAny _ _ (inplaceOp Operator.Add (Value.bytes _ _) (Value.bytes _ _)) _ _ _); (refine iadd_bytes (by (try rw [Array.size_empty]); omega) ?_); intro _ _))
local macro_rules | `(tactic| walk_at "exec Assert") => `(tactic| (k_here; (with_reducible show wpAny _ _ (exec (Stmt.Assert _ none _) _) _ _ _); refine wpAny_Assert rfl ?_))
local macro_rules | `(tactic| walk_at "exec While Compare cons nil") => `(tactic| refine whl_start 5 ?_)
local macro_rules | `(tactic| walk_at "WhlIf") => `(tactic| first | refine WhlIf.yes (decide_eq_true (by omega)) ?_ | refine WhlIf.no (decide_eq_false (by omega)) ?_)
local macro_rules | `(tactic| k_room) => `(tactic| ((try simp only [depth_deeper]); omega))
section
set_option pp.deepTerms false
set_option pp.deepTerms.threshold 8
set_option pp.proofs false
variable {prog : Program} {w : World} {A₀ : Around} {E : Value → Shared → Prop} {s : Shared} {base h₀ : Heap} {outer : List Env} {env : Env} {L : Addr} {m mg mb : Str → Option Value} {p : Program} {loose : List Str} {mean : ExcName → Option Value}
  {dep un : Nat} {x d ba : Addr} {pl u v : Int} {t1 t2 tp tu tv : Tok} {rest : List (Addr × Obj)} {row : List Int} {Q : Value → Shared → Prop}
theorem rff_back (B : Below A₀ base outer h₀) (F : Fr h₀ L s.heap m) (X₀ : (hd.heap_39 w.params).In h₀) (N : News h₀ L s.heap ((x, instObj 88 d) :: (d, octDict w.params t1 t2 ba pl tp) :: (ba, baObj (byteArr row)) :: rest)) (T : Top p loose mean mg mb h₀)
    (hf : env.frame = some L) (hke : env.scope.kind = .function) (hd1 : dep + 6 < recursionLimit) (hun : un + 40 < cLine) (hb : row.length ≤ 300) (h0 : 0 ≤ pl) (h1 : pl ≤ 300) (hu0 : 0 ≤ u) (hu1 : u ≤ 100) (hv0 : -1 ≤ v) (hv1 : v ≤ 100)
    (hxd : @Ne Nat x d) (hxb : @Ne Nat x ba) (hdb : @Ne Nat d ba) (hr : OwnOff rest [x, d, ba])
    (hlt : v < u) (q : ∀ g' h' e t tk, Fr h₀ L g' m → g'.UpToSlots h' → RaisedK base (env :: outer) e (.type "AssertionError") t [] ((x, instObj 88 d) :: (d, octDict w.params t1 t2 ba pl tp) :: (ba, baObj (byteArr row)) :: rest) h' → E (.ref e) { s with heap := h', toks := tk }) :
    wpAny (model prog w) (aroundOf dep un env outer) (call (.ref 42) [.ref x, .int u tu, .int v tv]) Q E s := by
  have hz : (byteArr row).size ≤ 300 := by rw [byteArr_size]; exact hb
  refine wpAny_call ?_
  refine' code_def ?k1 ?k2 ?k3 ?k4 ?k5 ?kA ?kF ?kK ?k6 ?k7 ?k8 ?k9 ?kB ?_ ?c2 ?c3 ?c4 ?c5
  (case kA => exact rfl); (case kF => exact hf); (case kK => exact hke); (case k1 => k_asm); (case k2 => k_asm); (case k3 => k_asm); (case k4 => k_asm); (case k5 => k_asm); (case k6 => k_is); (case k7 => k_is); (case k8 => k_room); (case k9 => first | exact BindsTo.of_eq rfl | exact binds_K (by k_in) rfl (by k_is) rfl rfl rfl); (case c5 => decide); (case kB => exact locs rfl); (case c2 => exact rfl); (case c3 => exact rfl); (case c4 => exact rfl)
  intro g' L' h' FG' F' N' B' X' T'
  (try dsimp only)
  (try k_lift B')
  (try k_fold)
  k_steps
  rename RaisedK _ _ _ _ _ _ _ _ => kR
  exact q _ _ _ _ _ FG' (by assumption) kR
end
end Mine
end

section
open PySem PySem.W PySem.Calls PyProof.Rows PySem.Spec
set_option Elab.async false
namespace Mine
set_option maxRecDepth 100000
set_option maxHeartbeats 4000000
theorem fillX3 : PySem.Challenge.rw_ad6002_01 = PySem.Challenge.rw_ad6002_01 ∧ hd.heap_39 = hd.heap_39 := by
  k_with_none
  w_top off
  k_fill
  exact ⟨rfl, rfl⟩

local macro_rules | `(tactic| walk_at "call builtin:len") => `(tactic| (k_here; (with_reducible show wpAny _ _ (call (Value.builtin "len") [Value.bytes _ _]) _ _ _); k_dflt (refine' len_bytes ?z ?_; (case z => omega); k_whole)))
local macro_rules | `(tactic| walk_at "call builtin:len") => `(tactic| (k_here; (with_reducible show wpAny _ _ (call (Value.builtin "len") [Value.ref _]) _ _ _); k_dflt (refine' k_len_ba ?N ?m ?z ?_; (case N => k_asm); (case m => k_mem); (case z => first | assumption | omega); k_whole)))
local macro_rules | `(tactic| walk_at "call builtin:len") => `(tactic| (k_here; (with_reducible show wpAny _ _ (call (Value.builtin "len") [Value.bytes (KBy.picked _ _ _) _]) _ _ _); k_dflt (refine' len_bytes ?z ?_; (case z => refine Nat.le_trans (KBc.size_picked_le _ _ _) ?_; omega); k_whole)))
local macro_rules | `(tactic| walk_at "subscriptTail") => `(tactic| (k_here; (with_reducible show wpAny _ _ (subscriptTail _ (Expr.Slice _ _ none _) (Value.ref _) (Value.ref _)) _ _ _); (with_reducible rename Fr _ _ _ _ => F'); (with_reducible rename News _ _ _ _ => N'); k_dflt (refine' k_slice_ba (s := ⟨_, _, _, _, _⟩) F' N' ?m ?hl ?hu ?z ?_; (case m => k_mem); (case hl => constructor); (case hu => constructor); (case z => first | assumption | omega); k_whole); intro y' h' F' N' l1; (try k_lt l1)))
local macro_rules | `(tactic| walk_at "call type:bytes") => `(tactic| (k_here; (with_reducible show wpAny _ _ (call (Value.type "bytes") [Value.ref _]) _ _ _); k_dflt (refine' k_bytes_ba ?N ?m ?z ?_; (case N => k_asm); (case m => k_mem); (case z => first | assumption | omega | exact Nat.le_trans (KBc.size_picked_le _ _ _) (by first | assumption | omega)); k_whole); intro _ _))
local macro_rules | `(tactic| walk_at "call type:bytes") => `(tactic| (k_here; (with_reducible show wpAny _ _ (call (Value.type "bytes") []) _ _ _); (refine bytes_none ?_); intro _ _))
local macro_rules | `(tactic| walk_at "inplaceOp Add bytes bytes") => `(tactic| (k_here; (with_reducible show wpAny _ _ (inplaceOp Operator.Add (Value.bytes _ _) (Value.bytes _ _)) _ _ _); (refine iadd_bytes (by (try rw [Array.size_empty]); omega) ?_); intro _ _))
local macro_rules | `(tactic| walk_at "exec Assert") => `(tactic| (k_here; (with_reducible show wpAny _ _ (exec (Stmt.Assert _ none _) _) _ _ _); refine wpAny_Assert rfl ?_))
local macro_rules | `(tactic| walk_at "exec While Compare cons nil") => `(tactic| refine whl_start 5 ?_)
local macro_rules | `(tactic| walk_at "WhlIf") => `(tactic| first | refine WhlIf.yes (decide_eq_true (by omega)) ?_ | refine WhlIf.no (decide_eq_false (by omega)) ?_)
local macro_rules | `(tactic| k_room) => `(tactic| ((try simp only [depth_deeper]); omega))
section
set_option pp.deepTerms false
set_option pp.deepTerms.threshold 8
set_option pp.proofs false
variable {prog : Program} {w : World} {A₀ : Around} {E : Value → Shared → Prop} {s : Shared} {base h₀ : Heap} {outer : List Env} {env : Env} {L : Addr} {m mg mb : Str → Option Value} {p : Program} {loose : List Str} {mean : ExcName → Option Value}
  {dep un : Nat} {x d ba : Addr} {pl u v : Int} {t1 t2 tp tu tv : Tok} {rest : List (Addr × Obj)} {row : List Int} {Q : Value → Shared → Prop}
theorem rff_ok (B : Below A₀ base outer h₀) (F : Fr h₀ L s.heap m) (X₀ : (hd.heap_39 w.params).In h₀) (N : News h₀ L s.heap ((x, instObj 88 d) :: (d, octDict w.params t1 t2 ba pl tp) :: (ba, baObj (byteArr row)) :: rest)) (T : Top p loose mean mg mb h₀)
    (hf : env.frame = some L) (hke : env.scope.kind = .function) (hd1 : dep + 6 < recursionLimit) (hun : un + 40 < cLine) (hb : row.length ≤ 300) (h0 : 0 ≤ pl) (h1 : pl ≤ 300) (hu0 : 0 ≤ u) (hu1 : u ≤ 100) (hv0 : -1 ≤ v) (hv1 : v ≤ 100)
    (hxd : @Ne Nat x d) (hxb : @Ne Nat x ba) (hdb : @Ne Nat d ba) (hr : OwnOff rest [x, d, ba])
    (hin : KBa.In row) (hle : u ≤ v) (hok : v ≤ row.length ∨ v = u) (q : ∀ h' tk t pl' tp', pl' = v → Fr h₀ L h' m → News h₀ L h' ((x, instObj 88 d) :: (d, octDict w.params t1 t2 ba pl' tp') :: (ba, baObj (byteArr row)) :: rest) → Q (.bytes (byteArr ((row.drop u.toNat).take (v.toNat - u.toNat))) t) { s with heap := h', toks := tk }) :
    wpAny (model prog w) (aroundOf dep un env outer) (call (.ref 42) [.ref x, .int u tu, .int v tv]) Q E s := by
  have hz : (byteArr row).size ≤ 300 := by rw [byteArr_size]; exact hb
  refine wpAny_call ?_
  refine' code_def ?k1 ?k2 ?k3 ?k4 ?k5 ?kA ?kF ?kK ?k6 ?k7 ?k8 ?k9 ?kB ?_ ?c2 ?c3 ?c4 ?c5
  (case kA => exact rfl); (case kF => exact hf); (case kK => exact hke); (case k1 => k_asm); (case k2 => k_asm); (case k3 => k_asm); (case k4 => k_asm); (case k5 => k_asm); (case k6 => k_is); (case k7 => k_is); (case k8 => k_room); (case k9 => first | exact BindsTo.of_eq rfl | exact binds_K (by k_in) rfl (by k_is) rfl rfl rfl); (case c5 => decide); (case kB => exact locs rfl); (case c2 => exact rfl); (case c3 => exact rfl); (case c4 => exact rfl)
  intro g' L' h' FG' F' N' B' X' T'
  (try dsimp only)
  (try k_lift B')
  (try k_fold)
  have hpk : KBy.picked (byteArr row) (some (u + 0)) (some (u + 0 + (v - (u + 0)))) = byteArr ((row.drop u.toNat).take (v.toNat - u.toNat)) := by
    have e1 : u + 0 = u := by omega
    have e2 : u + 0 + (v - (u + 0)) = v := by omega
    rw [e2, e1]
    exact picked_byte row hu0 (by omega)
  have hdl : ((row.drop u.toNat).take (v.toNat - u.toNat)).length = min (v.toNat - u.toNat) (row.length - u.toNat) := by rw [List.length_take, List.length_drop]
  have hdi : KBa.In ((row.drop u.toNat).take (v.toNat - u.toNat)) := fun a ha => hin a (List.mem_of_mem_drop (List.mem_of_mem_take ha))
  have hb0 : KBw.bInts #[] = [] := rfl
  rcases Int.lt_or_eq_of_le hle with hlt | heq
  · k_steps
    · generalize hE : (row.drop u.toNat).take (v.toNat - u.toNat) = ds at *
      rename ((KBy.picked _ _ _).toList == _) = true => hem
      rw [hpk] at hem
      have hsz : (byteArr ds).size = ds.length := byteArr_size _
      have hd0 : ds.length = 0 := by
        rw [← hsz, ← Array.length_toList]
        have := eq_of_beq hem
        rw [this]; rfl
      omega
    · generalize hE : (row.drop u.toNat).take (v.toNat - u.toNat) = ds at *
      rename Fr g' L' _ _ => F1
      rename News g' L' _ _ => N1
      rw [hpk] at F1 N1 ⊢
      have hsz : (byteArr ds).size = ds.length := byteArr_size _
      k_steps
      · rw [Array.empty_append]
        refine q _ _ _ _ _ ?_ (by assumption) (sub_led (by assumption) (fun p hp => .tail _ hp))
        omega
      · rename _ ≠ _ => hbad
        exact (hbad (by simp only [List.length_nil]; omega)).elim
  · k_steps
    · have e0 : v.toNat - u.toNat = 0 := by omega
      rw [e0, List.take_zero] at q
      refine q _ _ _ _ _ ?_ (by assumption) (by assumption)
      omega
    · rename _ ≠ _ => hbad
      exact (hbad (by simp; omega)).elim
end
end Mine
end

section
open PySem PySem.W PySem.Calls PyProof.Rows PySem.Spec
set_option Elab.async false
namespace Mine
set_option maxRecDepth 100000
set_option maxHeartbeats 4000000
theorem fillX4 : PySem.Challenge.rw_ad6002_01 = PySem.Challenge.rw_ad6002_01 ∧ hd.heap_39 = hd.heap_39 := by
  k_with_none
  w_top off
  k_fill
  exact ⟨rfl, rfl⟩
theorem raised_sub {base h : Heap} {l : List Env} {e t : Addr} {cls : Value} {vs : List Value} {news l' : List (Addr × Obj)} (R : RaisedK base l e cls t vs news h) (hs : ∀ p ∈ l', p ∈ news) : RaisedK base l e cls t vs l' h := by
  obtain ⟨⟨B, hB, hl, hfl, hnew⟩, htup⟩ := R
  exact ⟨⟨B, hB, fun q hq => hl q (hs q hq), hfl, hnew⟩, htup⟩

local macro_rules | `(tactic| walk_at "call builtin:len") => `(tactic| (k_here; (with_reducible show wpAny _ _ (call (Value.builtin "len") [Value.bytes _ _]) _ _ _); k_dflt (refine' len_bytes ?z ?_; (case z => omega); k_whole)))
local macro_rules | `(tactic| walk_at "call builtin:len") => `(tactic| (k_here; (with_reducible show wpAny _ _ (call (Value.builtin "len") [Value.ref _]) _ _ _); k_dflt (refine' k_len_ba ?N ?m ?z ?_; (case N => k_asm); (case m => k_mem); (case z => first | assumption | omega); k_whole)))
local macro_rules | `(tactic| walk_at "call builtin:len") => `(tactic| (k_here; (with_reducible show wpAny _ _ (call (Value.builtin "len") [Value.bytes (KBy.picked _ _ _) _]) _ _ _); k_dflt (refine' len_bytes ?z ?_; (case z => refine Nat.le_trans (KBc.size_picked_le _ _ _) ?_; omega); k_whole)))
local macro_rules | `(tactic| walk_at "subscriptTail") => `(tactic| (k_here; (with_reducible show wpAny _ _ (subscriptTail _ (Expr.Slice _ _ none _) (Value.ref _) (Value.ref _)) _ _ _); (with_reducible rename Fr _ _ _ _ => F'); (with_reducible rename News _ _ _ _ => N'); k_dflt (refine' k_slice_ba (s := ⟨_, _, _, _, _⟩) F' N' ?m ?hl ?hu ?z ?_; (case m => k_mem); (case hl => constructor); (case hu => constructor); (case z => first | assumption | omega); k_whole); intro y' h' F' N' l1; (try k_lt l1)))
local macro_rules | `(tactic| walk_at "call type:bytes") => `(tactic| (k_here; (with_reducible show wpAny _ _ (call (Value.type "bytes") [Value.ref _]) _ _ _); k_dflt (refine' k_bytes_ba ?N ?m ?z ?_; (case N => k_asm); (case m => k_mem); (case z => first | assumption | omega | exact Nat.le_trans (KBc.size_picked_le _ _ _) (by first | assumption | omega)); k_whole); intro _ _))
local macro_rules | `(tactic| walk_at "call type:bytes") => `(tactic| (k_here; (with_reducible show wpAny _ _ (call (Value.type "bytes") []) _ _ _); (refine bytes_none ?_); intro _ _))
local macro_rules | `(tactic| walk_at "inplaceOp Add bytes bytes") => `(tactic| (k_here; (with_reducible show wpAny _ _ (inplaceOp Operator.Add (Value.bytes _ _) (Value.bytes _ _)) _ _ _); (refine iadd_bytes (by (try rw [Array.size_empty]); omega) ?_); intro _ _))
local macro_rules | `(tactic| walk_at "exec Assert") => `(tactic| (k_here; (with_reducible show wpAny _ _ (exec (Stmt.Assert _ none _) _) _ _ _); refine wpAny_Assert rfl ?_))
local macro_rules | `(tactic| walk_at "exec While Compare cons nil") => `(tactic| refine whl_start 5 ?_)
local macro_rules | `(tactic| walk_at "WhlIf") => `(tactic| first | refine WhlIf.yes (decide_eq_true (by omega)) ?_ | refine WhlIf.no (decide_eq_false (by omega)) ?_)
local macro_rules | `(tactic| k_room) => `(tactic| ((try simp only [depth_deeper]); omega))
section
set_option pp.deepTerms false
set_option pp.deepTerms.threshold 8
set_option pp.proofs false
variable {prog : Program} {w : World} {A₀ : Around} {E : Value → Shared → Prop} {s : Shared} {base h₀ : Heap} {outer : List Env} {env : Env} {L : Addr} {m mg mb : Str → Option Value} {p : Program} {loose : List Str} {mean : ExcName → Option Value}
  {dep un : Nat} {x d ba : Addr} {pl u v : Int} {t1 t2 tp tu tv : Tok} {rest : List (Addr × Obj)} {row : List Int} {Q : Value → Shared → Prop}
theorem rff_short (B : Below A₀ base outer h₀) (F : Fr h₀ L s.heap m) (X₀ : (hd.heap_39 w.params).In h₀) (N : News h₀ L s.heap ((x, instObj 88 d) :: (d, octDict w.params t1 t2 ba pl tp) :: (ba, baObj (byteArr row)) :: rest)) (T : Top p loose mean mg mb h₀)
    (hf : env.frame = some L) (hke : env.scope.kind = .function) (hd1 : dep + 6 < recursionLimit) (hun : un + 40 < cLine) (hb : row.length ≤ 300) (h0 : 0 ≤ pl) (h1 : pl ≤ 300) (hu0 : 0 ≤ u) (hu1 : u ≤ 100) (hv0 : -1 ≤ v) (hv1 : v ≤ 100)
    (hxd : @Ne Nat x d) (hxb : @Ne Nat x ba) (hdb : @Ne Nat d ba) (hr : OwnOff rest [x, d, ba])
    (hin : KBa.In row) (hlt : u < v) (hlen : (row.length : Int) < v) (q : ∀ g' h' e t vs tk pl' tp', pl' = (if u > (row.length : Int) then u else row.length) → Fr h₀ L g' m → g'.UpToSlots h' → RaisedK base (env :: outer) e (.ref 24) t vs ((x, instObj 88 d) :: (d, octDict w.params t1 t2 ba pl' tp') :: (ba, baObj (byteArr row)) :: rest) h' → E (.ref e) { s with heap := h', toks := tk }) :
    wpAny (model prog w) (aroundOf dep un env outer) (call (.ref 42) [.ref x, .int u tu, .int v tv]) Q E s := by
  have hz : (byteArr row).size ≤ 300 := by rw [byteArr_size]; exact hb
  refine wpAny_call ?_
  refine' code_def ?k1 ?k2 ?k3 ?k4 ?k5 ?kA ?kF ?kK ?k6 ?k7 ?k8 ?k9 ?kB ?_ ?c2 ?c3 ?c4 ?c5
  (case kA => exact rfl); (case kF => exact hf); (case kK => exact hke); (case k1 => k_asm); (case k2 => k_asm); (case k3 => k_asm); (case k4 => k_asm); (case k5 => k_asm); (case k6 => k_is); (case k7 => k_is); (case k8 => k_room); (case k9 => first | exact BindsTo.of_eq rfl | exact binds_K (by k_in) rfl (by k_is) rfl rfl rfl); (case c5 => decide); (case kB => exact locs rfl); (case c2 => exact rfl); (case c3 => exact rfl); (case c4 => exact rfl)
  intro g' L' h' FG' F' N' B' X' T'
  (try dsimp only)
  (try k_lift B')
  (try k_fold)
  have hpk : KBy.picked (byteArr row) (some (u + 0)) (some (u + 0 + (v - (u + 0)))) = byteArr ((row.drop u.toNat).take (v.toNat - u.toNat)) := by
    have e1 : u + 0 = u := by omega
    have e2 : u + 0 + (v - (u + 0)) = v := by omega
    rw [e2, e1]
    exact picked_byte row hu0 (by omega)
  have hdl : ((row.drop u.toNat).take (v.toNat - u.toNat)).length = min (v.toNat - u.toNat) (row.length - u.toNat) := by rw [List.length_take, List.length_drop]
  have hdi : KBa.In ((row.drop u.toNat).take (v.toNat - u.toNat)) := fun a ha => hin a (List.mem_of_mem_drop (List.mem_of_mem_take ha))
  have hb0 : KBw.bInts #[] = [] := rfl
  k_steps
  · generalize hE : (row.drop u.toNat).take (v.toNat - u.toNat) = ds at *
    rename RaisedK _ _ _ _ _ _ _ _ => kR
    rename ((KBy.picked _ _ _).toList == _) = true => hem
    rw [hpk] at kR hem
    have hsz : (byteArr ds).size = ds.length := byteArr_size _
    have hd0 : ds.length = 0 := by
      rw [← hsz, ← Array.length_toList]
      have := eq_of_beq hem
      rw [this]; rfl
    refine q _ _ _ _ _ _ _ _ ?_ FG' (by assumption) (raised_sub kR (fun p hp => .tail _ hp))
    split <;> omega
  · generalize hE : (row.drop u.toNat).take (v.toNat - u.toNat) = ds at *
    rename Fr g' L' _ _ => F1
    rename News g' L' _ _ => N1
    rename ((KBy.picked _ _ _).toList == _) = false => hem
    rw [hpk] at F1 N1 hem ⊢
    have hsz : (byteArr ds).size = ds.length := byteArr_size _
    have hd0 : ds.length ≠ 0 := by
      intro h0
      rw [List.length_eq_zero_iff.mp h0] at hem
      exact absurd hem (by decide)
    k_steps
    · rename RaisedK _ _ _ _ _ _ _ _ => kR
      rename ((KBy.picked _ _ _).toList == _) = true => hem2
      have hz2 := congrArg List.length (eq_of_beq hem2)
      rw [Array.length_toList] at hz2
      simp only [List.length_nil] at hz2
      refine q _ _ _ _ _ _ _ _ ?_ FG' (by assumption) (raised_sub kR (fun p hp => .tail _ (.tail _ hp)))
      split <;> omega
    · rename ((KBy.picked _ _ _).toList == _) = false => hem2
      rw [picked_byte row (by omega) (by omega), List.drop_of_length_le (by omega), List.take_nil] at hem2
      exact absurd hem2 (by decide)
end
end Mine
end

section
open PySem PySem.W PySem.Calls PyProof.Rows PySem.Spec
set_option Elab.async false
namespace Mine
set_option maxRecDepth 100000
set_option maxHeartbeats 4000000
theorem fillW4 : PySem.Challenge.rw_ad6002_01 = PySem.Challenge.rw_ad6002_01 ∧ hd.heap_39 = hd.heap_39 := by
  k_with_none
  w_top off
  k_fill
  exact ⟨rfl, rfl⟩
theorem reord {h₀ h : Heap} {L : Addr} {a b c d : Addr × Obj} {news : List (Addr × Obj)} (N : News h₀ L h (a :: b :: c :: d :: news)) : News h₀ L h (c :: d :: b :: news) := sub_led N (fun p hp => by
  rcases List.mem_cons.mp hp with rfl | hp
  · exact .tail _ (.tail _ (.head _))
  · rcases List.mem_cons.mp hp with rfl | hp
    · exact .tail _ (.tail _ (.tail _ (.head _)))
    · rcases List.mem_cons.mp hp with rfl | hp
      · exact .tail _ (.head _)
      · exact .tail _ (.tail _ (.tail _ (.tail _ hp))))
theorem cAssignTuple {M : Model} {A : Around} {E : Value → Shared → Prop} {s : Shared} {env : Env} {elts : List Expr} {k : Nat} {tpos pos : Pos} {value : Expr} {Q : Flow → Shared → Prop}
    (h : wpC M A (eval value env) (fun v s₁ => wpAny M A (assign (.Tuple elts k tpos) env v) (fun _ s₂ => Q .next s₂) E s₁) E s)
    (hs : swapsWithSole [.Tuple elts k tpos] value pos.line env = pure false := by rfl)
    (hw : swappedStores [.Tuple elts k tpos] value env = pure none := by rfl) :
    wpC M A (exec (.Assign [.Tuple elts k tpos] value pos) env) Q E s := cAssignAny h hs hw
local macro_rules | `(tactic| k_room) => `(tactic| ((try simp only [depth_deeper]); omega))
section
set_option pp.deepTerms false
set_option pp.deepTerms.threshold 8
set_option pp.proofs false
variable {prog : Program} {w : World} {A₀ : Around} {E : Value → Shared → Prop} {s : Shared} {base h₀ : Heap} {outer : List Env} {env : Env} {L : Addr} {m mg mb : Str → Option Value} {p : Program} {loose : List Str} {mean : ExcName → Option Value}
  {dep un : Nat} {news : List (Addr × Obj)} {Q : Value → Shared → Prop}
theorem mk_ok (B : Below A₀ base outer h₀) (F : Fr h₀ L s.heap m) (X₀ : (hd.heap_39 w.params).In h₀) (N : News h₀ L s.heap news) (T : Top p loose mean mg mb h₀)
    (hf : env.frame = some L) (hke : env.scope.kind = .function) (hd1 : dep + 6 < recursionLimit) (hun : un + 40 < cLine)
    (q : ∀ h' tk x d b t1 t2 tp, Fr h₀ L h' m → News h₀ L h' ((x, instObj 88 d) :: (d, octDict w.params t1 t2 b 0 tp) :: (b, baObj #[]) :: news) → (∀ p ∈ news, p.1 < d) → @LT.lt Nat _ d x → @LT.lt Nat _ x b → Q (.ref x) { s with heap := h', toks := tk }) :
    wpC (model prog w) (aroundOf dep un env outer) (call (.ref 88) []) Q E s := by
  refine cCall ?_
  refine makeC F N (X₀.keeps F.keep) (by k_is) (by k_is) (by k_is) (fun x dx h1 F1 N1 l1 l2 => ?_)
  clear F N
  refine' callC_def ?k1 ?k2 ?k3 ?k4 ?k5 ?kA ?kF ?kK ?k6 ?k7 ?k8 ?k9 ?kB ?_ ?c5 ?c2 ?c3 ?c4
  (case kA => exact rfl); (case kF => exact hf); (case kK => exact hke); (case k1 => k_asm); (case k2 => k_asm); (case k3 => k_asm); (case k4 => k_asm); (case k5 => k_asm); (case k6 => k_is); (case k7 => k_is); (case k8 => rw [depth_under_make]; k_room); (case k9 => first | exact BindsTo.of_eq rfl | exact binds_K (by k_in) rfl (by k_is) rfl rfl rfl); (case c5 => decide); (case kB => exact locs rfl); (case c2 => exact rfl); (case c3 => exact rfl); (case c4 => exact rfl)
  intro g' L' h' FG' F' N' B' X' T' l0
  clear B F1 X₀ N1 T
  (try dsimp only)
  (try k_lift B')
  refine cExecs (cAssignTuple (cTuple (cSpliced (cCallName ?_))))
  k_steps
  dsimp only
  refine cCallWith0 (P := fun _ => True) keeps_type trivial ?_
  rename Fr g' _ _ _ => F2
  rename News g' _ _ _ => N2
  refine make_ba0 rfl (fun h3 e1 e2 => ?_)
  have N3 := N2.push F2 (baObj #[])
  obtain ⟨F4, N4⟩ := upd_led (F2.push (baObj #[])) N3 (fun p hp => Nat.ne_of_lt (Heap.lt_size (N2 p hp).1)) e1 (fun y ob hy e => (e2.2 y hy).trans e)
  have lb : ∀ p ∈ (x, instObj 88 dx) :: (dx, emptyDict) :: news, p.1 < h'.objs.size := fun p hp => Heap.lt_size (N2 p hp).1
  generalize h'.objs.size = b at *
  have l3 : @LT.lt Nat _ x b := lb _ (.head _)
  have hxd : @Ne Nat x dx := Nat.ne_of_gt l2
  have hbx : @Ne Nat b x := Nat.ne_of_gt l3
  have hbd : @Ne Nat b dx := Nat.ne_of_gt (Nat.lt_trans l2 l3)
  have hr : OwnOff news [x, dx, b] := fun q hq a ha => by
    have l4 : q.1 < dx := l1 q hq
    have l5 : dx < b := Nat.lt_trans l2 l3
    have l6 : q.1 < x := Nat.lt_trans l4 l2
    have l7 : q.1 < b := Nat.lt_trans l4 l5
    rcases List.mem_cons.mp ha with rfl | ha
    · exact Nat.ne_of_lt l6
    · rcases List.mem_cons.mp ha with rfl | ha
      · exact Nat.ne_of_lt l4
      · rcases List.mem_cons.mp ha with rfl | ha
        · exact Nat.ne_of_lt l7
        · cases ha
  clear F2 N2 N3 e1 e2
  refine cOf ?_
  dsimp only
  k_steps
  (try dsimp only)
  refine cNil ?_
  (try dsimp only)
  refine leaveK_ (by assumption) (by assumption) (fun kF kN => ?_)
  refine ⟨rfl, ?_⟩
  exact q _ _ x dx b _ _ _ kF (reord kN) l1 l2 l3
end
end Mine
end

section
open PySem PySem.W PySem.Calls PyProof.Rows PySem.Spec
set_option Elab.async false
namespace Mine
set_option maxRecDepth 100000
set_option maxHeartbeats 4000000
theorem fillW5 : PySem.Challenge.rw_ad6002_01 = PySem.Challenge.rw_ad6002_01 ∧ hd.heap_39 = hd.heap_39 := by
  k_with_none
  w_top off
  k_fill
  exact ⟨rfl, rfl⟩
local macro_rules | `(tactic| k_room) => `(tactic| ((try simp only [depth_deeper]); omega))
section
set_option pp.deepTerms false
set_option pp.deepTerms.threshold 8
set_option pp.proofs false
variable {prog : Program} {w : World} {A₀ : Around} {E : Value → Shared → Prop} {s : Shared} {base h₀ : Heap} {outer : List Env} {env : Env} {L : Addr} {m mg mb : Str → Option Value} {p : Program} {loose : List Str} {mean : ExcName → Option Value}
  {dep un : Nat} {news : List (Addr × Obj)} {Q : Value → Shared → Prop}
theorem draws_ok (B : Below A₀ base outer h₀) (F : Fr h₀ L s.heap m) (X₀ : (hd.heap_39 w.params).In h₀) (N : News h₀ L s.heap news) (T : Top p loose mean mg mb h₀)
    (hf : env.frame = some L) (hke : env.scope.kind = .function) (hd1 : dep + 6 < recursionLimit) (hun : un + 40 < cLine)
    (q : ∀ h' tk y vs ns n, Fr h₀ L h' m → News h₀ L h' ((y, listOf vs.toArray n) :: news) → IntsAre vs ns → ns.length = 12 → (∀ p ∈ news, p.1 < y) → Q (.ref y) { s with heap := h', toks := tk }) :
    wpAny (model prog w) (aroundOf dep un env outer) (call (.ref 99) []) Q E s := by
  refine wpAny_call ?_
  refine' code_def ?k1 ?k2 ?k3 ?k4 ?k5 ?kA ?kF ?kK ?k6 ?k7 ?k8 ?k9 ?kB ?_ ?c2 ?c3 ?c4 ?c5
  (case kA => exact rfl); (case kF => exact hf); (case kK => exact hke); (case k1 => k_asm); (case k2 => k_asm); (case k3 => k_asm); (case k4 => k_asm); (case k5 => k_asm); (case k6 => k_is); (case k7 => k_is); (case k8 => k_room); (case k9 => first | exact BindsTo.of_eq rfl | exact binds_K (by k_in) rfl (by k_is) rfl rfl rfl); (case c5 => decide); (case kB => exact locs rfl); (case c2 => exact rfl); (case c3 => exact rfl); (case c4 => exact rfl)
  intro g' L' h' FG' F' N' B' X' T'
  (try dsimp only)
  (try k_lift B')
  (try k_fold)
  k_steps
  rename ∀ p ∈ news, _ => hlt
  rename News h₀ L _ _ => kN9
  exact q _ _ _ [.int 14 _, .int 21 _, .int 4 _, .int 8 _, .int 36 _, .int 3 _, .int 12 _, .int 27 _, .int 5 _, .int 34 _, .int 40 _, .int 6 _] [14, 21, 4, 8, 36, 3, 12, 27, 5, 34, 40, 6] 0 (by assumption) kN9 (.cons 14 _ (.cons 21 _ (.cons 4 _ (.cons 8 _ (.cons 36 _ (.cons 3 _ (.cons 12 _ (.cons 27 _ (.cons 5 _ (.cons 34 _ (.cons 40 _ (.cons 6 _ .nil)))))))))))) rfl hlt
end
end Mine
end

section
open PySem PySem.W PySem.Calls PyProof.Rows PySem.Spec
set_option Elab.async false
namespace Mine
set_option maxRecDepth 100000
set_option maxHeartbeats 4000000
theorem fillV1 : PySem.Challenge.rw_ad6002_01 = PySem.Challenge.rw_ad6002_01 ∧ hd.heap_39 = hd.heap_39 := by
  k_with_none
  w_top off
  k_fill
  exact ⟨rfl, rfl⟩
abbrev mapOf (fl rw pc : Addr) (turn : Int) (tt : Tok) (m₁ : Str → Option Value) : Str → Option Value := fun y =>
  if y = Str.ofString "files" then some (.ref fl) else if y = Str.ofString "rows" then some (.ref rw) else if y = Str.ofString "places" then some (.ref pc) else if y = Str.ofString "turn" then some (.int turn tt) else m₁ y
def Chain : List Nat → Prop
  | a :: b :: r => a < b ∧ Chain (b :: r)
  | _ => True
def Off (x : Nat) : List Nat → Prop
  | a :: r => x ≠ a ∧ Off x r
  | _ => True
theorem Off.ne {a b : Nat} : ∀ {l : List Nat}, Off a l → b ∈ l → a ≠ b
  | _ :: _, h, .head _ => h.1
  | _ :: _, h, .tail _ m => Off.ne h.2 m
def endStmts : Σ' b : Stmt × Stmt, turnB.1.drop 8 = [b.1, b.2] := ⟨(_, _), by with_unfolding_all rfl⟩
abbrev kindStmt : Stmt := endStmts.1.1
abbrev lastStmt : Stmt := endStmts.1.2
theorem map_canon {fl rw pc : Addr} {turn : Int} {tt : Tok} {m : Str → Option Value} (h1 : m (Str.ofString "files") = some (.ref fl)) (h2 : m (Str.ofString "rows") = some (.ref rw)) (h3 : m (Str.ofString "places") = some (.ref pc)) (h4 : m (Str.ofString "turn") = some (.int turn tt)) :
    m = mapOf fl rw pc turn tt m := by
  funext y
  simp only [mapOf]
  split
  · next h => rw [h, h1]
  · split
    · next h => rw [h, h2]
    · split
      · next h => rw [h, h3]
      · split
        · next h => rw [h, h4]
        · rfl
/-- the state of the law's loop: two rows, their files, the places -/
def St (P : Params) (h₀ : Heap) (L fl rw pc x0 d0 b0 x1 d1 b1 l I : Addr) (ol : Obj) (PI : Obj → Prop) (bd turn : Int) (h : Heap) : Prop :=
  ∃ (m : Str → Option Value) (r0 r1 : Addr) (oc oI : Obj) (vc : Option Value) (tt ta tb tc td tp0 tp1 u0 u1 : Tok) (row0 row1 : List Int) (p0 p1 : Int) (vs0 vs1 : List Value) (n0 n1 nf nr np : Nat),
    Fr h₀ L h (mapOf fl rw pc turn tt m) ∧
    News h₀ L h [(L + 1, oc), (x0, instObj 88 d0), (d0, octDict P ta tb b0 p0 tp0), (b0, baObj (byteArr row0)), (x1, instObj 88 d1), (d1, octDict P tc td b1 p1 tp1), (b1, baObj (byteArr row1)),
      (r0, listOf vs0.toArray n0), (r1, listOf vs1.toArray n1), (fl, listOf #[.ref x0, .ref x1] nf), (rw, listOf #[.ref r0, .ref r1] nr), (pc, listOf #[.int p0 u0, .int p1 u1] np), (l, ol), (I, oI)] ∧
    oc.data = .cell vc ∧ PI oI ∧ IntsAre vs0 row0 ∧ IntsAre vs1 row1 ∧ KBa.In row0 ∧ KBa.In row1 ∧ (row0.length : Int) ≤ bd ∧ (row1.length : Int) ≤ bd ∧ 0 ≤ p0 ∧ p0 ≤ bd ∧ 0 ≤ p1 ∧ p1 ≤ bd ∧
    Off r0 [L + 1, d0, x0, b0, d1, x1, b1, fl, rw, pc, l, I] ∧ Off r1 [L + 1, d0, x0, b0, d1, x1, b1, fl, rw, pc, l, I] ∧ @Ne Nat r0 r1
local macro_rules | `(tactic| walk_at "call type:bytes") => `(tactic| (k_here; (with_reducible show wpAny _ _ (call (Value.type "bytes") [Value.ref _]) _ _ _); k_dflt (refine' k_bytes_ba ?N ?m ?z ?_; (case N => k_asm); (case m => k_mem); (case z => first | assumption | omega); k_whole); intro _ _))
local macro_rules | `(tactic| k_room) => `(tactic| ((try simp only [depth_deeper]); omega))
section
set_option pp.deepTerms false
set_option pp.deepTerms.threshold 7
set_option pp.proofs false
variable {prog : Program} {w : World} {s : Shared} {h₀ : Heap} {L fa : Addr} {cd : Value} {mg mb m₁ : Str → Option Value} {p : Program} {loose : List Str} {mean : ExcName → Option Value}
  {fl rw pc x0 d0 b0 x1 d1 b1 l I : Addr} {bd turn : Int} {ol : Obj} {PI : Obj → Prop} {Post : Flow → Shared → Prop}
theorem last_if (T : Top p loose mean mg mb h₀) (B : Below callerA h₀ [] h₀) (KX : (hd.heap_39 w.params).In h₀)
    (hA : Chain [L + 1, d0, x0, b0, d1, x1, b1, fl, rw, pc, l, I]) (hb : bd ≤ 300)
    (S : St w.params h₀ L fl rw pc x0 d0 b0 x1 d1 b1 l I ol PI bd turn s.heap)
    (q : ∀ s', s'.gens = s.gens → s'.os = s.os → St w.params h₀ L fl rw pc x0 d0 b0 x1 d1 b1 l I ol PI bd turn s'.heap → Post .next s') :
    wpC (model prog w) (callerA.deeper (lawEnv L fa cd)) (execs [lastStmt] (lawEnv L fa cd)) Post (fun _ _ => False) s := by
  obtain ⟨m, r0, r1, oc, oI, vc, tt, ta, tb, tc, td, tp0, tp1, u0, u1, row0, row1, p0, p1, vs0, vs1, n0, n1, nf, nr, np, F, N, hoc, hPI, hi0, hi1, hr0, hr1, hl0, hl1, hp0, hp0', hp1, hp1', hR0, hR1, hR⟩ := S
  have hA' := hA
  have hR0' := hR0
  have hR1' := hR1
  simp only [Chain, Off, and_true] at hA hR0 hR1
  have hz0 : (byteArr row0).size ≤ 1000 := by rw [byteArr_size]; omega
  have hz1 : (byteArr row1).size ≤ 1000 := by rw [byteArr_size]; omega
  dsimp only [lastStmt, endStmts, lawEnv, lawScope, lawFn]
  refine cExecsA ?_
  k_steps
  all_goals first
    | (rename (_ != _) = true => hbad; exact absurd hbad (by simp))
    | ((try dsimp only); refine cNil ?_; exact q _ rfl rfl ⟨m, r0, r1, oc, oI, vc, tt, ta, tb, tc, td, tp0, tp1, u0, u1, row0, row1, p0, p1, vs0, vs1, n0, n1, nf, nr, np, by assumption, by assumption, hoc, hPI, hi0, hi1, hr0, hr1, hl0, hl1, hp0, hp0', hp1, hp1', hR0', hR1', hR⟩)
end
end Mine
end

section
open PySem PySem.W PySem.Calls PyProof.Rows PySem.Spec
set_option Elab.async false
namespace Mine
set_option maxRecDepth 100000
set_option maxHeartbeats 4000000
theorem fillV2 : PySem.Challenge.rw_ad6002_01 = PySem.Challenge.rw_ad6002_01 ∧ hd.heap_39 = hd.heap_39 := by
  k_with_none
  w_top off
  k_fill
  exact ⟨rfl, rfl⟩
def dataOf (n : Int) : List Int := (rangeKs 0 ((n.fdiv 7).fmod 6 - 0).toNat).map fun k' => (n.fdiv 7 + 3 * k').fmod 256
abbrev mapH (fl rw pc xw rw' : Addr) (turn n wh pw kd : Int) (dat : Array UInt8) (tt tn tw tp tk td : Tok) (m₁ : Str → Option Value) : Str → Option Value := fun y =>
  if y = Str.ofString "data" then some (.bytes dat td) else if y = Str.ofString "kind" then some (.int kd tk) else if y = Str.ofString "place" then some (.int pw tp) else if y = Str.ofString "row" then some (.ref rw')
  else if y = Str.ofString "one" then some (.ref xw) else if y = Str.ofString "turn" then some (.int turn tt) else if y = Str.ofString "which" then some (.int wh tw)
  else if y = Str.ofString "n" then some (.int n tn) else if y = Str.ofString "files" then some (.ref fl) else if y = Str.ofString "rows" then some (.ref rw) else if y = Str.ofString "places" then some (.ref pc) else m₁ y
/-- the state after the turn's head -/
def StH (P : Params) (h₀ : Heap) (L fl rw pc x0 d0 b0 x1 d1 b1 l I : Addr) (ol : Obj) (PI : Obj → Prop) (bd turn n wh : Int) (h : Heap) : Prop :=
  ∃ (m : Str → Option Value) (r0 r1 : Addr) (oc oI : Obj) (tm tt tn tw tp tk tdt ta tb tc td tp0 tp1 u0 u1 : Tok) (row0 row1 : List Int) (p0 p1 : Int) (vs0 vs1 : List Value) (n0 n1 nf nr np : Nat),
    Fr h₀ L h (mapH fl rw pc (if wh = 0 then x0 else x1) (if wh = 0 then r0 else r1) turn n wh (if wh = 0 then p0 else p1) (n.fmod 7) (byteArr (dataOf n)) tt tn tw tp tk tdt m) ∧
    News h₀ L h [(L + 1, oc), (x0, instObj 88 d0), (d0, octDict P ta tb b0 p0 tp0), (b0, baObj (byteArr row0)), (x1, instObj 88 d1), (d1, octDict P tc td b1 p1 tp1), (b1, baObj (byteArr row1)),
      (r0, listOf vs0.toArray n0), (r1, listOf vs1.toArray n1), (fl, listOf #[.ref x0, .ref x1] nf), (rw, listOf #[.ref r0, .ref r1] nr), (pc, listOf #[.int p0 u0, .int p1 u1] np), (l, ol), (I, oI)] ∧
    oc.data = .cell (some (.int (n.fdiv 7) tm)) ∧ PI oI ∧ IntsAre vs0 row0 ∧ IntsAre vs1 row1 ∧ KBa.In row0 ∧ KBa.In row1 ∧ (row0.length : Int) ≤ bd ∧ (row1.length : Int) ≤ bd ∧ 0 ≤ p0 ∧ p0 ≤ bd ∧ 0 ≤ p1 ∧ p1 ≤ bd ∧
    Off r0 [L + 1, d0, x0, b0, d1, x1, b1, fl, rw, pc, l, I] ∧ Off r1 [L + 1, d0, x0, b0, d1, x1, b1, fl, rw, pc, l, I] ∧ @Ne Nat r0 r1
theorem frH {h₀ h : Heap} {L fl rw pc xw rw' : Addr} {turn n wh pw kd : Int} {dat : Array UInt8} {tt tn tw tp tk td : Tok} {m : Str → Option Value} (F : Fr h₀ L h m)
    (e1 : m (Str.ofString "data") = some (.bytes dat td)) (e2 : m (Str.ofString "kind") = some (.int kd tk)) (e3 : m (Str.ofString "place") = some (.int pw tp)) (e4 : m (Str.ofString "row") = some (.ref rw'))
    (e5 : m (Str.ofString "one") = some (.ref xw)) (e6 : m (Str.ofString "turn") = some (.int turn tt)) (e7 : m (Str.ofString "which") = some (.int wh tw)) (e8 : m (Str.ofString "n") = some (.int n tn))
    (e9 : m (Str.ofString "files") = some (.ref fl)) (e10 : m (Str.ofString "rows") = some (.ref rw)) (e11 : m (Str.ofString "places") = some (.ref pc)) :
    Fr h₀ L h (mapH fl rw pc xw rw' turn n wh pw kd dat tt tn tw tp tk td m) := by
  have e : m = mapH fl rw pc xw rw' turn n wh pw kd dat tt tn tw tp tk td m := by
    funext y
    simp only [mapH]
    (repeat' split) <;> first | rfl | (rename y = _ => h; subst h; assumption)
  rw [e] at F
  exact F
local macro_rules | `(tactic| k_room) => `(tactic| ((try simp only [depth_deeper]); omega))
section
set_option pp.deepTerms false
set_option pp.deepTerms.threshold 7
set_option pp.proofs false
variable {prog : Program} {w : World} {s : Shared} {h₀ : Heap} {L fa : Addr} {cd : Value} {mg mb m₁ : Str → Option Value} {p : Program} {loose : List Str} {mean : ExcName → Option Value}
  {fl rw pc x0 d0 b0 x1 d1 b1 l I : Addr} {bd turn n : Int} {tn : Tok} {ol : Obj} {PI : Obj → Prop} {Post : Flow → Shared → Prop}
theorem turn_head (T : Top p loose mean mg mb h₀) (B : Below callerA h₀ [] h₀) (KX : (hd.heap_39 w.params).In h₀)
    (hA : Chain [L + 1, d0, x0, b0, d1, x1, b1, fl, rw, pc, l, I]) (hb : bd ≤ 300) (ht : 0 ≤ turn) (ht2 : turn ≤ 100)
    (S : ∃ (m : Str → Option Value) (r0 r1 : Addr) (oc oI : Obj) (vc : Option Value) (tt ta tb tc td tp0 tp1 u0 u1 : Tok) (row0 row1 : List Int) (p0 p1 : Int) (vs0 vs1 : List Value) (n0 n1 nf nr np : Nat),
      Fr h₀ L s.heap (fun y => if y = Str.ofString "n" then some (.int n tn) else mapOf fl rw pc turn tt m y) ∧
      News h₀ L s.heap [(L + 1, oc), (x0, instObj 88 d0), (d0, octDict w.params ta tb b0 p0 tp0), (b0, baObj (byteArr row0)), (x1, instObj 88 d1), (d1, octDict w.params tc td b1 p1 tp1), (b1, baObj (byteArr row1)),
        (r0, listOf vs0.toArray n0), (r1, listOf vs1.toArray n1), (fl, listOf #[.ref x0, .ref x1] nf), (rw, listOf #[.ref r0, .ref r1] nr), (pc, listOf #[.int p0 u0, .int p1 u1] np), (l, ol), (I, oI)] ∧
      oc.data = .cell vc ∧ PI oI ∧ IntsAre vs0 row0 ∧ IntsAre vs1 row1 ∧ KBa.In row0 ∧ KBa.In row1 ∧ (row0.length : Int) ≤ bd ∧ (row1.length : Int) ≤ bd ∧ 0 ≤ p0 ∧ p0 ≤ bd ∧ 0 ≤ p1 ∧ p1 ≤ bd ∧
      Off r0 [L + 1, d0, x0, b0, d1, x1, b1, fl, rw, pc, l, I] ∧ Off r1 [L + 1, d0, x0, b0, d1, x1, b1, fl, rw, pc, l, I] ∧ @Ne Nat r0 r1)
    (q : ∀ s' wh, s'.gens = s.gens → s'.os = s.os → wh = 0 ∨ wh = 1 → StH w.params h₀ L fl rw pc x0 d0 b0 x1 d1 b1 l I ol PI bd (turn + 1) n wh s'.heap →
      wpC (model prog w) (callerA.deeper (lawEnv L fa cd)) (execs [kindStmt, lastStmt] (lawEnv L fa cd)) Post (fun _ _ => False) s') :
    wpC (model prog w) (callerA.deeper (lawEnv L fa cd)) (execs turnBody (lawEnv L fa cd)) Post (fun _ _ => False) s := by
  obtain ⟨m, r0, r1, oc, oI, vc, tt, ta, tb, tc, td, tp0, tp1, u0, u1, row0, row1, p0, p1, vs0, vs1, n0, n1, nf, nr, np, F, N, hoc, hPI, hi0, hi1, hr0, hr1, hl0, hl1, hp0, hp0', hp1, hp1', hR0, hR1, hR⟩ := S
  have hA' := hA
  have hR0' := hR0
  have hR1' := hR1
  simp only [Chain, Off, and_true] at hA hR0 hR1
  dsimp only [kindStmt, lastStmt, endStmts] at q
  dsimp only [turnBody, turnB, lawEnv, lawScope, lawFn] at q ⊢
  refine cExecsA ?_
  k_steps
  refine cExecsA ?_
  k_steps
  dsimp only
  generalize hwh : (n + turn).fmod 2 = wh at *
  have h01 : wh = 0 ∨ wh = 1 := by
    have h1 := fmod_lo (n + turn) (n := 2) (by decide)
    have h2 := fmod_hi (n + turn) (n := 2) (by decide)
    omega
  rcases h01 with h01 | h01 <;> subst h01
  all_goals (refine cExecsA ?_; k_steps; dsimp only)
  all_goals (refine cExecsA ?_; k_steps; dsimp only)
  all_goals (refine cExecsA ?_; k_steps; dsimp only)
  all_goals (refine cExecsA ?_; k_steps; dsimp only)
  all_goals (refine cExecsA ?_; k_steps; dsimp only)
  all_goals (refine cExecsA ?_; k_steps; dsimp only)
  all_goals (rename Fr _ _ _ _ => F9; rename News _ _ _ _ => N9; rename KBa.In (List.map _ _) => hin)
  · exact q _ 0 rfl rfl (.inl rfl) ⟨_, r0, r1, _, oI, _, _, _, _, _, _, _, ta, tb, tc, td, tp0, tp1, u0, u1, row0, row1, p0, p1, vs0, vs1, n0, n1, nf, nr, np, frH F9 rfl rfl rfl rfl rfl rfl rfl rfl rfl rfl rfl,
      sub_led N9 (fun p hp => .tail _ hp), by assumption, hPI, hi0, hi1, hr0, hr1, hl0, hl1, hp0, hp0', hp1, hp1', hR0', hR1', hR⟩
  · exact q _ 1 rfl rfl (.inr rfl) ⟨_, r0, r1, _, oI, _, _, _, _, _, _, _, ta, tb, tc, td, tp0, tp1, u0, u1, row0, row1, p0, p1, vs0, vs1, n0, n1, nf, nr, np, frH F9 rfl rfl rfl rfl rfl rfl rfl rfl rfl rfl rfl,
      sub_led N9 (fun p hp => .tail _ hp), by assumption, hPI, hi0, hi1, hr0, hr1, hl0, hl1, hp0, hp0', hp1, hp1', hR0', hR1', hR⟩
end
end Mine
end

section
open PySem PySem.W PySem.Calls PyProof.Rows PySem.Spec
set_option Elab.async false
namespace Mine
set_option maxRecDepth 100000
set_option maxHeartbeats 4000000
theorem fillK0 : PySem.Challenge.rw_ad6002_01 = PySem.Challenge.rw_ad6002_01 ∧ hd.heap_39 = hd.heap_39 := by
  k_with_none
  w_top off
  k_fill
  exact ⟨rfl, rfl⟩
local macro_rules | `(tactic| walk_at "call builtin:len") => `(tactic| (k_here; (with_reducible show wpAny _ _ (call (Value.builtin "len") [Value.bytes _ _]) _ _ _); k_dflt (refine' len_bytes ?z ?_; (case z => omega); k_whole)))
local macro_rules | `(tactic| walk_at "call builtin:len") => `(tactic| (k_here; (with_reducible show wpAny _ _ (call (Value.builtin "len") [Value.ref _]) _ _ _); k_dflt (refine' k_len_ba ?N ?m ?z ?_; (case N => k_asm); (case m => k_mem); (case z => first | assumption | omega); k_whole)))
local macro_rules | `(tactic| walk_at "subscriptTail") => `(tactic| (k_here; (with_reducible show wpAny _ _ (subscriptTail _ (Expr.Slice _ _ none _) (Value.ref _) (Value.ref _)) _ _ _); (with_reducible rename Fr _ _ _ _ => F'); (with_reducible rename News _ _ _ _ => N'); k_dflt (refine' k_slice_ba (s := ⟨_, _, _, _, _⟩) F' N' ?m ?hl ?hu ?z ?_; (case m => k_mem); (case hl => constructor); (case hu => constructor); (case z => first | assumption | omega); k_whole); intro y' h' F' N' l1; (try k_lt l1)))
local macro_rules | `(tactic| walk_at "call type:bytes") => `(tactic| (k_here; (with_reducible show wpAny _ _ (call (Value.type "bytes") [Value.ref _]) _ _ _); k_dflt (refine' k_bytes_ba ?N ?m ?z ?_; (case N => k_asm); (case m => k_mem); (case z => first | assumption | omega | exact Nat.le_trans (KBc.size_picked_le _ _ _) (by first | assumption | omega)); k_whole); intro _ _))
local macro_rules | `(tactic| k_room) => `(tactic| ((try simp only [depth_deeper]); omega))
local macro_rules | `(tactic| k_ne) => `(tactic| (refine neN ?_; (try dsimp only); first | exact Off.ne (by assumption) (by k_mem) | exact (Off.ne (by assumption) (by k_mem)).symm | omega))
local macro_rules | `(tactic| walk_at "exec If") => `(tactic| (with_reducible refine wpAny_If ?_))
local macro_rules | `(tactic| walk_at "InvEndN") => `(tactic| k_dflt kst_close)
local macro_rules | `(tactic| walk_at "setItem ref int") => `(tactic| (k_here; k_dflt (refine' ki_set ?F ?N ?a ?b ?e ?U ?_; (case a => decide); (case b => decide); (case F => k_asm); (case N => k_asm); (case U => k_upd); (case e => rfl)); ki_rest))
theorem frSK0 {h₀ h : Heap} {L fl rw pc : Addr} {turn : Int} {tt : Tok} {m : Str → Option Value} (F : Fr h₀ L h m) (e9 : m (Str.ofString "files") = some (.ref fl)) (e10 : m (Str.ofString "rows") = some (.ref rw)) (e11 : m (Str.ofString "places") = some (.ref pc))
    (e6 : m (Str.ofString "turn") = some (.int turn tt)) : Fr h₀ L h (mapOf fl rw pc turn tt m) := by
  have e := map_canon e9 e10 e11 e6
  rw [e] at F
  exact F
theorem swapAK0 {h₀ h : Heap} {L : Addr} {D g1 g2 e1 e2 e3 e4 e5 e6 e7 ra rb f1 f2 f3 f4 f5 : Addr × Obj} (N : News h₀ L h [D, g1, g2, e1, e2, e3, e4, e5, e6, e7, ra, rb, f1, f2, f3, f4, f5]) : News h₀ L h [e1, e2, e3, e4, e5, e6, e7, D, rb, f1, f2, f3, f4, f5] := sub_led N (by (repeat' (first | exact List.forall_mem_nil _ | refine List.forall_mem_cons.mpr ⟨?_, ?_⟩ | exact List.Mem.head _ | apply List.Mem.tail)))
theorem swapBK0 {h₀ h : Heap} {L : Addr} {D g1 g2 e1 e2 e3 e4 e5 e6 e7 ra rb f1 f2 f3 f4 f5 : Addr × Obj} (N : News h₀ L h [D, g1, g2, e1, e2, e3, e4, e5, e6, e7, ra, rb, f1, f2, f3, f4, f5]) : News h₀ L h [e1, e2, e3, e4, e5, e6, e7, ra, D, f1, f2, f3, f4, f5] := sub_led N (by (repeat' (first | exact List.forall_mem_nil _ | refine List.forall_mem_cons.mpr ⟨?_, ?_⟩ | exact List.Mem.head _ | apply List.Mem.tail)))

section
set_option pp.deepTerms false
set_option pp.deepTerms.threshold 7
set_option pp.proofs false
variable {prog : Program} {w : World} {s : Shared} {h₀ : Heap} {L fa : Addr} {cd : Value} {mg mb m₁ : Str → Option Value} {p : Program} {loose : List Str} {mean : ExcName → Option Value}
  {fl rw pc x0 d0 b0 x1 d1 b1 l I : Addr} {bd turn n wh : Int} {tn : Tok} {ol : Obj} {PI : Obj → Prop} {Post : Flow → Shared → Prop}
theorem kind_0 (T : Top p loose mean mg mb h₀) (B : Below callerA h₀ [] h₀) (KX : (hd.heap_39 w.params).In h₀)
    (hA : Chain [L + 1, d0, x0, b0, d1, x1, b1, fl, rw, pc, l, I]) (hb : bd ≤ 200) (hb0 : 40 ≤ bd) (hk : n.fmod 7 = 0) (h01 : wh = 0 ∨ wh = 1)
    (S : StH w.params h₀ L fl rw pc x0 d0 b0 x1 d1 b1 l I ol PI bd turn n wh s.heap)
    (q : ∀ s', s'.gens = s.gens → s'.os = s.os → St w.params h₀ L fl rw pc x0 d0 b0 x1 d1 b1 l I ol PI (bd + 5) turn s'.heap → Post .next s') :
    wpC (model prog w) (callerA.deeper (lawEnv L fa cd)) (execs [kindStmt, lastStmt] (lawEnv L fa cd)) Post (fun _ _ => False) s := by
  have q : ∀ s', s'.gens = s.gens → s'.os = s.os → St w.params h₀ L fl rw pc x0 d0 b0 x1 d1 b1 l I ol PI (bd + 5) turn s'.heap → wpC (model prog w) (callerA.deeper (lawEnv L fa cd)) (execs [lastStmt] (lawEnv L fa cd)) Post (fun _ _ => False) s' :=
    fun s' e1 e2 S' => last_if T B KX hA (by omega) S' (fun s'' e3 e4 => q s'' (e3.trans e1) (e4.trans e2))
  obtain ⟨m, r0, r1, oc, oI, tm, tt, tn, tw, tp, tk, tdt, ta, tb, tc, td, tp0, tp1, u0, u1, row0, row1, p0, p1, vs0, vs1, n0, n1, nf, nr, np, F, N, hoc, hPI, hi0, hi1, hr0, hr1, hl0, hl1, hp0, hp0', hp1, hp1', hR0, hR1, hR⟩ := S
  have hA' := hA
  have hR0' := hR0
  have hR1' := hR1
  simp only [Chain, Off, and_true] at hA hR0 hR1
  have hz0 : (byteArr row0).size ≤ 1000 := by rw [byteArr_size]; omega
  have hz1 : (byteArr row1).size ≤ 1000 := by rw [byteArr_size]; omega
  rw [hk] at F
  dsimp only [lastStmt, kindStmt, endStmts, lawEnv, lawScope, lawFn] at q ⊢
  rcases h01 with h01 | h01 <;> subst h01
  all_goals simp only [if_true, if_false, Int.one_ne_zero] at F
  · refine cExecs (cIf (cOf ?_))
    k_steps
    refine cExecs (cIf (cTest1 (cMethodCall ?_)))
    k_steps
    dsimp only
    refine cCallWithE (P := (hd.heap_39 w.params).In) (keeps_K (by k_is)) ?_
    k_steps
    rename Fr h₀ L _ _ => F1
    have hdl : (dataOf n).length ≤ 5 := by
      have hm1 := fmod_lo (n.fdiv 7) (n := 6) (by decide)
      have hm2 := fmod_hi (n.fdiv 7) (n := 6) (by decide)
      rw [dataOf, List.length_map, rangeKs_length]; omega
    have hsz : (byteArr (dataOf n)).size = (dataOf n).length := byteArr_size _
    have hdi : KBa.In (dataOf n) := fun a ha => by
      obtain ⟨k, _, rfl⟩ := List.mem_map.mp ha
      exact ⟨fmod_lo _ (by decide), fmod_hi _ (by decide)⟩
    have hcs : KBw.bInts (byteArr (dataOf n)) = dataOf n := KBa.ints_make hdi
    have hN1 : News h₀ L s.heap ((b0, baObj (byteArr row0)) :: (x0, instObj 88 d0) :: (d0, octDict w.params ta tb b0 p0 tp0) :: [(L + 1, oc), (x1, instObj 88 d1), (d1, octDict w.params tc td b1 p1 tp1), (b1, baObj (byteArr row1)), (r0, listOf vs0.toArray n0), (r1, listOf vs1.toArray n1), (fl, listOf #[.ref x0, .ref x1] nf), (rw, listOf #[.ref r0, .ref r1] nr), (pc, listOf #[.int p0 u0, .int p1 u1] np), (l, ol), (I, oI)]) := sub_led N (by (repeat' (first | exact List.forall_mem_nil _ | refine List.forall_mem_cons.mpr ⟨?_, ?_⟩ | exact List.Mem.head _ | apply List.Mem.tail)))
    show wpC (model prog w) (aroundOf _ _ _ []) _ _ _ _
    refine write_ok B F1 KX hN1 T rfl rfl (by decide) (by decide) (by rw [byteArr_size]; omega) (by rw [byteArr_size]; omega) hp0 (by omega) (by k_ne) (by k_ne) (by k_ne) (by (repeat' (first | exact List.forall_mem_nil _ | refine List.forall_mem_cons.mpr ⟨?_, ?_⟩ | k_ne))) (fun h3 tk3 u3 v3 F2 N2 => ?_)
    rw [laid_byte row0 (dataOf n) hp0] at N2
    have N3 : News h₀ L h3 [(L + 1, oc), (x0, instObj 88 d0), (d0, octDict w.params ta tb b0 (p0 + ((byteArr (dataOf n)).size : Int)) v3), (b0, baObj (byteArr (laidRow row0 p0 (dataOf n)))), (x1, instObj 88 d1), (d1, octDict w.params tc td b1 p1 tp1), (b1, baObj (byteArr row1)), (r0, listOf vs0.toArray n0), (r1, listOf vs1.toArray n1), (fl, listOf #[.ref x0, .ref x1] nf), (rw, listOf #[.ref r0, .ref r1] nr), (pc, listOf #[.int p0 u0, .int p1 u1] np), (l, ol), (I, oI)] := sub_led N2 (by (repeat' (first | exact List.forall_mem_nil _ | refine List.forall_mem_cons.mpr ⟨?_, ?_⟩ | exact List.Mem.head _ | apply List.Mem.tail)))
    clear F1 hN1 N2 N
    dsimp only
    (try k_fold)
    k_steps
    all_goals (try (rename _ ≠ _ => hbad; exact (hbad rfl).elim))
    (try dsimp only)
    refine cNil ?_
    (try dsimp only)
    (k_with "state" => first | (refine ⟨?_, ?_, ?_⟩ <;> (try simp only [List.length_append, len_pad, List.length_set]) <;> (first | omega | simp_all [setsOf, List.foldl_append])) | skip)
    (k_with "pyIter ref" => k_state_given ["done!"] (fun d₀ pre d => p0 + ((dataOf n).length : Int) ≤ (d.length : Int) ∧ d.length ≤ 400 ∧ d = setsOf p0 (dataOf n) d₀ pre) "done")
    refine cExecsA ?_
    k_steps
    dsimp only
    refine cExecsA ?_
    k_steps
    (try dsimp only)
    refine cNil ?_
    (try dsimp only)
    rename _ = setsOf _ _ _ _ => hset
    rename IntsAre _ _ => hI
    rw [hset, hsz] at hI
    have hll := laidRow_len row0 (dataOf n) hp0
    rename Fr h₀ L _ _ => F9
    rename News h₀ L _ _ => N9
    exact q _ rfl rfl ⟨_, _, r1, oc, oI, _, _, _, _, _, _, _, _, _, _, (laidRow row0 p0 (dataOf n)), row1, _, _, _, vs1, _, n1, _, _, _, frSK0 F9 rfl rfl rfl rfl, swapAK0 N9, hoc, hPI, hI, hi1, (laidRow_in hp0 hr0 hdi), hr1, by omega, by omega, by omega, by omega, by omega, by omega, (by simp only [Off, and_true]; omega), hR1', by k_ne⟩
  · refine cExecs (cIf (cOf ?_))
    k_steps
    refine cExecs (cIf (cTest1 (cMethodCall ?_)))
    k_steps
    dsimp only
    refine cCallWithE (P := (hd.heap_39 w.params).In) (keeps_K (by k_is)) ?_
    k_steps
    rename Fr h₀ L _ _ => F1
    have hdl : (dataOf n).length ≤ 5 := by
      have hm1 := fmod_lo (n.fdiv 7) (n := 6) (by decide)
      have hm2 := fmod_hi (n.fdiv 7) (n := 6) (by decide)
      rw [dataOf, List.length_map, rangeKs_length]; omega
    have hsz : (byteArr (dataOf n)).size = (dataOf n).length := byteArr_size _
    have hdi : KBa.In (dataOf n) := fun a ha => by
      obtain ⟨k, _, rfl⟩ := List.mem_map.mp ha
      exact ⟨fmod_lo _ (by decide), fmod_hi _ (by decide)⟩
    have hcs : KBw.bInts (byteArr (dataOf n)) = dataOf n := KBa.ints_make hdi
    have hN1 : News h₀ L s.heap ((b1, baObj (byteArr row1)) :: (x1, instObj 88 d1) :: (d1, octDict w.params tc td b1 p1 tp1) :: [(L + 1, oc), (x0, instObj 88 d0), (d0, octDict w.params ta tb b0 p0 tp0), (b0, baObj (byteArr row0)), (r0, listOf vs0.toArray n0), (r1, listOf vs1.toArray n1), (fl, listOf #[.ref x0, .ref x1] nf), (rw, listOf #[.ref r0, .ref r1] nr), (pc, listOf #[.int p0 u0, .int p1 u1] np), (l, ol), (I, oI)]) := sub_led N (by (repeat' (first | exact List.forall_mem_nil _ | refine List.forall_mem_cons.mpr ⟨?_, ?_⟩ | exact List.Mem.head _ | apply List.Mem.tail)))
    show wpC (model prog w) (aroundOf _ _ _ []) _ _ _ _
    refine write_ok B F1 KX hN1 T rfl rfl (by decide) (by decide) (by rw [byteArr_size]; omega) (by rw [byteArr_size]; omega) hp1 (by omega) (by k_ne) (by k_ne) (by k_ne) (by (repeat' (first | exact List.forall_mem_nil _ | refine List.forall_mem_cons.mpr ⟨?_, ?_⟩ | k_ne))) (fun h3 tk3 u3 v3 F2 N2 => ?_)
    rw [laid_byte row1 (dataOf n) hp1] at N2
    have N3 : News h₀ L h3 [(L + 1, oc), (x0, instObj 88 d0), (d0, octDict w.params ta tb b0 p0 tp0), (b0, baObj (byteArr row0)), (x1, instObj 88 d1), (d1, octDict w.params tc td b1 (p1 + ((byteArr (dataOf n)).size : Int)) v3), (b1, baObj (byteArr (laidRow row1 p1 (dataOf n)))), (r0, listOf vs0.toArray n0), (r1, listOf vs1.toArray n1), (fl, listOf #[.ref x0, .ref x1] nf), (rw, listOf #[.ref r0, .ref r1] nr), (pc, listOf #[.int p0 u0, .int p1 u1] np), (l, ol), (I, oI)] := sub_led N2 (by (repeat' (first | exact List.forall_mem_nil _ | refine List.forall_mem_cons.mpr ⟨?_, ?_⟩ | exact List.Mem.head _ | apply List.Mem.tail)))
    clear F1 hN1 N2 N
    dsimp only
    (try k_fold)
    k_steps
    all_goals (try (rename _ ≠ _ => hbad; exact (hbad rfl).elim))
    (try dsimp only)
    refine cNil ?_
    (try dsimp only)
    (k_with "state" => first | (refine ⟨?_, ?_, ?_⟩ <;> (try simp only [List.length_append, len_pad, List.length_set]) <;> (first | omega | simp_all [setsOf, List.foldl_append])) | skip)
    (k_with "pyIter ref" => k_state_given ["done!"] (fun d₀ pre d => p1 + ((dataOf n).length : Int) ≤ (d.length : Int) ∧ d.length ≤ 400 ∧ d = setsOf p1 (dataOf n) d₀ pre) "done")
    refine cExecsA ?_
    k_steps
    dsimp only
    refine cExecsA ?_
    k_steps
    (try dsimp only)
    refine cNil ?_
    (try dsimp only)
    rename _ = setsOf _ _ _ _ => hset
    rename IntsAre _ _ => hI
    rw [hset, hsz] at hI
    have hll := laidRow_len row1 (dataOf n) hp1
    rename Fr h₀ L _ _ => F9
    rename News h₀ L _ _ => N9
    exact q _ rfl rfl ⟨_, r0, _, oc, oI, _, _, _, _, _, _, _, _, _, _, row0, (laidRow row1 p1 (dataOf n)), _, _, vs0, _, n0, _, _, _, _, frSK0 F9 rfl rfl rfl rfl, swapBK0 N9, hoc, hPI, hi0, hI, hr0, (laidRow_in hp1 hr1 hdi), by omega, by omega, by omega, by omega, by omega, by omega, hR0', (by simp only [Off, and_true]; omega), by k_ne⟩

end
end Mine
end

section
open PySem PySem.W PySem.Calls PyProof.Rows PySem.Spec
set_option Elab.async false
namespace Mine
set_option maxRecDepth 100000
set_option maxHeartbeats 4000000
theorem fillK1 : PySem.Challenge.rw_ad6002_01 = PySem.Challenge.rw_ad6002_01 ∧ hd.heap_39 = hd.heap_39 := by
  k_with_none
  w_top off
  k_fill
  exact ⟨rfl, rfl⟩
local macro_rules | `(tactic| walk_at "call builtin:len") => `(tactic| (k_here; (with_reducible show wpAny _ _ (call (Value.builtin "len") [Value.bytes _ _]) _ _ _); k_dflt (refine' len_bytes ?z ?_; (case z => omega); k_whole)))
local macro_rules | `(tactic| walk_at "call builtin:len") => `(tactic| (k_here; (with_reducible show wpAny _ _ (call (Value.builtin "len") [Value.ref _]) _ _ _); k_dflt (refine' k_len_ba ?N ?m ?z ?_; (case N => k_asm); (case m => k_mem); (case z => first | assumption | omega); k_whole)))
local macro_rules | `(tactic| walk_at "subscriptTail") => `(tactic| (k_here; (with_reducible show wpAny _ _ (subscriptTail _ (Expr.Slice _ _ none _) (Value.ref _) (Value.ref _)) _ _ _); (with_reducible rename Fr _ _ _ _ => F'); (with_reducible rename News _ _ _ _ => N'); k_dflt (refine' k_slice_ba (s := ⟨_, _, _, _, _⟩) F' N' ?m ?hl ?hu ?z ?_; (case m => k_mem); (case hl => constructor); (case hu => constructor); (case z => first | assumption | omega); k_whole); intro y' h' F' N' l1; (try k_lt l1)))
local macro_rules | `(tactic| walk_at "call type:bytes") => `(tactic| (k_here; (with_reducible show wpAny _ _ (call (Value.type "bytes") [Value.ref _]) _ _ _); k_dflt (refine' k_bytes_ba ?N ?m ?z ?_; (case N => k_asm); (case m => k_mem); (case z => first | assumption | omega | exact Nat.le_trans (KBc.size_picked_le _ _ _) (by first | assumption | omega)); k_whole); intro _ _))
local macro_rules | `(tactic| k_room) => `(tactic| ((try simp only [depth_deeper]); omega))
local macro_rules | `(tactic| k_ne) => `(tactic| (refine neN ?_; (try dsimp only); first | exact Off.ne (by assumption) (by k_mem) | exact (Off.ne (by assumption) (by k_mem)).symm | omega))
local macro_rules | `(tactic| walk_at "exec If") => `(tactic| (with_reducible refine wpAny_If ?_))
local macro_rules | `(tactic| walk_at "InvEndN") => `(tactic| k_dflt kst_close)
local macro_rules | `(tactic| walk_at "setItem ref int") => `(tactic| (k_here; k_dflt (refine' ki_set ?F ?N ?a ?b ?e ?U ?_; (case a => decide); (case b => decide); (case F => k_asm); (case N => k_asm); (case U => k_upd); (case e => rfl)); ki_rest))
theorem frSK1 {h₀ h : Heap} {L fl rw pc : Addr} {turn : Int} {tt : Tok} {m : Str → Option Value} (F : Fr h₀ L h m) (e9 : m (Str.ofString "files") = some (.ref fl)) (e10 : m (Str.ofString "rows") = some (.ref rw)) (e11 : m (Str.ofString "places") = some (.ref pc))
    (e6 : m (Str.ofString "turn") = some (.int turn tt)) : Fr h₀ L h (mapOf fl rw pc turn tt m) := by
  have e := map_canon e9 e10 e11 e6
  rw [e] at F
  exact F

section
set_option pp.deepTerms false
set_option pp.deepTerms.threshold 7
set_option pp.proofs false
variable {prog : Program} {w : World} {s : Shared} {h₀ : Heap} {L fa : Addr} {cd : Value} {mg mb m₁ : Str → Option Value} {p : Program} {loose : List Str} {mean : ExcName → Option Value}
  {fl rw pc x0 d0 b0 x1 d1 b1 l I : Addr} {bd turn n wh : Int} {tn : Tok} {ol : Obj} {PI : Obj → Prop} {Post : Flow → Shared → Prop}
theorem kind_1 (T : Top p loose mean mg mb h₀) (B : Below callerA h₀ [] h₀) (KX : (hd.heap_39 w.params).In h₀)
    (hA : Chain [L + 1, d0, x0, b0, d1, x1, b1, fl, rw, pc, l, I]) (hb : bd ≤ 200) (hb0 : 40 ≤ bd) (hk : n.fmod 7 = 1) (h01 : wh = 0 ∨ wh = 1)
    (S : StH w.params h₀ L fl rw pc x0 d0 b0 x1 d1 b1 l I ol PI bd turn n wh s.heap)
    (q : ∀ s', s'.gens = s.gens → s'.os = s.os → St w.params h₀ L fl rw pc x0 d0 b0 x1 d1 b1 l I ol PI (bd + 5) turn s'.heap → Post .next s') :
    wpC (model prog w) (callerA.deeper (lawEnv L fa cd)) (execs [kindStmt, lastStmt] (lawEnv L fa cd)) Post (fun _ _ => False) s := by
  have q : ∀ s', s'.gens = s.gens → s'.os = s.os → St w.params h₀ L fl rw pc x0 d0 b0 x1 d1 b1 l I ol PI (bd + 5) turn s'.heap → wpC (model prog w) (callerA.deeper (lawEnv L fa cd)) (execs [lastStmt] (lawEnv L fa cd)) Post (fun _ _ => False) s' :=
    fun s' e1 e2 S' => last_if T B KX hA (by omega) S' (fun s'' e3 e4 => q s'' (e3.trans e1) (e4.trans e2))
  obtain ⟨m, r0, r1, oc, oI, tm, tt, tn, tw, tp, tk, tdt, ta, tb, tc, td, tp0, tp1, u0, u1, row0, row1, p0, p1, vs0, vs1, n0, n1, nf, nr, np, F, N, hoc, hPI, hi0, hi1, hr0, hr1, hl0, hl1, hp0, hp0', hp1, hp1', hR0, hR1, hR⟩ := S
  have hA' := hA
  have hR0' := hR0
  have hR1' := hR1
  simp only [Chain, Off, and_true] at hA hR0 hR1
  have hz0 : (byteArr row0).size ≤ 1000 := by rw [byteArr_size]; omega
  have hz1 : (byteArr row1).size ≤ 1000 := by rw [byteArr_size]; omega
  rw [hk] at F
  dsimp only [lastStmt, kindStmt, endStmts, lawEnv, lawScope, lawFn] at q ⊢
  rcases h01 with h01 | h01 <;> subst h01
  all_goals simp only [if_true, if_false, Int.one_ne_zero] at F
  all_goals refine cExecsA ?_
  all_goals k_steps
  all_goals (try dsimp only)
  all_goals (rename Fr h₀ L _ _ => F9; rename News h₀ L _ _ => N9)
  all_goals (dsimp only [dictOf] at N9; simp only [Int.add_zero] at N9)
  all_goals have hm1 := fmod_lo (n.fdiv 7) (n := 40) (by decide)
  all_goals have hm2 := fmod_hi (n.fdiv 7) (n := 40) (by decide)
  all_goals exact q _ rfl rfl ⟨_, r0, r1, oc, oI, _, _, _, _, _, _, _, _, _, _, row0, row1, _, _, vs0, vs1, n0, n1, _, _, _, frSK1 F9 rfl rfl rfl rfl, N9, hoc, hPI, hi0, hi1, hr0, hr1, by omega, by omega, by omega, by omega, by omega, by omega, hR0', hR1', hR⟩
end
end Mine
end

section
open PySem PySem.W PySem.Calls PyProof.Rows PySem.Spec
set_option Elab.async false
namespace Mine
set_option maxRecDepth 100000
set_option maxHeartbeats 4000000
theorem fillK2 : PySem.Challenge.rw_ad6002_01 = PySem.Challenge.rw_ad6002_01 ∧ hd.heap_39 = hd.heap_39 := by
  k_with_none
  w_top off
  k_fill
  exact ⟨rfl, rfl⟩
local macro_rules | `(tactic| walk_at "call builtin:len") => `(tactic| (k_here; (with_reducible show wpAny _ _ (call (Value.builtin "len") [Value.bytes _ _]) _ _ _); k_dflt (refine' len_bytes ?z ?_; (case z => omega); k_whole)))
local macro_rules | `(tactic| walk_at "call builtin:len") => `(tactic| (k_here; (with_reducible show wpAny _ _ (call (Value.builtin "len") [Value.ref _]) _ _ _); k_dflt (refine' k_len_ba ?N ?m ?z ?_; (case N => k_asm); (case m => k_mem); (case z => first | assumption | omega); k_whole)))
local macro_rules | `(tactic| walk_at "subscriptTail") => `(tactic| (k_here; (with_reducible show wpAny _ _ (subscriptTail _ (Expr.Slice _ _ none _) (Value.ref _) (Value.ref _)) _ _ _); (with_reducible rename Fr _ _ _ _ => F'); (with_reducible rename News _ _ _ _ => N'); k_dflt (refine' k_slice_ba (s := ⟨_, _, _, _, _⟩) F' N' ?m ?hl ?hu ?z ?_; (case m => k_mem); (case hl => constructor); (case hu => constructor); (case z => first | assumption | omega); k_whole); intro y' h' F' N' l1; (try k_lt l1)))
local macro_rules | `(tactic| walk_at "call type:bytes") => `(tactic| (k_here; (with_reducible show wpAny _ _ (call (Value.type "bytes") [Value.ref _]) _ _ _); k_dflt (refine' k_bytes_ba ?N ?m ?z ?_; (case N => k_asm); (case m => k_mem); (case z => first | assumption | omega | exact Nat.le_trans (KBc.size_picked_le _ _ _) (by first | assumption | omega)); k_whole); intro _ _))
local macro_rules | `(tactic| k_room) => `(tactic| ((try simp only [depth_deeper]); omega))
local macro_rules | `(tactic| k_ne) => `(tactic| (refine neN ?_; (try dsimp only); first | exact Off.ne (by assumption) (by k_mem) | exact (Off.ne (by assumption) (by k_mem)).symm | omega))
local macro_rules | `(tactic| walk_at "exec If") => `(tactic| (with_reducible refine wpAny_If ?_))
local macro_rules | `(tactic| walk_at "InvEndN") => `(tactic| k_dflt kst_close)
local macro_rules | `(tactic| walk_at "setItem ref int") => `(tactic| (k_here; k_dflt (refine' ki_set ?F ?N ?a ?b ?e ?U ?_; (case a => decide); (case b => decide); (case F => k_asm); (case N => k_asm); (case U => k_upd); (case e => rfl)); ki_rest))
theorem frSK2 {h₀ h : Heap} {L fl rw pc : Addr} {turn : Int} {tt : Tok} {m : Str → Option Value} (F : Fr h₀ L h m) (e9 : m (Str.ofString "files") = some (.ref fl)) (e10 : m (Str.ofString "rows") = some (.ref rw)) (e11 : m (Str.ofString "places") = some (.ref pc))
    (e6 : m (Str.ofString "turn") = some (.int turn tt)) : Fr h₀ L h (mapOf fl rw pc turn tt m) := by
  have e := map_canon e9 e10 e11 e6
  rw [e] at F
  exact F

section
set_option pp.deepTerms false
set_option pp.deepTerms.threshold 7
set_option pp.proofs false
variable {prog : Program} {w : World} {s : Shared} {h₀ : Heap} {L fa : Addr} {cd : Value} {mg mb m₁ : Str → Option Value} {p : Program} {loose : List Str} {mean : ExcName → Option Value}
  {fl rw pc x0 d0 b0 x1 d1 b1 l I : Addr} {bd turn n wh : Int} {tn : Tok} {ol : Obj} {PI : Obj → Prop} {Post : Flow → Shared → Prop}
theorem kind_2 (T : Top p loose mean mg mb h₀) (B : Below callerA h₀ [] h₀) (KX : (hd.heap_39 w.params).In h₀)
    (hA : Chain [L + 1, d0, x0, b0, d1, x1, b1, fl, rw, pc, l, I]) (hb : bd ≤ 200) (hb0 : 40 ≤ bd) (hk : n.fmod 7 = 2) (h01 : wh = 0 ∨ wh = 1)
    (S : StH w.params h₀ L fl rw pc x0 d0 b0 x1 d1 b1 l I ol PI bd turn n wh s.heap)
    (q : ∀ s', s'.gens = s.gens → s'.os = s.os → St w.params h₀ L fl rw pc x0 d0 b0 x1 d1 b1 l I ol PI (bd + 5) turn s'.heap → Post .next s') :
    wpC (model prog w) (callerA.deeper (lawEnv L fa cd)) (execs [kindStmt, lastStmt] (lawEnv L fa cd)) Post (fun _ _ => False) s := by
  have q : ∀ s', s'.gens = s.gens → s'.os = s.os → St w.params h₀ L fl rw pc x0 d0 b0 x1 d1 b1 l I ol PI (bd + 5) turn s'.heap → wpC (model prog w) (callerA.deeper (lawEnv L fa cd)) (execs [lastStmt] (lawEnv L fa cd)) Post (fun _ _ => False) s' :=
    fun s' e1 e2 S' => last_if T B KX hA (by omega) S' (fun s'' e3 e4 => q s'' (e3.trans e1) (e4.trans e2))
  obtain ⟨m, r0, r1, oc, oI, tm, tt, tn, tw, tp, tk, tdt, ta, tb, tc, td, tp0, tp1, u0, u1, row0, row1, p0, p1, vs0, vs1, n0, n1, nf, nr, np, F, N, hoc, hPI, hi0, hi1, hr0, hr1, hl0, hl1, hp0, hp0', hp1, hp1', hR0, hR1, hR⟩ := S
  have hA' := hA
  have hR0' := hR0
  have hR1' := hR1
  simp only [Chain, Off, and_true] at hA hR0 hR1
  have hz0 : (byteArr row0).size ≤ 1000 := by rw [byteArr_size]; omega
  have hz1 : (byteArr row1).size ≤ 1000 := by rw [byteArr_size]; omega
  rw [hk] at F
  dsimp only [lastStmt, kindStmt, endStmts, lawEnv, lawScope, lawFn] at q ⊢
  rcases h01 with h01 | h01 <;> subst h01
  all_goals simp only [if_true, if_false, Int.one_ne_zero] at F
  all_goals refine cExecsA ?_
  all_goals k_steps
  all_goals (try dsimp only)
  all_goals (rename Fr h₀ L _ _ => F9; rename News h₀ L _ _ => N9)
  · have e : (n.fdiv 7).fmod ((row0.length : Int) + 4) - (row0.length : Int) + ((byteArr row0).size : Int) = (row0.length : Int) + ((n.fdiv 7).fmod ((row0.length : Int) + 4) - (row0.length : Int)) := by rw [byteArr_size]; omega
    rw [e] at N9
    have hm1 := fmod_lo (n.fdiv 7) (n := (row0.length : Int) + 4) (by omega)
    have hm2 := fmod_hi (n.fdiv 7) (n := (row0.length : Int) + 4) (by omega)
    exact q _ rfl rfl ⟨_, r0, r1, oc, oI, _, _, _, _, _, _, _, _, _, _, row0, row1, _, _, vs0, vs1, n0, n1, _, _, _, frSK2 F9 rfl rfl rfl rfl, N9, hoc, hPI, hi0, hi1, hr0, hr1, by omega, by omega, by omega, by omega, by omega, by omega, hR0', hR1', hR⟩
  · have e : (n.fdiv 7).fmod ((row1.length : Int) + 4) - (row1.length : Int) + ((byteArr row1).size : Int) = (row1.length : Int) + ((n.fdiv 7).fmod ((row1.length : Int) + 4) - (row1.length : Int)) := by rw [byteArr_size]; omega
    rw [e] at N9
    have hm1 := fmod_lo (n.fdiv 7) (n := (row1.length : Int) + 4) (by omega)
    have hm2 := fmod_hi (n.fdiv 7) (n := (row1.length : Int) + 4) (by omega)
    exact q _ rfl rfl ⟨_, r0, r1, oc, oI, _, _, _, _, _, _, _, _, _, _, row0, row1, _, _, vs0, vs1, n0, n1, _, _, _, frSK2 F9 rfl rfl rfl rfl, N9, hoc, hPI, hi0, hi1, hr0, hr1, by omega, by omega, by omega, by omega, by omega, by omega, hR0', hR1', hR⟩
end
end Mine
end

section
open PySem PySem.W PySem.Calls PyProof.Rows PySem.Spec
set_option Elab.async false
namespace Mine
set_option maxRecDepth 100000
set_option maxHeartbeats 4000000
theorem fillK3 : PySem.Challenge.rw_ad6002_01 = PySem.Challenge.rw_ad6002_01 ∧ hd.heap_39 = hd.heap_39 := by
  k_with_none
  w_top off
  k_fill
  exact ⟨rfl, rfl⟩
local macro_rules | `(tactic| walk_at "call builtin:len") => `(tactic| (k_here; (with_reducible show wpAny _ _ (call (Value.builtin "len") [Value.bytes _ _]) _ _ _); k_dflt (refine' len_bytes ?z ?_; (case z => omega); k_whole)))
local macro_rules | `(tactic| walk_at "call builtin:len") => `(tactic| (k_here; (with_reducible show wpAny _ _ (call (Value.builtin "len") [Value.ref _]) _ _ _); k_dflt (refine' k_len_ba ?N ?m ?z ?_; (case N => k_asm); (case m => k_mem); (case z => first | assumption | omega); k_whole)))
local macro_rules | `(tactic| walk_at "subscriptTail") => `(tactic| (k_here; (with_reducible show wpAny _ _ (subscriptTail _ (Expr.Slice _ _ none _) (Value.ref _) (Value.ref _)) _ _ _); (with_reducible rename Fr _ _ _ _ => F'); (with_reducible rename News _ _ _ _ => N'); k_dflt (refine' k_slice_ba (s := ⟨_, _, _, _, _⟩) F' N' ?m ?hl ?hu ?z ?_; (case m => k_mem); (case hl => constructor); (case hu => constructor); (case z => first | assumption | omega); k_whole); intro y' h' F' N' l1; (try k_lt l1)))
local macro_rules | `(tactic| walk_at "call type:bytes") => `(tactic| (k_here; (with_reducible show wpAny _ _ (call (Value.type "bytes") [Value.ref _]) _ _ _); k_dflt (refine' k_bytes_ba ?N ?m ?z ?_; (case N => k_asm); (case m => k_mem); (case z => first | assumption | omega | exact Nat.le_trans (KBc.size_picked_le _ _ _) (by first | assumption | omega)); k_whole); intro _ _))
local macro_rules | `(tactic| k_room) => `(tactic| ((try simp only [depth_deeper]); omega))
local macro_rules | `(tactic| k_ne) => `(tactic| (refine neN ?_; (try dsimp only); first | exact Off.ne (by assumption) (by k_mem) | exact (Off.ne (by assumption) (by k_mem)).symm | omega))
local macro_rules | `(tactic| walk_at "exec If") => `(tactic| (with_reducible refine wpAny_If ?_))
local macro_rules | `(tactic| walk_at "InvEndN") => `(tactic| k_dflt kst_close)
local macro_rules | `(tactic| walk_at "setItem ref int") => `(tactic| (k_here; k_dflt (refine' ki_set ?F ?N ?a ?b ?e ?U ?_; (case a => decide); (case b => decide); (case F => k_asm); (case N => k_asm); (case U => k_upd); (case e => rfl)); ki_rest))
theorem frSK3 {h₀ h : Heap} {L fl rw pc : Addr} {turn : Int} {tt : Tok} {m : Str → Option Value} (F : Fr h₀ L h m) (e9 : m (Str.ofString "files") = some (.ref fl)) (e10 : m (Str.ofString "rows") = some (.ref rw)) (e11 : m (Str.ofString "places") = some (.ref pc))
    (e6 : m (Str.ofString "turn") = some (.int turn tt)) : Fr h₀ L h (mapOf fl rw pc turn tt m) := by
  have e := map_canon e9 e10 e11 e6
  rw [e] at F
  exact F

section
set_option pp.deepTerms false
set_option pp.deepTerms.threshold 7
set_option pp.proofs false
variable {prog : Program} {w : World} {s : Shared} {h₀ : Heap} {L fa : Addr} {cd : Value} {mg mb m₁ : Str → Option Value} {p : Program} {loose : List Str} {mean : ExcName → Option Value}
  {fl rw pc x0 d0 b0 x1 d1 b1 l I : Addr} {bd turn n wh : Int} {tn : Tok} {ol : Obj} {PI : Obj → Prop} {Post : Flow → Shared → Prop}
theorem kind_3 (T : Top p loose mean mg mb h₀) (B : Below callerA h₀ [] h₀) (KX : (hd.heap_39 w.params).In h₀)
    (hA : Chain [L + 1, d0, x0, b0, d1, x1, b1, fl, rw, pc, l, I]) (hb : bd ≤ 200) (hb0 : 40 ≤ bd) (hk : n.fmod 7 = 3) (h01 : wh = 0 ∨ wh = 1)
    (S : StH w.params h₀ L fl rw pc x0 d0 b0 x1 d1 b1 l I ol PI bd turn n wh s.heap)
    (q : ∀ s', s'.gens = s.gens → s'.os = s.os → St w.params h₀ L fl rw pc x0 d0 b0 x1 d1 b1 l I ol PI (bd + 5) turn s'.heap → Post .next s') :
    wpC (model prog w) (callerA.deeper (lawEnv L fa cd)) (execs [kindStmt, lastStmt] (lawEnv L fa cd)) Post (fun _ _ => False) s := by
  have q : ∀ s', s'.gens = s.gens → s'.os = s.os → St w.params h₀ L fl rw pc x0 d0 b0 x1 d1 b1 l I ol PI (bd + 5) turn s'.heap → wpC (model prog w) (callerA.deeper (lawEnv L fa cd)) (execs [lastStmt] (lawEnv L fa cd)) Post (fun _ _ => False) s' :=
    fun s' e1 e2 S' => last_if T B KX hA (by omega) S' (fun s'' e3 e4 => q s'' (e3.trans e1) (e4.trans e2))
  obtain ⟨m, r0, r1, oc, oI, tm, tt, tn, tw, tp, tk, tdt, ta, tb, tc, td, tp0, tp1, u0, u1, row0, row1, p0, p1, vs0, vs1, n0, n1, nf, nr, np, F, N, hoc, hPI, hi0, hi1, hr0, hr1, hl0, hl1, hp0, hp0', hp1, hp1', hR0, hR1, hR⟩ := S
  have hA' := hA
  have hR0' := hR0
  have hR1' := hR1
  simp only [Chain, Off, and_true] at hA hR0 hR1
  have hz0 : (byteArr row0).size ≤ 1000 := by rw [byteArr_size]; omega
  have hz1 : (byteArr row1).size ≤ 1000 := by rw [byteArr_size]; omega
  rw [hk] at F
  dsimp only [lastStmt, kindStmt, endStmts, lawEnv, lawScope, lawFn] at q ⊢
  rcases h01 with h01 | h01 <;> subst h01
  all_goals simp only [if_true, if_false, Int.one_ne_zero] at F
  all_goals refine cExecsA ?_
  all_goals k_steps
  all_goals first
    | (rename _ ≠ _ => hbad; exact (hbad rfl).elim)
    | ((try dsimp only); rename Fr h₀ L _ _ => F9; rename News h₀ L _ _ => N9; exact q _ rfl rfl ⟨_, r0, r1, oc, oI, _, _, _, _, _, _, _, _, _, _, row0, row1, _, _, vs0, vs1, n0, n1, _, _, _, frSK3 F9 rfl rfl rfl rfl, N9, hoc, hPI, hi0, hi1, hr0, hr1, by omega, by omega, by omega, by omega, by omega, by omega, hR0', hR1', hR⟩)
end
end Mine
end

section
open PySem PySem.W PySem.Calls PyProof.Rows PySem.Spec
set_option Elab.async false
namespace Mine
set_option maxRecDepth 100000
set_option maxHeartbeats 4000000
theorem fillK4 : PySem.Challenge.rw_ad6002_01 = PySem.Challenge.rw_ad6002_01 ∧ hd.heap_39 = hd.heap_39 := by
  k_with_none
  w_top off
  k_fill
  exact ⟨rfl, rfl⟩
local macro_rules | `(tactic| walk_at "call builtin:len") => `(tactic| (k_here; (with_reducible show wpAny _ _ (call (Value.builtin "len") [Value.bytes _ _]) _ _ _); k_dflt (refine' len_bytes ?z ?_; (case z => omega); k_whole)))
local macro_rules | `(tactic| walk_at "call builtin:len") => `(tactic| (k_here; (with_reducible show wpAny _ _ (call (Value.builtin "len") [Value.ref _]) _ _ _); k_dflt (refine' k_len_ba ?N ?m ?z ?_; (case N => k_asm); (case m => k_mem); (case z => first | assumption | omega); k_whole)))
local macro_rules | `(tactic| walk_at "subscriptTail") => `(tactic| (k_here; (with_reducible show wpAny _ _ (subscriptTail _ (Expr.Slice _ _ none _) (Value.ref _) (Value.ref _)) _ _ _); (with_reducible rename Fr _ _ _ _ => F'); (with_reducible rename News _ _ _ _ => N'); k_dflt (refine' k_slice_ba (s := ⟨_, _, _, _, _⟩) F' N' ?m ?hl ?hu ?z ?_; (case m => k_mem); (case hl => constructor); (case hu => constructor); (case z => first | assumption | omega); k_whole); intro y' h' F' N' l1; (try k_lt l1)))
local macro_rules | `(tactic| walk_at "call type:bytes") => `(tactic| (k_here; (with_reducible show wpAny _ _ (call (Value.type "bytes") [Value.ref _]) _ _ _); k_dflt (refine' k_bytes_ba ?N ?m ?z ?_; (case N => k_asm); (case m => k_mem); (case z => first | assumption | omega | exact Nat.le_trans (KBc.size_picked_le _ _ _) (by first | assumption | omega)); k_whole); intro _ _))
local macro_rules | `(tactic| k_room) => `(tactic| ((try simp only [depth_deeper]); omega))
local macro_rules | `(tactic| k_ne) => `(tactic| (refine neN ?_; (try dsimp only); first | exact Off.ne (by assumption) (by k_mem) | exact (Off.ne (by assumption) (by k_mem)).symm | omega))
local macro_rules | `(tactic| walk_at "exec If") => `(tactic| (with_reducible refine wpAny_If ?_))
local macro_rules | `(tactic| walk_at "InvEndN") => `(tactic| k_dflt kst_close)
local macro_rules | `(tactic| walk_at "setItem ref int") => `(tactic| (k_here; k_dflt (refine' ki_set ?F ?N ?a ?b ?e ?U ?_; (case a => decide); (case b => decide); (case F => k_asm); (case N => k_asm); (case U => k_upd); (case e => rfl)); ki_rest))
theorem frSK4 {h₀ h : Heap} {L fl rw pc : Addr} {turn : Int} {tt : Tok} {m : Str → Option Value} (F : Fr h₀ L h m) (e9 : m (Str.ofString "files") = some (.ref fl)) (e10 : m (Str.ofString "rows") = some (.ref rw)) (e11 : m (Str.ofString "places") = some (.ref pc))
    (e6 : m (Str.ofString "turn") = some (.int turn tt)) : Fr h₀ L h (mapOf fl rw pc turn tt m) := by
  have e := map_canon e9 e10 e11 e6
  rw [e] at F
  exact F
local macro_rules | `(tactic| walk_at "call builtin:len") => `(tactic| (k_here; (with_reducible show wpAny _ _ (call (Value.builtin "len") [Value.bytes (KBy.picked _ _ _) _]) _ _ _); k_dflt (refine' len_bytes ?z ?_; (case z => refine Nat.le_trans (KBc.size_picked_le _ _ _) ?_; omega); k_whole)))
section
set_option pp.deepTerms false
set_option pp.deepTerms.threshold 7
set_option pp.proofs false
variable {prog : Program} {w : World} {s : Shared} {h₀ : Heap} {L fa : Addr} {cd : Value} {mg mb m₁ : Str → Option Value} {p : Program} {loose : List Str} {mean : ExcName → Option Value}
  {fl rw pc x0 d0 b0 x1 d1 b1 l I : Addr} {bd turn n wh : Int} {tn : Tok} {ol : Obj} {PI : Obj → Prop} {Post : Flow → Shared → Prop}
theorem kind_4 (T : Top p loose mean mg mb h₀) (B : Below callerA h₀ [] h₀) (KX : (hd.heap_39 w.params).In h₀)
    (hA : Chain [L + 1, d0, x0, b0, d1, x1, b1, fl, rw, pc, l, I]) (hb : bd ≤ 200) (hb0 : 40 ≤ bd) (hk : n.fmod 7 = 4) (h01 : wh = 0 ∨ wh = 1)
    (S : StH w.params h₀ L fl rw pc x0 d0 b0 x1 d1 b1 l I ol PI bd turn n wh s.heap)
    (q : ∀ s', s'.gens = s.gens → s'.os = s.os → St w.params h₀ L fl rw pc x0 d0 b0 x1 d1 b1 l I ol PI (bd + 5) turn s'.heap → Post .next s') :
    wpC (model prog w) (callerA.deeper (lawEnv L fa cd)) (execs [kindStmt, lastStmt] (lawEnv L fa cd)) Post (fun _ _ => False) s := by
  have q : ∀ s', s'.gens = s.gens → s'.os = s.os → St w.params h₀ L fl rw pc x0 d0 b0 x1 d1 b1 l I ol PI (bd + 5) turn s'.heap → wpC (model prog w) (callerA.deeper (lawEnv L fa cd)) (execs [lastStmt] (lawEnv L fa cd)) Post (fun _ _ => False) s' :=
    fun s' e1 e2 S' => last_if T B KX hA (by omega) S' (fun s'' e3 e4 => q s'' (e3.trans e1) (e4.trans e2))
  obtain ⟨m, r0, r1, oc, oI, tm, tt, tn, tw, tp, tk, tdt, ta, tb, tc, td, tp0, tp1, u0, u1, row0, row1, p0, p1, vs0, vs1, n0, n1, nf, nr, np, F, N, hoc, hPI, hi0, hi1, hr0, hr1, hl0, hl1, hp0, hp0', hp1, hp1', hR0, hR1, hR⟩ := S
  have hA' := hA
  have hR0' := hR0
  have hR1' := hR1
  simp only [Chain, Off, and_true] at hA hR0 hR1
  have hz0 : (byteArr row0).size ≤ 1000 := by rw [byteArr_size]; omega
  have hz1 : (byteArr row1).size ≤ 1000 := by rw [byteArr_size]; omega
  rw [hk] at F
  dsimp only [lastStmt, kindStmt, endStmts, lawEnv, lawScope, lawFn] at q ⊢
  rcases h01 with h01 | h01 <;> subst h01
  all_goals simp only [if_true, if_false, Int.one_ne_zero] at F
  · refine cExecsA ?_
    (k_with "pyIter ref" => k_state_given ["row"] (fun row pre d => d.length ≤ pre.length ∧ d = toldOf row pre) "told")
    (k_with "state" => (refine ⟨?_, ?_⟩ <;> simp_all [toldOf, List.filter_append] <;> omega))
    k_steps
    rename _ = toldOf _ _ => hset
    rename _ ≤ (rangeKs _ _).length => hle
    rename News h₀ L _ _ => N1
    rw [rangeKs_length] at hle
    have hm1 := fmod_lo (n.fdiv 7) (n := 9) (by decide)
    have hm2 := fmod_hi (n.fdiv 7) (n := 9) (by decide)
    have hpk := picked_byte row0 (p := p0) (q := p0 + (n.fdiv 7).fmod 9) hp0 (by omega)
    have hn1 : (p0 + (n.fdiv 7).fmod 9).toNat - p0.toNat = (p0 + (n.fdiv 7).fmod 9 - p0).toNat := by omega
    rw [hn1, ← told_eq row0 hp0, ← hset] at hpk
    have hin := told_in (ks := rangeKs p0 (p0 + (n.fdiv 7).fmod 9 - p0).toNat) hr0
    rw [← hset] at hin
    have hfl := congrArg List.length hset
    rw [told_eq row0 hp0, List.length_take, List.length_drop] at hfl
    rw [hpk] at N1 ⊢
    k_steps
    all_goals first
      | (rename (_ != _) = true => hbad; exact absurd hbad (by simp))
      | ((try dsimp only); rename Fr h₀ L _ _ => F9; rename News h₀ L _ _ => N9; (try rw [byteArr_size] at N9); exact q _ rfl rfl ⟨_, r0, r1, oc, oI, _, _, _, _, _, _, _, _, _, _, row0, row1, _, _, vs0, vs1, n0, n1, _, _, _, frSK4 F9 rfl rfl rfl rfl, sub_led N9 (fun p hp => .tail _ (.tail _ hp)), hoc, hPI, hi0, hi1, hr0, hr1, by omega, by omega, by omega, by omega, by omega, by omega, hR0', hR1', hR⟩)
  · refine cExecsA ?_
    (k_with "pyIter ref" => k_state_given ["row"] (fun row pre d => d.length ≤ pre.length ∧ d = toldOf row pre) "told")
    (k_with "state" => (refine ⟨?_, ?_⟩ <;> simp_all [toldOf, List.filter_append] <;> omega))
    k_steps
    rename _ = toldOf _ _ => hset
    rename _ ≤ (rangeKs _ _).length => hle
    rename News h₀ L _ _ => N1
    rw [rangeKs_length] at hle
    have hm1 := fmod_lo (n.fdiv 7) (n := 9) (by decide)
    have hm2 := fmod_hi (n.fdiv 7) (n := 9) (by decide)
    have hpk := picked_byte row1 (p := p1) (q := p1 + (n.fdiv 7).fmod 9) hp1 (by omega)
    have hn1 : (p1 + (n.fdiv 7).fmod 9).toNat - p1.toNat = (p1 + (n.fdiv 7).fmod 9 - p1).toNat := by omega
    rw [hn1, ← told_eq row1 hp1, ← hset] at hpk
    have hin := told_in (ks := rangeKs p1 (p1 + (n.fdiv 7).fmod 9 - p1).toNat) hr1
    rw [← hset] at hin
    have hfl := congrArg List.length hset
    rw [told_eq row1 hp1, List.length_take, List.length_drop] at hfl
    rw [hpk] at N1 ⊢
    k_steps
    all_goals first
      | (rename (_ != _) = true => hbad; exact absurd hbad (by simp))
      | ((try dsimp only); rename Fr h₀ L _ _ => F9; rename News h₀ L _ _ => N9; (try rw [byteArr_size] at N9); exact q _ rfl rfl ⟨_, r0, r1, oc, oI, _, _, _, _, _, _, _, _, _, _, row0, row1, _, _, vs0, vs1, n0, n1, _, _, _, frSK4 F9 rfl rfl rfl rfl, sub_led N9 (fun p hp => .tail _ (.tail _ hp)), hoc, hPI, hi0, hi1, hr0, hr1, by omega, by omega, by omega, by omega, by omega, by omega, hR0', hR1', hR⟩)

end
end Mine
end

section
open PySem PySem.W PySem.Calls PyProof.Rows PySem.Spec
set_option Elab.async false
namespace Mine
set_option maxRecDepth 100000
set_option maxHeartbeats 4000000
theorem fillK5 : PySem.Challenge.rw_ad6002_01 = PySem.Challenge.rw_ad6002_01 ∧ hd.heap_39 = hd.heap_39 := by
  k_with_none
  w_top off
  k_fill
  exact ⟨rfl, rfl⟩
local macro_rules | `(tactic| walk_at "call builtin:len") => `(tactic| (k_here; (with_reducible show wpAny _ _ (call (Value.builtin "len") [Value.bytes _ _]) _ _ _); k_dflt (refine' len_bytes ?z ?_; (case z => omega); k_whole)))
local macro_rules | `(tactic| walk_at "call builtin:len") => `(tactic| (k_here; (with_reducible show wpAny _ _ (call (Value.builtin "len") [Value.ref _]) _ _ _); k_dflt (refine' k_len_ba ?N ?m ?z ?_; (case N => k_asm); (case m => k_mem); (case z => first | assumption | omega); k_whole)))
local macro_rules | `(tactic| walk_at "subscriptTail") => `(tactic| (k_here; (with_reducible show wpAny _ _ (subscriptTail _ (Expr.Slice _ _ none _) (Value.ref _) (Value.ref _)) _ _ _); (with_reducible rename Fr _ _ _ _ => F'); (with_reducible rename News _ _ _ _ => N'); k_dflt (refine' k_slice_ba (s := ⟨_, _, _, _, _⟩) F' N' ?m ?hl ?hu ?z ?_; (case m => k_mem); (case hl => constructor); (case hu => constructor); (case z => first | assumption | omega); k_whole); intro y' h' F' N' l1; (try k_lt l1)))
local macro_rules | `(tactic| walk_at "call type:bytes") => `(tactic| (k_here; (with_reducible show wpAny _ _ (call (Value.type "bytes") [Value.ref _]) _ _ _); k_dflt (refine' k_bytes_ba ?N ?m ?z ?_; (case N => k_asm); (case m => k_mem); (case z => first | assumption | omega | exact Nat.le_trans (KBc.size_picked_le _ _ _) (by first | assumption | omega)); k_whole); intro _ _))
local macro_rules | `(tactic| k_room) => `(tactic| ((try simp only [depth_deeper]); omega))
local macro_rules | `(tactic| k_ne) => `(tactic| (refine neN ?_; (try dsimp only); first | exact Off.ne (by assumption) (by k_mem) | exact (Off.ne (by assumption) (by k_mem)).symm | omega))
local macro_rules | `(tactic| walk_at "exec If") => `(tactic| (with_reducible refine wpAny_If ?_))
local macro_rules | `(tactic| walk_at "InvEndN") => `(tactic| k_dflt kst_close)
local macro_rules | `(tactic| walk_at "setItem ref int") => `(tactic| (k_here; k_dflt (refine' ki_set ?F ?N ?a ?b ?e ?U ?_; (case a => decide); (case b => decide); (case F => k_asm); (case N => k_asm); (case U => k_upd); (case e => rfl)); ki_rest))
theorem frSK5 {h₀ h : Heap} {L fl rw pc : Addr} {turn : Int} {tt : Tok} {m : Str → Option Value} (F : Fr h₀ L h m) (e9 : m (Str.ofString "files") = some (.ref fl)) (e10 : m (Str.ofString "rows") = some (.ref rw)) (e11 : m (Str.ofString "places") = some (.ref pc))
    (e6 : m (Str.ofString "turn") = some (.int turn tt)) : Fr h₀ L h (mapOf fl rw pc turn tt m) := by
  have e := map_canon e9 e10 e11 e6
  rw [e] at F
  exact F
theorem slice_in {vs : List Value} {a b : Nat} {row : List Int} (_ : IntsAre vs (List.take a (List.drop b row))) (h : KBa.In row) : KBa.In (List.take a (List.drop b row)) := fun x hx => h x (List.mem_of_mem_drop (List.mem_of_mem_take hx))
theorem take_min (row : List Int) (u v : Nat) : (row.drop u).take (min v row.length - u) = (row.drop u).take (v - u) := by
  by_cases h : v ≤ row.length
  · rw [Nat.min_eq_left h]
  · rw [Nat.min_eq_right (by omega), List.take_of_length_le (by rw [List.length_drop]; omega), List.take_of_length_le (by rw [List.length_drop]; omega)]
def Stopped (P : Prop) : Prop := P
theorem stopped {P : Prop} (h : Stopped P) : P := h
local macro_rules | `(tactic| walk_at "exec Try") => `(tactic| (k_here; refine wpAny_Try_except ?_))
local macro_rules | `(tactic| walk_at "call ref") => `(tactic| ((with_reducible show wpAny _ _ (call (Value.ref 42) _) _ _ _); refine stopped ?_))

section
set_option pp.deepTerms false
set_option pp.deepTerms.threshold 7
set_option pp.proofs false
variable {prog : Program} {w : World} {s : Shared} {h₀ : Heap} {L fa : Addr} {cd : Value} {mg mb m₁ : Str → Option Value} {p : Program} {loose : List Str} {mean : ExcName → Option Value}
  {fl rw pc x0 d0 b0 x1 d1 b1 l I : Addr} {bd turn n wh : Int} {tn : Tok} {ol : Obj} {PI : Obj → Prop} {Post : Flow → Shared → Prop}
theorem kind_5 (T : Top p loose mean mg mb h₀) (B : Below callerA h₀ [] h₀) (KX : (hd.heap_39 w.params).In h₀)
    (hA : Chain [L + 1, d0, x0, b0, d1, x1, b1, fl, rw, pc, l, I]) (hb : bd ≤ 200) (hb0 : 40 ≤ bd) (hk : n.fmod 7 = 5) (h01 : wh = 0 ∨ wh = 1)
    (S : StH w.params h₀ L fl rw pc x0 d0 b0 x1 d1 b1 l I ol PI bd turn n wh s.heap)
    (q : ∀ s', s'.gens = s.gens → s'.os = s.os → St w.params h₀ L fl rw pc x0 d0 b0 x1 d1 b1 l I ol PI (bd + 5) turn s'.heap → Post .next s') :
    wpC (model prog w) (callerA.deeper (lawEnv L fa cd)) (execs [kindStmt, lastStmt] (lawEnv L fa cd)) Post (fun _ _ => False) s := by
  have q : ∀ s', s'.gens = s.gens → s'.os = s.os → St w.params h₀ L fl rw pc x0 d0 b0 x1 d1 b1 l I ol PI (bd + 5) turn s'.heap → wpC (model prog w) (callerA.deeper (lawEnv L fa cd)) (execs [lastStmt] (lawEnv L fa cd)) Post (fun _ _ => False) s' :=
    fun s' e1 e2 S' => last_if T B KX hA (by omega) S' (fun s'' e3 e4 => q s'' (e3.trans e1) (e4.trans e2))
  obtain ⟨m, r0, r1, oc, oI, tm, tt, tn, tw, tp, tk, tdt, ta, tb, tc, td, tp0, tp1, u0, u1, row0, row1, p0, p1, vs0, vs1, n0, n1, nf, nr, np, F, N, hoc, hPI, hi0, hi1, hr0, hr1, hl0, hl1, hp0, hp0', hp1, hp1', hR0, hR1, hR⟩ := S
  have hA' := hA
  have hR0' := hR0
  have hR1' := hR1
  simp only [Chain, Off, and_true] at hA hR0 hR1
  have hz0 : (byteArr row0).size ≤ 1000 := by rw [byteArr_size]; omega
  have hz1 : (byteArr row1).size ≤ 1000 := by rw [byteArr_size]; omega
  rw [hk] at F
  dsimp only [lastStmt, kindStmt, endStmts, lawEnv, lawScope, lawFn] at q ⊢
  rcases h01 with h01 | h01 <;> subst h01
  all_goals simp only [if_true, if_false, Int.one_ne_zero] at F
  · have hs1 := fmod_lo ((n.fdiv 7).fdiv 9) (n := 12) (by decide)
    have hs2 := fmod_hi ((n.fdiv 7).fdiv 9) (n := 12) (by decide)
    have hs3 := fmod_lo (n.fdiv 7) (n := 9) (by decide)
    have hs4 := fmod_hi (n.fdiv 7) (n := 9) (by decide)
    refine cExecsA ?_
    k_steps
    · rename Fr h₀ L _ _ => F1
      rename News h₀ L _ _ => N1
      have hN1 : News h₀ L _ ((x0, instObj 88 d0) :: (d0, octDict w.params ta tb b0 p0 tp0) :: (b0, baObj (byteArr row0)) :: [(L + 1, oc), (x1, instObj 88 d1), (d1, octDict w.params tc td b1 p1 tp1), (b1, baObj (byteArr row1)), (r0, listOf vs0.toArray n0), (r1, listOf vs1.toArray n1), (fl, listOf #[.ref x0, .ref x1] nf), (rw, listOf #[.ref r0, .ref r1] nr), (pc, listOf #[.int p0 u0, .int p1 u1] np), (l, ol), (I, oI)]) := sub_led N1 (by (repeat' (first | exact List.forall_mem_nil _ | refine List.forall_mem_cons.mpr ⟨?_, ?_⟩ | exact List.Mem.head _ | apply List.Mem.tail)))
      show wpAny (model prog w) (aroundOf _ _ _ []) _ _ _ _
      refine rff_back B F1 KX hN1 T rfl rfl (by decide) (by decide) (by omega) hp0 (by omega) (by omega) (by omega) (by omega) (by omega) (by k_ne) (by k_ne) (by k_ne) (by (repeat' (first | exact List.forall_mem_nil _ | refine List.forall_mem_cons.mpr ⟨?_, ?_⟩ | k_ne))) (by assumption) (fun g9 h9 e9 t9 tk9 F9 U9 R9 => ?_)
      (try dsimp only)
      refine caughtX B F9 U9 R9 rfl (fun _ ob F7 ho hc => takes_B F7 KX (topRead_of T) (by k_is) PyProof.Rows.Boot.«AssertionError» (by decide) PySem.F.isExc_AssertionError PySem.F.notTuple_AssertionError (by rw [isSubtype_type]; kernel_rfl) ⟨ob, ho, hc⟩) (fun h8 F8 N8 => ?_)
      have N7 : News h₀ L h8 [(L + 1, oc), (x0, instObj 88 d0), (d0, octDict w.params ta tb b0 p0 tp0), (b0, baObj (byteArr row0)), (x1, instObj 88 d1), (d1, octDict w.params tc td b1 p1 tp1), (b1, baObj (byteArr row1)), (r0, listOf vs0.toArray n0), (r1, listOf vs1.toArray n1), (fl, listOf #[.ref x0, .ref x1] nf), (rw, listOf #[.ref r0, .ref r1] nr), (pc, listOf #[.int p0 u0, .int p1 u1] np), (l, ol), (I, oI)] := sub_led N8 (by (repeat' (first | exact List.forall_mem_nil _ | refine List.forall_mem_cons.mpr ⟨?_, ?_⟩ | exact List.Mem.head _ | apply List.Mem.tail)))
      clear F1 N1 hN1 F9 N8 U9 R9
      (try dsimp only)
      (try k_fold)
      k_steps
      (try dsimp only)
      rename Fr h₀ L _ _ => F9
      rename News h₀ L _ _ => N9
      exact q _ rfl rfl ⟨_, r0, r1, oc, oI, _, _, _, _, _, _, _, _, _, _, row0, row1, _, _, vs0, vs1, n0, n1, _, _, _, frSK5 F9 rfl rfl rfl rfl, N9, hoc, hPI, hi0, hi1, hr0, hr1, by omega, by omega, by omega, by omega, by omega, by omega, hR0', hR1', hR⟩
    · rename Fr h₀ L _ _ => F1
      rename News h₀ L _ _ => N1
      have hN1 : News h₀ L _ ((x0, instObj 88 d0) :: (d0, octDict w.params ta tb b0 p0 tp0) :: (b0, baObj (byteArr row0)) :: [(L + 1, oc), (x1, instObj 88 d1), (d1, octDict w.params tc td b1 p1 tp1), (b1, baObj (byteArr row1)), (r0, listOf vs0.toArray n0), (r1, listOf vs1.toArray n1), (fl, listOf #[.ref x0, .ref x1] nf), (rw, listOf #[.ref r0, .ref r1] nr), (pc, listOf #[.int p0 u0, .int p1 u1] np), (l, ol), (I, oI)]) := sub_led N1 (by (repeat' (first | exact List.forall_mem_nil _ | refine List.forall_mem_cons.mpr ⟨?_, ?_⟩ | exact List.Mem.head _ | apply List.Mem.tail)))
      show wpAny (model prog w) (aroundOf _ _ _ []) _ _ _ _
      refine rff_short B F1 KX hN1 T rfl rfl (by decide) (by decide) (by omega) hp0 (by omega) (by omega) (by omega) (by omega) (by omega) (by k_ne) (by k_ne) (by k_ne) (by (repeat' (first | exact List.forall_mem_nil _ | refine List.forall_mem_cons.mpr ⟨?_, ?_⟩ | k_ne))) hr0 (by assumption) (by assumption) (fun g9 h9 e9 t9 vs9 tk9 pl9 tp9 hpl F9 U9 R9 => ?_)
      (try dsimp only)
      refine caughtX B F9 U9 R9 rfl (fun _ ob F7 ho hc => takes_O F7 KX (topRead_of T) (by k_is) (by kts_isx) ho hc) (fun h8 F8 N8 => ?_)
      have N7 : News h₀ L h8 [(L + 1, oc), (x0, instObj 88 d0), (d0, octDict w.params ta tb b0 pl9 tp9), (b0, baObj (byteArr row0)), (x1, instObj 88 d1), (d1, octDict w.params tc td b1 p1 tp1), (b1, baObj (byteArr row1)), (r0, listOf vs0.toArray n0), (r1, listOf vs1.toArray n1), (fl, listOf #[.ref x0, .ref x1] nf), (rw, listOf #[.ref r0, .ref r1] nr), (pc, listOf #[.int p0 u0, .int p1 u1] np), (l, ol), (I, oI)] := sub_led N8 (by (repeat' (first | exact List.forall_mem_nil _ | refine List.forall_mem_cons.mpr ⟨?_, ?_⟩ | exact List.Mem.head _ | apply List.Mem.tail)))
      clear F1 N1 hN1 F9 N8 U9 R9
      (try dsimp only)
      (try k_fold)
      k_steps
      · (try dsimp only)
        rename Fr h₀ L _ _ => F9
        rename News h₀ L _ _ => N9
        obtain rfl : pl9 = ((n.fdiv 7).fdiv 9).fmod 12 := by rw [hpl]; split <;> omega
        exact q _ rfl rfl ⟨_, r0, r1, oc, oI, _, _, _, _, _, _, _, _, _, _, row0, row1, _, _, vs0, vs1, n0, n1, _, _, _, frSK5 F9 rfl rfl rfl rfl, N9, hoc, hPI, hi0, hi1, hr0, hr1, by omega, by omega, by omega, by omega, by omega, by omega, hR0', hR1', hR⟩
      · (try dsimp only)
        rename Fr h₀ L _ _ => F9
        rename News h₀ L _ _ => N9
        obtain rfl : pl9 = (row0.length : Int) := by rw [hpl]; split <;> omega
        exact q _ rfl rfl ⟨_, r0, r1, oc, oI, _, _, _, _, _, _, _, _, _, _, row0, row1, _, _, vs0, vs1, n0, n1, _, _, _, frSK5 F9 rfl rfl rfl rfl, N9, hoc, hPI, hi0, hi1, hr0, hr1, by omega, by omega, by omega, by omega, by omega, by omega, hR0', hR1', hR⟩
    · rename Fr h₀ L _ _ => F1
      rename News h₀ L _ _ => N1
      have hN1 : News h₀ L _ ((x0, instObj 88 d0) :: (d0, octDict w.params ta tb b0 p0 tp0) :: (b0, baObj (byteArr row0)) :: [(L + 1, oc), (x1, instObj 88 d1), (d1, octDict w.params tc td b1 p1 tp1), (b1, baObj (byteArr row1)), (r0, listOf vs0.toArray n0), (r1, listOf vs1.toArray n1), (fl, listOf #[.ref x0, .ref x1] nf), (rw, listOf #[.ref r0, .ref r1] nr), (pc, listOf #[.int p0 u0, .int p1 u1] np), (l, ol), (I, oI)]) := sub_led N1 (by (repeat' (first | exact List.forall_mem_nil _ | refine List.forall_mem_cons.mpr ⟨?_, ?_⟩ | exact List.Mem.head _ | apply List.Mem.tail)))
      show wpAny (model prog w) (aroundOf _ _ _ []) _ _ _ _
      refine rff_ok B F1 KX hN1 T rfl rfl (by decide) (by decide) (by omega) hp0 (by omega) (by omega) (by omega) (by omega) (by omega) (by k_ne) (by k_ne) (by k_ne) (by (repeat' (first | exact List.forall_mem_nil _ | refine List.forall_mem_cons.mpr ⟨?_, ?_⟩ | k_ne))) hr0 (by omega) (by omega) (fun h8 tk8 t8 pl9 tp9 hpl F8 N8 => ?_)
      have N7 : News h₀ L h8 [(L + 1, oc), (x0, instObj 88 d0), (d0, octDict w.params ta tb b0 pl9 tp9), (b0, baObj (byteArr row0)), (x1, instObj 88 d1), (d1, octDict w.params tc td b1 p1 tp1), (b1, baObj (byteArr row1)), (r0, listOf vs0.toArray n0), (r1, listOf vs1.toArray n1), (fl, listOf #[.ref x0, .ref x1] nf), (rw, listOf #[.ref r0, .ref r1] nr), (pc, listOf #[.int p0 u0, .int p1 u1] np), (l, ol), (I, oI)] := sub_led N8 (by (repeat' (first | exact List.forall_mem_nil _ | refine List.forall_mem_cons.mpr ⟨?_, ?_⟩ | exact List.Mem.head _ | apply List.Mem.tail)))
      clear F1 N1 hN1 N8
      (try dsimp only)
      (try k_fold)
      k_steps
      rename IntsAre _ (List.take _ _) => hI9
      have hin9 := slice_in hI9 hr0
      rw [take_min] at hI9 hin9
      k_steps
      all_goals first
        | (rename (_ != _) = true => hbad; exact absurd hbad (by simp))
        | ((try dsimp only); rename Fr h₀ L _ _ => F9; rename News h₀ L _ _ => N9; subst hpl; exact q _ rfl rfl ⟨_, r0, r1, oc, oI, _, _, _, _, _, _, _, _, _, _, row0, row1, _, _, vs0, vs1, n0, n1, _, _, _, frSK5 F9 rfl rfl rfl rfl, sub_led N9 (fun p hp => .tail _ hp), hoc, hPI, hi0, hi1, hr0, hr1, by omega, by omega, by omega, by omega, by omega, by omega, hR0', hR1', hR⟩)
    · rename Fr h₀ L _ _ => F1
      rename News h₀ L _ _ => N1
      have hN1 : News h₀ L _ ((x0, instObj 88 d0) :: (d0, octDict w.params ta tb b0 p0 tp0) :: (b0, baObj (byteArr row0)) :: [(L + 1, oc), (x1, instObj 88 d1), (d1, octDict w.params tc td b1 p1 tp1), (b1, baObj (byteArr row1)), (r0, listOf vs0.toArray n0), (r1, listOf vs1.toArray n1), (fl, listOf #[.ref x0, .ref x1] nf), (rw, listOf #[.ref r0, .ref r1] nr), (pc, listOf #[.int p0 u0, .int p1 u1] np), (l, ol), (I, oI)]) := sub_led N1 (by (repeat' (first | exact List.forall_mem_nil _ | refine List.forall_mem_cons.mpr ⟨?_, ?_⟩ | exact List.Mem.head _ | apply List.Mem.tail)))
      show wpAny (model prog w) (aroundOf _ _ _ []) _ _ _ _
      refine rff_ok B F1 KX hN1 T rfl rfl (by decide) (by decide) (by omega) hp0 (by omega) (by omega) (by omega) (by omega) (by omega) (by k_ne) (by k_ne) (by k_ne) (by (repeat' (first | exact List.forall_mem_nil _ | refine List.forall_mem_cons.mpr ⟨?_, ?_⟩ | k_ne))) hr0 (by omega) (by omega) (fun h8 tk8 t8 pl9 tp9 hpl F8 N8 => ?_)
      have N7 : News h₀ L h8 [(L + 1, oc), (x0, instObj 88 d0), (d0, octDict w.params ta tb b0 pl9 tp9), (b0, baObj (byteArr row0)), (x1, instObj 88 d1), (d1, octDict w.params tc td b1 p1 tp1), (b1, baObj (byteArr row1)), (r0, listOf vs0.toArray n0), (r1, listOf vs1.toArray n1), (fl, listOf #[.ref x0, .ref x1] nf), (rw, listOf #[.ref r0, .ref r1] nr), (pc, listOf #[.int p0 u0, .int p1 u1] np), (l, ol), (I, oI)] := sub_led N8 (by (repeat' (first | exact List.forall_mem_nil _ | refine List.forall_mem_cons.mpr ⟨?_, ?_⟩ | exact List.Mem.head _ | apply List.Mem.tail)))
      clear F1 N1 hN1 N8
      (try dsimp only)
      (try k_fold)
      k_steps
      rename IntsAre _ (List.take _ _) => hI9
      have hin9 := slice_in hI9 hr0
      rw [take_min] at hI9 hin9
      k_steps
      all_goals first
        | (rename (_ != _) = true => hbad; exact absurd hbad (by simp))
        | ((try dsimp only); rename Fr h₀ L _ _ => F9; rename News h₀ L _ _ => N9; subst hpl; exact q _ rfl rfl ⟨_, r0, r1, oc, oI, _, _, _, _, _, _, _, _, _, _, row0, row1, _, _, vs0, vs1, n0, n1, _, _, _, frSK5 F9 rfl rfl rfl rfl, sub_led N9 (fun p hp => .tail _ hp), hoc, hPI, hi0, hi1, hr0, hr1, by omega, by omega, by omega, by omega, by omega, by omega, hR0', hR1', hR⟩)
  · have hs1 := fmod_lo ((n.fdiv 7).fdiv 9) (n := 12) (by decide)
    have hs2 := fmod_hi ((n.fdiv 7).fdiv 9) (n := 12) (by decide)
    have hs3 := fmod_lo (n.fdiv 7) (n := 9) (by decide)
    have hs4 := fmod_hi (n.fdiv 7) (n := 9) (by decide)
    refine cExecsA ?_
    k_steps
    · rename Fr h₀ L _ _ => F1
      rename News h₀ L _ _ => N1
      have hN1 : News h₀ L _ ((x1, instObj 88 d1) :: (d1, octDict w.params tc td b1 p1 tp1) :: (b1, baObj (byteArr row1)) :: [(L + 1, oc), (x0, instObj 88 d0), (d0, octDict w.params ta tb b0 p0 tp0), (b0, baObj (byteArr row0)), (r0, listOf vs0.toArray n0), (r1, listOf vs1.toArray n1), (fl, listOf #[.ref x0, .ref x1] nf), (rw, listOf #[.ref r0, .ref r1] nr), (pc, listOf #[.int p0 u0, .int p1 u1] np), (l, ol), (I, oI)]) := sub_led N1 (by (repeat' (first | exact List.forall_mem_nil _ | refine List.forall_mem_cons.mpr ⟨?_, ?_⟩ | exact List.Mem.head _ | apply List.Mem.tail)))
      show wpAny (model prog w) (aroundOf _ _ _ []) _ _ _ _
      refine rff_back B F1 KX hN1 T rfl rfl (by decide) (by decide) (by omega) hp1 (by omega) (by omega) (by omega) (by omega) (by omega) (by k_ne) (by k_ne) (by k_ne) (by (repeat' (first | exact List.forall_mem_nil _ | refine List.forall_mem_cons.mpr ⟨?_, ?_⟩ | k_ne))) (by assumption) (fun g9 h9 e9 t9 tk9 F9 U9 R9 => ?_)
      (try dsimp only)
      refine caughtX B F9 U9 R9 rfl (fun _ ob F7 ho hc => takes_B F7 KX (topRead_of T) (by k_is) PyProof.Rows.Boot.«AssertionError» (by decide) PySem.F.isExc_AssertionError PySem.F.notTuple_AssertionError (by rw [isSubtype_type]; kernel_rfl) ⟨ob, ho, hc⟩) (fun h8 F8 N8 => ?_)
      have N7 : News h₀ L h8 [(L + 1, oc), (x0, instObj 88 d0), (d0, octDict w.params ta tb b0 p0 tp0), (b0, baObj (byteArr row0)), (x1, instObj 88 d1), (d1, octDict w.params tc td b1 p1 tp1), (b1, baObj (byteArr row1)), (r0, listOf vs0.toArray n0), (r1, listOf vs1.toArray n1), (fl, listOf #[.ref x0, .ref x1] nf), (rw, listOf #[.ref r0, .ref r1] nr), (pc, listOf #[.int p0 u0, .int p1 u1] np), (l, ol), (I, oI)] := sub_led N8 (by (repeat' (first | exact List.forall_mem_nil _ | refine List.forall_mem_cons.mpr ⟨?_, ?_⟩ | exact List.Mem.head _ | apply List.Mem.tail)))
      clear F1 N1 hN1 F9 N8 U9 R9
      (try dsimp only)
      (try k_fold)
      k_steps
      (try dsimp only)
      rename Fr h₀ L _ _ => F9
      rename News h₀ L _ _ => N9
      exact q _ rfl rfl ⟨_, r0, r1, oc, oI, _, _, _, _, _, _, _, _, _, _, row0, row1, _, _, vs0, vs1, n0, n1, _, _, _, frSK5 F9 rfl rfl rfl rfl, N9, hoc, hPI, hi0, hi1, hr0, hr1, by omega, by omega, by omega, by omega, by omega, by omega, hR0', hR1', hR⟩
    · rename Fr h₀ L _ _ => F1
      rename News h₀ L _ _ => N1
      have hN1 : News h₀ L _ ((x1, instObj 88 d1) :: (d1, octDict w.params tc td b1 p1 tp1) :: (b1, baObj (byteArr row1)) :: [(L + 1, oc), (x0, instObj 88 d0), (d0, octDict w.params ta tb b0 p0 tp0), (b0, baObj (byteArr row0)), (r0, listOf vs0.toArray n0), (r1, listOf vs1.toArray n1), (fl, listOf #[.ref x0, .ref x1] nf), (rw, listOf #[.ref r0, .ref r1] nr), (pc, listOf #[.int p0 u0, .int p1 u1] np), (l, ol), (I, oI)]) := sub_led N1 (by (repeat' (first | exact List.forall_mem_nil _ | refine List.forall_mem_cons.mpr ⟨?_, ?_⟩ | exact List.Mem.head _ | apply List.Mem.tail)))
      show wpAny (model prog w) (aroundOf _ _ _ []) _ _ _ _
      refine rff_short B F1 KX hN1 T rfl rfl (by decide) (by decide) (by omega) hp1 (by omega) (by omega) (by omega) (by omega) (by omega) (by k_ne) (by k_ne) (by k_ne) (by (repeat' (first | exact List.forall_mem_nil _ | refine List.forall_mem_cons.mpr ⟨?_, ?_⟩ | k_ne))) hr1 (by assumption) (by assumption) (fun g9 h9 e9 t9 vs9 tk9 pl9 tp9 hpl F9 U9 R9 => ?_)
      (try dsimp only)
      refine caughtX B F9 U9 R9 rfl (fun _ ob F7 ho hc => takes_O F7 KX (topRead_of T) (by k_is) (by kts_isx) ho hc) (fun h8 F8 N8 => ?_)
      have N7 : News h₀ L h8 [(L + 1, oc), (x0, instObj 88 d0), (d0, octDict w.params ta tb b0 p0 tp0), (b0, baObj (byteArr row0)), (x1, instObj 88 d1), (d1, octDict w.params tc td b1 pl9 tp9), (b1, baObj (byteArr row1)), (r0, listOf vs0.toArray n0), (r1, listOf vs1.toArray n1), (fl, listOf #[.ref x0, .ref x1] nf), (rw, listOf #[.ref r0, .ref r1] nr), (pc, listOf #[.int p0 u0, .int p1 u1] np), (l, ol), (I, oI)] := sub_led N8 (by (repeat' (first | exact List.forall_mem_nil _ | refine List.forall_mem_cons.mpr ⟨?_, ?_⟩ | exact List.Mem.head _ | apply List.Mem.tail)))
      clear F1 N1 hN1 F9 N8 U9 R9
      (try dsimp only)
      (try k_fold)
      k_steps
      · (try dsimp only)
        rename Fr h₀ L _ _ => F9
        rename News h₀ L _ _ => N9
        obtain rfl : pl9 = ((n.fdiv 7).fdiv 9).fmod 12 := by rw [hpl]; split <;> omega
        exact q _ rfl rfl ⟨_, r0, r1, oc, oI, _, _, _, _, _, _, _, _, _, _, row0, row1, _, _, vs0, vs1, n0, n1, _, _, _, frSK5 F9 rfl rfl rfl rfl, N9, hoc, hPI, hi0, hi1, hr0, hr1, by omega, by omega, by omega, by omega, by omega, by omega, hR0', hR1', hR⟩
      · (try dsimp only)
        rename Fr h₀ L _ _ => F9
        rename News h₀ L _ _ => N9
        obtain rfl : pl9 = (row1.length : Int) := by rw [hpl]; split <;> omega
        exact q _ rfl rfl ⟨_, r0, r1, oc, oI, _, _, _, _, _, _, _, _, _, _, row0, row1, _, _, vs0, vs1, n0, n1, _, _, _, frSK5 F9 rfl rfl rfl rfl, N9, hoc, hPI, hi0, hi1, hr0, hr1, by omega, by omega, by omega, by omega, by omega, by omega, hR0', hR1', hR⟩
    · rename Fr h₀ L _ _ => F1
      rename News h₀ L _ _ => N1
      have hN1 : News h₀ L _ ((x1, instObj 88 d1) :: (d1, octDict w.params tc td b1 p1 tp1) :: (b1, baObj (byteArr row1)) :: [(L + 1, oc), (x0, instObj 88 d0), (d0, octDict w.params ta tb b0 p0 tp0), (b0, baObj (byteArr row0)), (r0, listOf vs0.toArray n0), (r1, listOf vs1.toArray n1), (fl, listOf #[.ref x0, .ref x1] nf), (rw, listOf #[.ref r0, .ref r1] nr), (pc, listOf #[.int p0 u0, .int p1 u1] np), (l, ol), (I, oI)]) := sub_led N1 (by (repeat' (first | exact List.forall_mem_nil _ | refine List.forall_mem_cons.mpr ⟨?_, ?_⟩ | exact List.Mem.head _ | apply List.Mem.tail)))
      show wpAny (model prog w) (aroundOf _ _ _ []) _ _ _ _
      refine rff_ok B F1 KX hN1 T rfl rfl (by decide) (by decide) (by omega) hp1 (by omega) (by omega) (by omega) (by omega) (by omega) (by k_ne) (by k_ne) (by k_ne) (by (repeat' (first | exact List.forall_mem_nil _ | refine List.forall_mem_cons.mpr ⟨?_, ?_⟩ | k_ne))) hr1 (by omega) (by omega) (fun h8 tk8 t8 pl9 tp9 hpl F8 N8 => ?_)
      have N7 : News h₀ L h8 [(L + 1, oc), (x0, instObj 88 d0), (d0, octDict w.params ta tb b0 p0 tp0), (b0, baObj (byteArr row0)), (x1, instObj 88 d1), (d1, octDict w.params tc td b1 pl9 tp9), (b1, baObj (byteArr row1)), (r0, listOf vs0.toArray n0), (r1, listOf vs1.toArray n1), (fl, listOf #[.ref x0, .ref x1] nf), (rw, listOf #[.ref r0, .ref r1] nr), (pc, listOf #[.int p0 u0, .int p1 u1] np), (l, ol), (I, oI)] := sub_led N8 (by (repeat' (first | exact List.forall_mem_nil _ | refine List.forall_mem_cons.mpr ⟨?_, ?_⟩ | exact List.Mem.head _ | apply List.Mem.tail)))
      clear F1 N1 hN1 N8
      (try dsimp only)
      (try k_fold)
      k_steps
      rename IntsAre _ (List.take _ _) => hI9
      have hin9 := slice_in hI9 hr1
      rw [take_min] at hI9 hin9
      k_steps
      all_goals first
        | (rename (_ != _) = true => hbad; exact absurd hbad (by simp))
        | ((try dsimp only); rename Fr h₀ L _ _ => F9; rename News h₀ L _ _ => N9; subst hpl; exact q _ rfl rfl ⟨_, r0, r1, oc, oI, _, _, _, _, _, _, _, _, _, _, row0, row1, _, _, vs0, vs1, n0, n1, _, _, _, frSK5 F9 rfl rfl rfl rfl, sub_led N9 (fun p hp => .tail _ hp), hoc, hPI, hi0, hi1, hr0, hr1, by omega, by omega, by omega, by omega, by omega, by omega, hR0', hR1', hR⟩)
    · rename Fr h₀ L _ _ => F1
      rename News h₀ L _ _ => N1
      have hN1 : News h₀ L _ ((x1, instObj 88 d1) :: (d1, octDict w.params tc td b1 p1 tp1) :: (b1, baObj (byteArr row1)) :: [(L + 1, oc), (x0, instObj 88 d0), (d0, octDict w.params ta tb b0 p0 tp0), (b0, baObj (byteArr row0)), (r0, listOf vs0.toArray n0), (r1, listOf vs1.toArray n1), (fl, listOf #[.ref x0, .ref x1] nf), (rw, listOf #[.ref r0, .ref r1] nr), (pc, listOf #[.int p0 u0, .int p1 u1] np), (l, ol), (I, oI)]) := sub_led N1 (by (repeat' (first | exact List.forall_mem_nil _ | refine List.forall_mem_cons.mpr ⟨?_, ?_⟩ | exact List.Mem.head _ | apply List.Mem.tail)))
      show wpAny (model prog w) (aroundOf _ _ _ []) _ _ _ _
      refine rff_ok B F1 KX hN1 T rfl rfl (by decide) (by decide) (by omega) hp1 (by omega) (by omega) (by omega) (by omega) (by omega) (by k_ne) (by k_ne) (by k_ne) (by (repeat' (first | exact List.forall_mem_nil _ | refine List.forall_mem_cons.mpr ⟨?_, ?_⟩ | k_ne))) hr1 (by omega) (by omega) (fun h8 tk8 t8 pl9 tp9 hpl F8 N8 => ?_)
      have N7 : News h₀ L h8 [(L + 1, oc), (x0, instObj 88 d0), (d0, octDict w.params ta tb b0 p0 tp0), (b0, baObj (byteArr row0)), (x1, instObj 88 d1), (d1, octDict w.params tc td b1 pl9 tp9), (b1, baObj (byteArr row1)), (r0, listOf vs0.toArray n0), (r1, listOf vs1.toArray n1), (fl, listOf #[.ref x0, .ref x1] nf), (rw, listOf #[.ref r0, .ref r1] nr), (pc, listOf #[.int p0 u0, .int p1 u1] np), (l, ol), (I, oI)] := sub_led N8 (by (repeat' (first | exact List.forall_mem_nil _ | refine List.forall_mem_cons.mpr ⟨?_, ?_⟩ | exact List.Mem.head _ | apply List.Mem.tail)))
      clear F1 N1 hN1 N8
      (try dsimp only)
      (try k_fold)
      k_steps
      rename IntsAre _ (List.take _ _) => hI9
      have hin9 := slice_in hI9 hr1
      rw [take_min] at hI9 hin9
      k_steps
      all_goals first
        | (rename (_ != _) = true => hbad; exact absurd hbad (by simp))
        | ((try dsimp only); rename Fr h₀ L _ _ => F9; rename News h₀ L _ _ => N9; subst hpl; exact q _ rfl rfl ⟨_, r0, r1, oc, oI, _, _, _, _, _, _, _, _, _, _, row0, row1, _, _, vs0, vs1, n0, n1, _, _, _, frSK5 F9 rfl rfl rfl rfl, sub_led N9 (fun p hp => .tail _ hp), hoc, hPI, hi0, hi1, hr0, hr1, by omega, by omega, by omega, by omega, by omega, by omega, hR0', hR1', hR⟩)

end
end Mine
end

section
open PySem PySem.W PySem.Calls PyProof.Rows PySem.Spec
set_option Elab.async false
namespace Mine
set_option maxRecDepth 100000
set_option maxHeartbeats 4000000
theorem fillK6 : PySem.Challenge.rw_ad6002_01 = PySem.Challenge.rw_ad6002_01 ∧ hd.heap_39 = hd.heap_39 := by
  k_with_none
  w_top off
  k_fill
  exact ⟨rfl, rfl⟩
local macro_rules | `(tactic| walk_at "call builtin:len") => `(tactic| (k_here; (with_reducible show wpAny _ _ (call (Value.builtin "len") [Value.bytes _ _]) _ _ _); k_dflt (refine' len_bytes ?z ?_; (case z => omega); k_whole)))
local macro_rules | `(tactic| walk_at "call builtin:len") => `(tactic| (k_here; (with_reducible show wpAny _ _ (call (Value.builtin "len") [Value.ref _]) _ _ _); k_dflt (refine' k_len_ba ?N ?m ?z ?_; (case N => k_asm); (case m => k_mem); (case z => first | assumption | omega); k_whole)))
local macro_rules | `(tactic| walk_at "subscriptTail") => `(tactic| (k_here; (with_reducible show wpAny _ _ (subscriptTail _ (Expr.Slice _ _ none _) (Value.ref _) (Value.ref _)) _ _ _); (with_reducible rename Fr _ _ _ _ => F'); (with_reducible rename News _ _ _ _ => N'); k_dflt (refine' k_slice_ba (s := ⟨_, _, _, _, _⟩) F' N' ?m ?hl ?hu ?z ?_; (case m => k_mem); (case hl => constructor); (case hu => constructor); (case z => first | assumption | omega); k_whole); intro y' h' F' N' l1; (try k_lt l1)))
local macro_rules | `(tactic| walk_at "call type:bytes") => `(tactic| (k_here; (with_reducible show wpAny _ _ (call (Value.type "bytes") [Value.ref _]) _ _ _); k_dflt (refine' k_bytes_ba ?N ?m ?z ?_; (case N => k_asm); (case m => k_mem); (case z => first | assumption | omega | exact Nat.le_trans (KBc.size_picked_le _ _ _) (by first | assumption | omega)); k_whole); intro _ _))
local macro_rules | `(tactic| k_room) => `(tactic| ((try simp only [depth_deeper]); omega))
local macro_rules | `(tactic| k_ne) => `(tactic| (refine neN ?_; (try dsimp only); first | exact Off.ne (by assumption) (by k_mem) | exact (Off.ne (by assumption) (by k_mem)).symm | omega))
local macro_rules | `(tactic| walk_at "exec If") => `(tactic| (with_reducible refine wpAny_If ?_))
local macro_rules | `(tactic| walk_at "InvEndN") => `(tactic| k_dflt kst_close)
local macro_rules | `(tactic| walk_at "setItem ref int") => `(tactic| (k_here; k_dflt (refine' ki_set ?F ?N ?a ?b ?e ?U ?_; (case a => decide); (case b => decide); (case F => k_asm); (case N => k_asm); (case U => k_upd); (case e => rfl)); ki_rest))
theorem frSK6 {h₀ h : Heap} {L fl rw pc : Addr} {turn : Int} {tt : Tok} {m : Str → Option Value} (F : Fr h₀ L h m) (e9 : m (Str.ofString "files") = some (.ref fl)) (e10 : m (Str.ofString "rows") = some (.ref rw)) (e11 : m (Str.ofString "places") = some (.ref pc))
    (e6 : m (Str.ofString "turn") = some (.int turn tt)) : Fr h₀ L h (mapOf fl rw pc turn tt m) := by
  have e := map_canon e9 e10 e11 e6
  rw [e] at F
  exact F
theorem swapAK6 {h₀ h : Heap} {L : Addr} {D g1 g2 e1 e2 e3 e4 e5 e6 e7 ra rb f1 f2 f3 f4 f5 : Addr × Obj} (N : News h₀ L h [D, g1, g2, e1, e2, e3, e4, e5, e6, e7, ra, rb, f1, f2, f3, f4, f5]) : News h₀ L h [e1, e2, e3, e4, e5, e6, e7, D, rb, f1, f2, f3, f4, f5] := sub_led N (by (repeat' (first | exact List.forall_mem_nil _ | refine List.forall_mem_cons.mpr ⟨?_, ?_⟩ | exact List.Mem.head _ | apply List.Mem.tail)))
theorem swapBK6 {h₀ h : Heap} {L : Addr} {D g1 g2 e1 e2 e3 e4 e5 e6 e7 ra rb f1 f2 f3 f4 f5 : Addr × Obj} (N : News h₀ L h [D, g1, g2, e1, e2, e3, e4, e5, e6, e7, ra, rb, f1, f2, f3, f4, f5]) : News h₀ L h [e1, e2, e3, e4, e5, e6, e7, ra, D, f1, f2, f3, f4, f5] := sub_led N (by (repeat' (first | exact List.forall_mem_nil _ | refine List.forall_mem_cons.mpr ⟨?_, ?_⟩ | exact List.Mem.head _ | apply List.Mem.tail)))

section
set_option pp.deepTerms false
set_option pp.deepTerms.threshold 7
set_option pp.proofs false
variable {prog : Program} {w : World} {s : Shared} {h₀ : Heap} {L fa : Addr} {cd : Value} {mg mb m₁ : Str → Option Value} {p : Program} {loose : List Str} {mean : ExcName → Option Value}
  {fl rw pc x0 d0 b0 x1 d1 b1 l I : Addr} {bd turn n wh : Int} {tn : Tok} {ol : Obj} {PI : Obj → Prop} {Post : Flow → Shared → Prop}
theorem kind_6 (T : Top p loose mean mg mb h₀) (B : Below callerA h₀ [] h₀) (KX : (hd.heap_39 w.params).In h₀)
    (hA : Chain [L + 1, d0, x0, b0, d1, x1, b1, fl, rw, pc, l, I]) (hb : bd ≤ 200) (hb0 : 40 ≤ bd) (hk : n.fmod 7 = 6) (h01 : wh = 0 ∨ wh = 1)
    (S : StH w.params h₀ L fl rw pc x0 d0 b0 x1 d1 b1 l I ol PI bd turn n wh s.heap)
    (q : ∀ s', s'.gens = s.gens → s'.os = s.os → St w.params h₀ L fl rw pc x0 d0 b0 x1 d1 b1 l I ol PI (bd + 5) turn s'.heap → Post .next s') :
    wpC (model prog w) (callerA.deeper (lawEnv L fa cd)) (execs [kindStmt, lastStmt] (lawEnv L fa cd)) Post (fun _ _ => False) s := by
  have q : ∀ s', s'.gens = s.gens → s'.os = s.os → St w.params h₀ L fl rw pc x0 d0 b0 x1 d1 b1 l I ol PI (bd + 5) turn s'.heap → wpC (model prog w) (callerA.deeper (lawEnv L fa cd)) (execs [lastStmt] (lawEnv L fa cd)) Post (fun _ _ => False) s' :=
    fun s' e1 e2 S' => last_if T B KX hA (by omega) S' (fun s'' e3 e4 => q s'' (e3.trans e1) (e4.trans e2))
  obtain ⟨m, r0, r1, oc, oI, tm, tt, tn, tw, tp, tk, tdt, ta, tb, tc, td, tp0, tp1, u0, u1, row0, row1, p0, p1, vs0, vs1, n0, n1, nf, nr, np, F, N, hoc, hPI, hi0, hi1, hr0, hr1, hl0, hl1, hp0, hp0', hp1, hp1', hR0, hR1, hR⟩ := S
  have hA' := hA
  have hR0' := hR0
  have hR1' := hR1
  simp only [Chain, Off, and_true] at hA hR0 hR1
  have hz0 : (byteArr row0).size ≤ 1000 := by rw [byteArr_size]; omega
  have hz1 : (byteArr row1).size ≤ 1000 := by rw [byteArr_size]; omega
  rw [hk] at F
  dsimp only [lastStmt, kindStmt, endStmts, lawEnv, lawScope, lawFn] at q ⊢
  rcases h01 with h01 | h01 <;> subst h01
  all_goals simp only [if_true, if_false, Int.one_ne_zero] at F
  · refine cExecs (cIf (cOf ?_))
    k_steps
    refine cExecs (cIf (cOf ?_))
    k_steps
    refine cExecs (cIf (cTest1 (cCallName ?_)))
    k_steps
    (try dsimp only)
    refine cCallWithE (P := (hd.heap_39 w.params).In) (keeps_K (by k_is)) ?_
    k_steps
    rename Fr h₀ L _ _ => F1
    have hdl : (dataOf n).length ≤ 5 := by
      have hm1 := fmod_lo (n.fdiv 7) (n := 6) (by decide)
      have hm2 := fmod_hi (n.fdiv 7) (n := 6) (by decide)
      rw [dataOf, List.length_map, rangeKs_length]; omega
    have hsz : (byteArr (dataOf n)).size = (dataOf n).length := byteArr_size _
    have hdi : KBa.In (dataOf n) := fun a ha => by
      obtain ⟨k, _, rfl⟩ := List.mem_map.mp ha
      exact ⟨fmod_lo _ (by decide), fmod_hi _ (by decide)⟩
    have hcs : KBw.bInts (byteArr (dataOf n)) = dataOf n := KBa.ints_make hdi
    have hN1 : News h₀ L s.heap ((b0, baObj (byteArr row0)) :: (x0, instObj 88 d0) :: (d0, octDict w.params ta tb b0 p0 tp0) :: [(L + 1, oc), (x1, instObj 88 d1), (d1, octDict w.params tc td b1 p1 tp1), (b1, baObj (byteArr row1)), (r0, listOf vs0.toArray n0), (r1, listOf vs1.toArray n1), (fl, listOf #[.ref x0, .ref x1] nf), (rw, listOf #[.ref r0, .ref r1] nr), (pc, listOf #[.int p0 u0, .int p1 u1] np), (l, ol), (I, oI)]) := sub_led N (by (repeat' (first | exact List.forall_mem_nil _ | refine List.forall_mem_cons.mpr ⟨?_, ?_⟩ | exact List.Mem.head _ | apply List.Mem.tail)))
    show wpC (model prog w) (aroundOf _ _ _ []) _ _ _ _
    refine write_to_ok B F1 KX hN1 T rfl rfl (by decide) (by decide) (by rw [byteArr_size]; omega) (by rw [byteArr_size]; omega) hp0 (by omega) (by k_ne) (by k_ne) (by k_ne) (by (repeat' (first | exact List.forall_mem_nil _ | refine List.forall_mem_cons.mpr ⟨?_, ?_⟩ | k_ne))) (fun hze h3 tk3 F2 N2 => ?_) (fun hpos h3 tk3 v3 F2 N2 => ?_)
    · have N3 : News h₀ L h3 [(L + 1, oc), (x0, instObj 88 d0), (d0, octDict w.params ta tb b0 p0 tp0), (b0, baObj (byteArr row0)), (x1, instObj 88 d1), (d1, octDict w.params tc td b1 p1 tp1), (b1, baObj (byteArr row1)), (r0, listOf vs0.toArray n0), (r1, listOf vs1.toArray n1), (fl, listOf #[.ref x0, .ref x1] nf), (rw, listOf #[.ref r0, .ref r1] nr), (pc, listOf #[.int p0 u0, .int p1 u1] np), (l, ol), (I, oI)] := sub_led N2 (by (repeat' (first | exact List.forall_mem_nil _ | refine List.forall_mem_cons.mpr ⟨?_, ?_⟩ | exact List.Mem.head _ | apply List.Mem.tail)))
      clear F1 hN1 N2 N
      (try dsimp only)
      (try k_fold)
      k_steps
      (try dsimp only)
      refine cNil ?_
      (try dsimp only)
      refine cExecsA ?_
      k_steps
      (try dsimp only)
      refine cExecsA ?_
      k_steps
      (try dsimp only)
      refine cNil ?_
      (try dsimp only)
      refine cNil ?_
      (try dsimp only)
      rename Fr h₀ L _ _ => F9
      rename News h₀ L _ _ => N9
      have e0 : p0 + ((byteArr (dataOf n)).size : Int) = p0 := by omega
      rw [e0] at N9
      exact q _ rfl rfl ⟨_, r0, r1, oc, oI, _, _, _, _, _, _, _, _, _, _, row0, row1, _, _, vs0, vs1, n0, n1, _, _, _, frSK6 F9 rfl rfl rfl rfl, N9, hoc, hPI, hi0, hi1, hr0, hr1, by omega, by omega, by omega, by omega, by omega, by omega, hR0', hR1', hR⟩
    · rw [laid_byte row0 (dataOf n) hp0] at N2
      have N3 : News h₀ L h3 [(L + 1, oc), (x0, instObj 88 d0), (d0, octDict w.params ta tb b0 (p0 + ((byteArr (dataOf n)).size : Int)) v3), (b0, baObj (byteArr (laidRow row0 p0 (dataOf n)))), (x1, instObj 88 d1), (d1, octDict w.params tc td b1 p1 tp1), (b1, baObj (byteArr row1)), (r0, listOf vs0.toArray n0), (r1, listOf vs1.toArray n1), (fl, listOf #[.ref x0, .ref x1] nf), (rw, listOf #[.ref r0, .ref r1] nr), (pc, listOf #[.int p0 u0, .int p1 u1] np), (l, ol), (I, oI)] := sub_led N2 (by (repeat' (first | exact List.forall_mem_nil _ | refine List.forall_mem_cons.mpr ⟨?_, ?_⟩ | exact List.Mem.head _ | apply List.Mem.tail)))
      clear F1 hN1 N2 N
      (try dsimp only)
      (try k_fold)
      k_steps
      (try dsimp only)
      refine cNil ?_
      (try dsimp only)
      (k_with "state" => first | (refine ⟨?_, ?_, ?_⟩ <;> (try simp only [List.length_append, len_pad, List.length_set]) <;> (first | omega | simp_all [setsOf, List.foldl_append])) | skip)
      (k_with "pyIter ref" => k_state_given ["done!"] (fun d₀ pre d => p0 + ((dataOf n).length : Int) ≤ (d.length : Int) ∧ d.length ≤ 400 ∧ d = setsOf p0 (dataOf n) d₀ pre) "done")
      refine cExecsA ?_
      k_steps
      (try dsimp only)
      refine cExecsA ?_
      k_steps
      (try dsimp only)
      refine cNil ?_
      (try dsimp only)
      refine cNil ?_
      (try dsimp only)
      rename _ = setsOf _ _ _ _ => hset
      rename IntsAre _ _ => hI
      rw [hset, hsz] at hI
      have hll := laidRow_len row0 (dataOf n) hp0
      rename Fr h₀ L _ _ => F9
      rename News h₀ L _ _ => N9
      exact q _ rfl rfl ⟨_, _, r1, oc, oI, _, _, _, _, _, _, _, _, _, _, (laidRow row0 p0 (dataOf n)), row1, _, _, _, vs1, _, n1, _, _, _, frSK6 F9 rfl rfl rfl rfl, swapAK6 N9, hoc, hPI, hI, hi1, (laidRow_in hp0 hr0 hdi), hr1, by omega, by omega, by omega, by omega, by omega, by omega, (by simp only [Off, and_true]; omega), hR1', by k_ne⟩
  · refine cExecs (cIf (cOf ?_))
    k_steps
    refine cExecs (cIf (cOf ?_))
    k_steps
    refine cExecs (cIf (cTest1 (cCallName ?_)))
    k_steps
    (try dsimp only)
    refine cCallWithE (P := (hd.heap_39 w.params).In) (keeps_K (by k_is)) ?_
    k_steps
    rename Fr h₀ L _ _ => F1
    have hdl : (dataOf n).length ≤ 5 := by
      have hm1 := fmod_lo (n.fdiv 7) (n := 6) (by decide)
      have hm2 := fmod_hi (n.fdiv 7) (n := 6) (by decide)
      rw [dataOf, List.length_map, rangeKs_length]; omega
    have hsz : (byteArr (dataOf n)).size = (dataOf n).length := byteArr_size _
    have hdi : KBa.In (dataOf n) := fun a ha => by
      obtain ⟨k, _, rfl⟩ := List.mem_map.mp ha
      exact ⟨fmod_lo _ (by decide), fmod_hi _ (by decide)⟩
    have hcs : KBw.bInts (byteArr (dataOf n)) = dataOf n := KBa.ints_make hdi
    have hN1 : News h₀ L s.heap ((b1, baObj (byteArr row1)) :: (x1, instObj 88 d1) :: (d1, octDict w.params tc td b1 p1 tp1) :: [(L + 1, oc), (x0, instObj 88 d0), (d0, octDict w.params ta tb b0 p0 tp0), (b0, baObj (byteArr row0)), (r0, listOf vs0.toArray n0), (r1, listOf vs1.toArray n1), (fl, listOf #[.ref x0, .ref x1] nf), (rw, listOf #[.ref r0, .ref r1] nr), (pc, listOf #[.int p0 u0, .int p1 u1] np), (l, ol), (I, oI)]) := sub_led N (by (repeat' (first | exact List.forall_mem_nil _ | refine List.forall_mem_cons.mpr ⟨?_, ?_⟩ | exact List.Mem.head _ | apply List.Mem.tail)))
    show wpC (model prog w) (aroundOf _ _ _ []) _ _ _ _
    refine write_to_ok B F1 KX hN1 T rfl rfl (by decide) (by decide) (by rw [byteArr_size]; omega) (by rw [byteArr_size]; omega) hp1 (by omega) (by k_ne) (by k_ne) (by k_ne) (by (repeat' (first | exact List.forall_mem_nil _ | refine List.forall_mem_cons.mpr ⟨?_, ?_⟩ | k_ne))) (fun hze h3 tk3 F2 N2 => ?_) (fun hpos h3 tk3 v3 F2 N2 => ?_)
    · have N3 : News h₀ L h3 [(L + 1, oc), (x0, instObj 88 d0), (d0, octDict w.params ta tb b0 p0 tp0), (b0, baObj (byteArr row0)), (x1, instObj 88 d1), (d1, octDict w.params tc td b1 p1 tp1), (b1, baObj (byteArr row1)), (r0, listOf vs0.toArray n0), (r1, listOf vs1.toArray n1), (fl, listOf #[.ref x0, .ref x1] nf), (rw, listOf #[.ref r0, .ref r1] nr), (pc, listOf #[.int p0 u0, .int p1 u1] np), (l, ol), (I, oI)] := sub_led N2 (by (repeat' (first | exact List.forall_mem_nil _ | refine List.forall_mem_cons.mpr ⟨?_, ?_⟩ | exact List.Mem.head _ | apply List.Mem.tail)))
      clear F1 hN1 N2 N
      (try dsimp only)
      (try k_fold)
      k_steps
      (try dsimp only)
      refine cNil ?_
      (try dsimp only)
      refine cExecsA ?_
      k_steps
      (try dsimp only)
      refine cExecsA ?_
      k_steps
      (try dsimp only)
      refine cNil ?_
      (try dsimp only)
      refine cNil ?_
      (try dsimp only)
      rename Fr h₀ L _ _ => F9
      rename News h₀ L _ _ => N9
      have e0 : p1 + ((byteArr (dataOf n)).size : Int) = p1 := by omega
      rw [e0] at N9
      exact q _ rfl rfl ⟨_, r0, r1, oc, oI, _, _, _, _, _, _, _, _, _, _, row0, row1, _, _, vs0, vs1, n0, n1, _, _, _, frSK6 F9 rfl rfl rfl rfl, N9, hoc, hPI, hi0, hi1, hr0, hr1, by omega, by omega, by omega, by omega, by omega, by omega, hR0', hR1', hR⟩
    · rw [laid_byte row1 (dataOf n) hp1] at N2
      have N3 : News h₀ L h3 [(L + 1, oc), (x0, instObj 88 d0), (d0, octDict w.params ta tb b0 p0 tp0), (b0, baObj (byteArr row0)), (x1, instObj 88 d1), (d1, octDict w.params tc td b1 (p1 + ((byteArr (dataOf n)).size : Int)) v3), (b1, baObj (byteArr (laidRow row1 p1 (dataOf n)))), (r0, listOf vs0.toArray n0), (r1, listOf vs1.toArray n1), (fl, listOf #[.ref x0, .ref x1] nf), (rw, listOf #[.ref r0, .ref r1] nr), (pc, listOf #[.int p0 u0, .int p1 u1] np), (l, ol), (I, oI)] := sub_led N2 (by (repeat' (first | exact List.forall_mem_nil _ | refine List.forall_mem_cons.mpr ⟨?_, ?_⟩ | exact List.Mem.head _ | apply List.Mem.tail)))
      clear F1 hN1 N2 N
      (try dsimp only)
      (try k_fold)
      k_steps
      (try dsimp only)
      refine cNil ?_
      (try dsimp only)
      (k_with "state" => first | (refine ⟨?_, ?_, ?_⟩ <;> (try simp only [List.length_append, len_pad, List.length_set]) <;> (first | omega | simp_all [setsOf, List.foldl_append])) | skip)
      (k_with "pyIter ref" => k_state_given ["done!"] (fun d₀ pre d => p1 + ((dataOf n).length : Int) ≤ (d.length : Int) ∧ d.length ≤ 400 ∧ d = setsOf p1 (dataOf n) d₀ pre) "done")
      refine cExecsA ?_
      k_steps
      (try dsimp only)
      refine cExecsA ?_
      k_steps
      (try dsimp only)
      refine cNil ?_
      (try dsimp only)
      refine cNil ?_
      (try dsimp only)
      rename _ = setsOf _ _ _ _ => hset
      rename IntsAre _ _ => hI
      rw [hset, hsz] at hI
      have hll := laidRow_len row1 (dataOf n) hp1
      rename Fr h₀ L _ _ => F9
      rename News h₀ L _ _ => N9
      exact q _ rfl rfl ⟨_, r0, _, oc, oI, _, _, _, _, _, _, _, _, _, _, row0, (laidRow row1 p1 (dataOf n)), _, _, vs0, _, n0, _, _, _, _, frSK6 F9 rfl rfl rfl rfl, swapBK6 N9, hoc, hPI, hi0, hI, hr0, (laidRow_in hp1 hr1 hdi), by omega, by omega, by omega, by omega, by omega, by omega, hR0', (by simp only [Off, and_true]; omega), by k_ne⟩

end
end Mine
end

section
open PySem PySem.W PySem.Calls PyProof.Rows PySem.Spec
set_option Elab.async false
namespace Mine
section
variable {prog : Program} {w : World} {s : Shared} {h₀ : Heap} {L fa : Addr} {cd : Value} {mg mb : Str → Option Value} {p : Program} {loose : List Str} {mean : ExcName → Option Value}
  {fl rw pc x0 d0 b0 x1 d1 b1 l I : Addr} {bd turn n : Int} {tn : Tok} {ol : Obj} {PI : Obj → Prop} {Post : Flow → Shared → Prop}
theorem turn_ok (T : Top p loose mean mg mb h₀) (B : Below callerA h₀ [] h₀) (KX : (hd.heap_39 w.params).In h₀)
    (hA : Chain [L + 1, d0, x0, b0, d1, x1, b1, fl, rw, pc, l, I]) (hb : bd ≤ 200) (hb0 : 40 ≤ bd) (ht : 0 ≤ turn) (ht2 : turn ≤ 100)
    (S : ∃ (m : Str → Option Value) (r0 r1 : Addr) (oc oI : Obj) (vc : Option Value) (tt ta tb tc td tp0 tp1 u0 u1 : Tok) (row0 row1 : List Int) (p0 p1 : Int) (vs0 vs1 : List Value) (n0 n1 nf nr np : Nat),
      Fr h₀ L s.heap (fun y => if y = Str.ofString "n" then some (.int n tn) else mapOf fl rw pc turn tt m y) ∧
      News h₀ L s.heap [(L + 1, oc), (x0, instObj 88 d0), (d0, octDict w.params ta tb b0 p0 tp0), (b0, baObj (byteArr row0)), (x1, instObj 88 d1), (d1, octDict w.params tc td b1 p1 tp1), (b1, baObj (byteArr row1)),
        (r0, listOf vs0.toArray n0), (r1, listOf vs1.toArray n1), (fl, listOf #[.ref x0, .ref x1] nf), (rw, listOf #[.ref r0, .ref r1] nr), (pc, listOf #[.int p0 u0, .int p1 u1] np), (l, ol), (I, oI)] ∧
      oc.data = .cell vc ∧ PI oI ∧ IntsAre vs0 row0 ∧ IntsAre vs1 row1 ∧ KBa.In row0 ∧ KBa.In row1 ∧ (row0.length : Int) ≤ bd ∧ (row1.length : Int) ≤ bd ∧ 0 ≤ p0 ∧ p0 ≤ bd ∧ 0 ≤ p1 ∧ p1 ≤ bd ∧
      Off r0 [L + 1, d0, x0, b0, d1, x1, b1, fl, rw, pc, l, I] ∧ Off r1 [L + 1, d0, x0, b0, d1, x1, b1, fl, rw, pc, l, I] ∧ @Ne Nat r0 r1)
    (q : ∀ s', s'.gens = s.gens → s'.os = s.os → St w.params h₀ L fl rw pc x0 d0 b0 x1 d1 b1 l I ol PI (bd + 5) (turn + 1) s'.heap → Post .next s') :
    wpC (model prog w) (callerA.deeper (lawEnv L fa cd)) (execs turnBody (lawEnv L fa cd)) Post (fun _ _ => False) s := by
  refine turn_head T B KX hA (by omega) ht ht2 S (fun s' wh e1 e2 h01 SH => ?_)
  have h7 : n.fmod 7 = 0 ∨ n.fmod 7 = 1 ∨ n.fmod 7 = 2 ∨ n.fmod 7 = 3 ∨ n.fmod 7 = 4 ∨ n.fmod 7 = 5 ∨ n.fmod 7 = 6 := by
    have h1 := fmod_lo n (n := 7) (by decide)
    have h2 := fmod_hi n (n := 7) (by decide)
    omega
  rcases h7 with h | h | h | h | h | h | h
  · exact kind_0 T B KX hA hb hb0 h h01 SH (fun s'' e3 e4 => q s'' (e3.trans e1) (e4.trans e2))
  · exact kind_1 T B KX hA hb hb0 h h01 SH (fun s'' e3 e4 => q s'' (e3.trans e1) (e4.trans e2))
  · exact kind_2 T B KX hA hb hb0 h h01 SH (fun s'' e3 e4 => q s'' (e3.trans e1) (e4.trans e2))
  · exact kind_3 T B KX hA hb hb0 h h01 SH (fun s'' e3 e4 => q s'' (e3.trans e1) (e4.trans e2))
  · exact kind_4 T B KX hA hb hb0 h h01 SH (fun s'' e3 e4 => q s'' (e3.trans e1) (e4.trans e2))
  · exact kind_5 T B KX hA hb hb0 h h01 SH (fun s'' e3 e4 => q s'' (e3.trans e1) (e4.trans e2))
  · exact kind_6 T B KX hA hb hb0 h h01 SH (fun s'' e3 e4 => q s'' (e3.trans e1) (e4.trans e2))
end
end Mine
end

section
open PySem PySem.W PySem.Calls PyProof.Rows PySem.Spec
set_option Elab.async false
namespace Mine
set_option maxRecDepth 100000
set_option maxHeartbeats 4000000
theorem ext_led {h₀ h h' : Heap} {L a : Addr} {m : Str → Option Value} {o : Obj} {rest : List (Addr × Obj)} (F : Fr h₀ L h m) (N : News h₀ L h ((a, o) :: rest)) (hne : ∀ p ∈ rest, p.1 ≠ a)
    (hk : ∀ y ob, y ≠ a → h.get? y = some ob → h'.get? y = some ob) : Fr h₀ L h' m ∧ News h₀ L h' rest := by
  have D := N (a, o) (.head _)
  obtain ⟨oL, es, ep, hL, r⟩ := F.ns
  refine ⟨⟨⟨oL, es, ep, hk L oL (Ne.symm D.2.1) hL, r⟩, fun b x q => hk b x (fun z => ?_) (F.keep b x q), F.above⟩, fun p hp => ?_⟩
  · have := D.2.2; rw [← z, q] at this; cases this
  · have P := N p (.tail _ hp)
    exact ⟨hk _ _ (hne p hp) P.1, P.2⟩
theorem ints_get : ∀ {vs : List Value} {ns : List Int} {i : Nat} {v : Value}, IntsAre vs ns → vs[i]? = some v → ∃ n t, v = .int n t
  | _, _, _, _, .nil, h => by simp at h
  | _, _, 0, _, .cons n t _, h => ⟨n, t, by simpa using h.symm⟩
  | _, _, i + 1, _, .cons _ _ hi, h => ints_get hi (by simpa using h)
section
variable {prog : Program} {w : World} {s : Shared} {h₀ : Heap} {L fa : Addr} {cd : Value} {mg mb : Str → Option Value} {p : Program} {loose : List Str} {mean : ExcName → Option Value}
  {fl rw pc x0 d0 b0 x1 d1 b1 l I : Addr} {vs : List Value} {ns : List Int} {nl : Nat} {R : Result → Shared → Prop}
def isIt (l : Addr) (i : Nat) (o : Obj) : Prop := o.cls = .type "list_iterator" ∧ o.data = .fields #[.ref l, .int i 0]
theorem loop_ok {px : Pos} (T : Top p loose mean mg mb h₀) (B : Below callerA h₀ [] h₀) (KX : (hd.heap_39 w.params).In h₀)
    (hA : Chain [L + 1, d0, x0, b0, d1, x1, b1, fl, rw, pc, l, I]) (hi : IntsAre vs ns) (hlen : vs.length ≤ 20)
    (S0 : St w.params h₀ L fl rw pc x0 d0 b0 x1 d1 b1 l I (listOf vs.toArray nl) (isIt l 0) 40 0 s.heap)
    (done : ∀ s', s'.gens = s.gens → s'.os = s.os → (∃ (m : Str → Option Value) (r0 r1 : Addr) (oc : Obj) (vc : Option Value) (turn : Int) (tt ta tb tc td tp0 tp1 u0 u1 : Tok) (row0 row1 : List Int) (p0 p1 : Int) (vs0 vs1 : List Value) (n0 n1 nf nr np : Nat),
      Fr h₀ L s'.heap (mapOf fl rw pc turn tt m) ∧
      News h₀ L s'.heap [(L + 1, oc), (x0, instObj 88 d0), (d0, octDict w.params ta tb b0 p0 tp0), (b0, baObj (byteArr row0)), (x1, instObj 88 d1), (d1, octDict w.params tc td b1 p1 tp1), (b1, baObj (byteArr row1)),
        (fl, listOf #[.ref x0, .ref x1] nf), (rw, listOf #[.ref r0, .ref r1] nr), (pc, listOf #[.int p0 u0, .int p1 u1] np)] ∧ oc.data = .cell vc ∧ 0 ≤ p0 ∧ p0 ≤ 200 ∧ 0 ≤ p1 ∧ p1 ≤ 200) → R (.ok .next) s') :
    codeC (model prog w) (callerA.deeper (lawEnv L fa cd)) (.forLoop (.Name (Str.ofString "n") px) (.ref I) turnBody [] (lawEnv L fa cd)) R s := by
  have hA' := hA
  simp only [Chain, and_true] at hA
  have hz : vs.toArray.size = vs.length := List.size_toArray
  refine for_list (I := I) (l := l) (vs := vs.toArray) rfl (fun i s' => (s'.gens = s.gens ∧ s'.os = s.os) ∧ i ≤ vs.length ∧ St w.params h₀ L fl rw pc x0 d0 b0 x1 d1 b1 l I (listOf vs.toArray nl) (isIt l i) (40 + 5 * (i : Int)) (i : Int) s'.heap) (fun i s' J => ?_) (fun i v s' h' J hv hs hit => ?_) (fun s' h' J he => ?_) ⟨⟨rfl, rfl⟩, Nat.zero_le _, by rw [show (40 + 5 * ((0 : Nat) : Int)) = 40 from by decide]; exact S0⟩
  · obtain ⟨⟨eg, eo⟩, hle, m, r0, r1, oc, oI, vc, tt, ta, tb, tc, td, tp0, tp1, u0, u1, row0, row1, p0, p1, vs0, vs1, n0, n1, nf, nr, np, F, N, hoc, hPI, hi0, hi1, hr0, hr1, hl0, hl1, hp0, hp0', hp1, hp1', hR0, hR1, hR⟩ := J
    exact ⟨⟨_, N.get (by (repeat' (first | exact List.forall_mem_nil _ | refine List.forall_mem_cons.mpr ⟨?_, ?_⟩ | exact List.Mem.head _ | apply List.Mem.tail))), rfl, _, rfl⟩, ⟨oI, N.get (by (repeat' (first | exact List.forall_mem_nil _ | refine List.forall_mem_cons.mpr ⟨?_, ?_⟩ | exact List.Mem.head _ | apply List.Mem.tail))), hPI.1, hPI.2⟩⟩
  · obtain ⟨⟨eg, eo⟩, hle, m, r0, r1, oc, oI, vc, tt, ta, tb, tc, td, tp0, tp1, u0, u1, row0, row1, p0, p1, vs0, vs1, n0, n1, nf, nr, np, F, N, hoc, hPI, hi0, hi1, hr0, hr1, hl0, hl1, hp0, hp0', hp1, hp1', hR0, hR1, hR⟩ := J
    have hlt : i < vs.length := by
      rw [← hz]
      exact (Array.getElem?_eq_some_iff.mp hv).1
    obtain ⟨n, tn, rfl⟩ := ints_get hi (by simpa using hv)
    obtain ⟨oI', gI, cI, dI⟩ := hit
    have hR0' := hR0
    have hR1' := hR1
    simp only [Off, and_true] at hR0 hR1
    have N1 : News h₀ L s'.heap ((I, oI) :: [(L + 1, oc), (x0, instObj 88 d0), (d0, octDict w.params ta tb b0 p0 tp0), (b0, baObj (byteArr row0)), (x1, instObj 88 d1), (d1, octDict w.params tc td b1 p1 tp1), (b1, baObj (byteArr row1)),
        (r0, listOf vs0.toArray n0), (r1, listOf vs1.toArray n1), (fl, listOf #[.ref x0, .ref x1] nf), (rw, listOf #[.ref r0, .ref r1] nr), (pc, listOf #[.int p0 u0, .int p1 u1] np), (l, listOf vs.toArray nl)]) := sub_led N (by (repeat' (first | exact List.forall_mem_nil _ | refine List.forall_mem_cons.mpr ⟨?_, ?_⟩ | exact List.Mem.head _ | apply List.Mem.tail)))
    obtain ⟨F2, N2⟩ := upd_led F N1 (by (repeat' (first | exact List.forall_mem_nil _ | refine List.forall_mem_cons.mpr ⟨?_, ?_⟩ | (show @Ne Nat _ _; omega)))) gI (fun y ob hy e => (hs.2 y hy).trans e)
    have N3 : News h₀ L h' [(L + 1, oc), (x0, instObj 88 d0), (d0, octDict w.params ta tb b0 p0 tp0), (b0, baObj (byteArr row0)), (x1, instObj 88 d1), (d1, octDict w.params tc td b1 p1 tp1), (b1, baObj (byteArr row1)),
        (r0, listOf vs0.toArray n0), (r1, listOf vs1.toArray n1), (fl, listOf #[.ref x0, .ref x1] nf), (rw, listOf #[.ref r0, .ref r1] nr), (pc, listOf #[.int p0 u0, .int p1 u1] np), (l, listOf vs.toArray nl), (I, oI')] := sub_led N2 (by (repeat' (first | exact List.forall_mem_nil _ | refine List.forall_mem_cons.mpr ⟨?_, ?_⟩ | exact List.Mem.head _ | apply List.Mem.tail)))
    refine storeX_L (cl := cellsFrom (L + 1) lawScope.names []) (s := { s' with heap := h' }) F2 N3 (fun h4 F4 N4 => ?_)
    refine turn_ok (bd := 40 + 5 * (i : Int)) (turn := (i : Int)) (PI := isIt l (i + 1)) T B KX hA' (by omega) (by omega) (by omega) (by omega)
      ⟨m, r0, r1, oc, oI', vc, tt, ta, tb, tc, td, tp0, tp1, u0, u1, row0, row1, p0, p1, vs0, vs1, n0, n1, nf, nr, np, F4, N4, hoc, ⟨cI, dI⟩, hi0, hi1, hr0, hr1, hl0, hl1, hp0, hp0', hp1, hp1', hR0', hR1', hR⟩ (fun s5 g5 o5 S5 => ?_)
    refine ⟨⟨g5.trans eg, o5.trans eo⟩, hlt, ?_⟩
    have e1 : (40 + 5 * ((i + 1 : Nat) : Int)) = 40 + 5 * (i : Int) + 5 := by omega
    have e2 : (((i + 1 : Nat) : Int)) = (i : Int) + 1 := by omega
    rw [e1, e2]
    exact S5
  · obtain ⟨⟨eg, eo⟩, hle, m, r0, r1, oc, oI, vc, tt, ta, tb, tc, td, tp0, tp1, u0, u1, row0, row1, p0, p1, vs0, vs1, n0, n1, nf, nr, np, F, N, hoc, hPI, hi0, hi1, hr0, hr1, hl0, hl1, hp0, hp0', hp1, hp1', hR0, hR1, hR⟩ := J
    have N1 : News h₀ L s'.heap ((I, oI) :: [(L + 1, oc), (x0, instObj 88 d0), (d0, octDict w.params ta tb b0 p0 tp0), (b0, baObj (byteArr row0)), (x1, instObj 88 d1), (d1, octDict w.params tc td b1 p1 tp1), (b1, baObj (byteArr row1)),
        (fl, listOf #[.ref x0, .ref x1] nf), (rw, listOf #[.ref r0, .ref r1] nr), (pc, listOf #[.int p0 u0, .int p1 u1] np)]) := sub_led N (by (repeat' (first | exact List.forall_mem_nil _ | refine List.forall_mem_cons.mpr ⟨?_, ?_⟩ | exact List.Mem.head _ | apply List.Mem.tail)))
    obtain ⟨F2, N2⟩ := ext_led (h' := h') F N1 (by (repeat' (first | exact List.forall_mem_nil _ | refine List.forall_mem_cons.mpr ⟨?_, ?_⟩ | (show @Ne Nat _ _; omega)))) he
    exact done _ eg eo ⟨m, r0, r1, oc, vc, _, tt, ta, tb, tc, td, tp0, tp1, u0, u1, row0, row1, p0, p1, vs0, vs1, n0, n1, nf, nr, np, F2, N2, hoc, hp0, by omega, hp1, by omega⟩
end
end Mine
end

section
open PySem PySem.W PySem.Calls PyProof.Rows PySem.Spec
set_option Elab.async false
namespace Mine
set_option maxRecDepth 100000
set_option maxHeartbeats 4000000
theorem swapL {h₀ h : Heap} {L : Addr} {D y6 y5 pc rw r1 r0 fl x1 d1 b1 x0 d0 b0 D1 c I : Addr × Obj} (N : News h₀ L h [I, D, y6, y5, pc, rw, r1, r0, fl, x1, d1, b1, x0, d0, b0, D1, c]) : News h₀ L h [c, x0, d0, b0, x1, d1, b1, r0, r1, fl, rw, pc, D, I] := sub_led N (by (repeat' (first | exact List.forall_mem_nil _ | refine List.forall_mem_cons.mpr ⟨?_, ?_⟩ | exact List.Mem.head _ | apply List.Mem.tail)))
section
variable {prog : Program} {w : World} {s : Shared} {h₀ : Heap} {L fa : Addr} {cd : Value} {mg mb : Str → Option Value} {p : Program} {loose : List Str} {mean : ExcName → Option Value} {m : Str → Option Value} {A : Around} {E : Value → Shared → Prop}
  {fl rw pc x0 d0 b0 x1 d1 b1 l r0 r1 : Addr} {vs : List Value} {ns : List Int} {nl n0 n1 nf nr np : Nat} {R : Result → Shared → Prop} {ta tb tc td tp0 tp1 u0 u1 tt : Tok} {g1 g2 g3 : Addr × Obj} {oc : Obj} {vc : Option Value}
theorem enter_loop {px : Pos} (T : Top p loose mean mg mb h₀) (B : Below callerA h₀ [] h₀) (KX : (hd.heap_39 w.params).In h₀) (F : Fr h₀ L s.heap m)
    (e9 : m (Str.ofString "files") = some (.ref fl)) (e10 : m (Str.ofString "rows") = some (.ref rw)) (e11 : m (Str.ofString "places") = some (.ref pc)) (e6 : m (Str.ofString "turn") = some (.int 0 tt))
    (N : News h₀ L s.heap [(l, listOf vs.toArray nl), g1, g2, (pc, listOf #[.int 0 u0, .int 0 u1] np), (rw, listOf #[.ref r0, .ref r1] nr), (r1, listOf #[] n1), (r0, listOf #[] n0), (fl, listOf #[.ref x0, .ref x1] nf),
      (x1, instObj 88 d1), (d1, octDict w.params tc td b1 0 tp1), (b1, baObj #[]), (x0, instObj 88 d0), (d0, octDict w.params ta tb b0 0 tp0), (b0, baObj #[]), g3, (L + 1, oc)])
    (hoc : oc.data = .cell vc) (hA : Chain [L + 1, d0, x0, b0, d1, x1, b1, fl, r0, r1, rw, pc, l]) (hi : IntsAre vs ns) (hlen : vs.length ≤ 20)
    (done : ∀ s', s'.gens = s.gens → s'.os = s.os → (∃ (m : Str → Option Value) (r0 r1 : Addr) (oc : Obj) (vc : Option Value) (turn : Int) (tt ta tb tc td tp0 tp1 u0 u1 : Tok) (row0 row1 : List Int) (p0 p1 : Int) (vs0 vs1 : List Value) (n0 n1 nf nr np : Nat),
      Fr h₀ L s'.heap (mapOf fl rw pc turn tt m) ∧
      News h₀ L s'.heap [(L + 1, oc), (x0, instObj 88 d0), (d0, octDict w.params ta tb b0 p0 tp0), (b0, baObj (byteArr row0)), (x1, instObj 88 d1), (d1, octDict w.params tc td b1 p1 tp1), (b1, baObj (byteArr row1)),
        (fl, listOf #[.ref x0, .ref x1] nf), (rw, listOf #[.ref r0, .ref r1] nr), (pc, listOf #[.int p0 u0, .int p1 u1] np)] ∧ oc.data = .cell vc ∧ 0 ≤ p0 ∧ p0 ≤ 200 ∧ 0 ≤ p1 ∧ p1 ≤ 200) → R (.ok .next) s') :
    wpAny (model prog w) A (pyIter (.ref l)) (fun it s₂ => codeC (model prog w) (callerA.deeper (lawEnv L fa cd)) (.forLoop (.Name (Str.ofString "n") px) it turnBody [] (lawEnv L fa cd)) R s₂) E s := by
  have ltI : @LT.lt Nat _ l s.heap.objs.size := Heap.lt_size (N _ (.head _)).1
  simp only [Chain, and_true] at hA
  refine wpAny_pyIter_list ⟨_, N.get (.head _), rfl, _, rfl⟩ ?_
  have F2 := F.push { cls := .type "list_iterator", data := .fields #[.ref l, .int 0 0] }
  have N2 := N.push F { cls := .type "list_iterator", data := .fields #[.ref l, .int 0 0] }
  generalize hI : s.heap.objs.size = I at *
  have hC : Chain [L + 1, d0, x0, b0, d1, x1, b1, fl, rw, pc, l, I] := by
    simp only [Chain, and_true]
    omega
  refine loop_ok (nl := nl) T B KX hC hi hlen ⟨m, r0, r1, oc, { cls := .type "list_iterator", data := .fields #[.ref l, .int 0 0] }, vc, tt, ta, tb, tc, td, tp0, tp1, u0, u1, [], [], 0, 0, [], [], n0, n1, nf, nr, np, ?_, ?_, hoc, ⟨rfl, rfl⟩, .nil, .nil, (fun _ h => absurd h List.not_mem_nil), (fun _ h => absurd h List.not_mem_nil), by decide, by decide, by decide, by decide, by decide, by decide, ?_, ?_, ?_⟩ done
  · exact frSK0 F2 e9 e10 e11 e6
  · exact swapL N2
  · simp only [Off, and_true]; omega
  · simp only [Off, and_true]; omega
  · show @Ne Nat _ _; omega
end
end Mine
end

section
open PySem PySem.W PySem.Calls PyProof.Rows PySem.Spec
set_option Elab.async false
namespace Mine
set_option maxRecDepth 100000
set_option maxHeartbeats 4000000
set_option pp.deepTerms false
set_option pp.deepTerms.threshold 8
set_option pp.proofs false
local macro_rules | `(tactic| k_room) => `(tactic| ((try simp only [depth_deeper]); omega))
local macro_rules | `(tactic| walk_at "call ref") => `(tactic| ((with_reducible show wpAny _ _ (call (Value.ref 99) _) _ _ _); refine stopped ?_))
local macro_rules | `(tactic| walk_at "subscriptTail") => `(tactic| ((with_reducible show wpAny _ _ (subscriptTail (Expr.Call _ _ _ _) (Expr.Slice _ _ none _) (Value.ref _) (Value.ref _)) _ _ _); refine stopped ?_))
local macro_rules | `(tactic| walk_at "subscriptTail Call Slice ref ref") => `(tactic| refine stopped ?_)
theorem slice_from {prog : Program} {w : World} {A : Around} {E : Value → Shared → Prop} {s : Shared} {h₀ : Heap} {L l : Addr} {m : Str → Option Value} {news : List (Addr × Obj)} {value slice : Expr} {vs : List Value} {ns : List Int} {n : Nat} {x : Int} {t : Tok} {Q : Value → Shared → Prop}
    (F : Fr h₀ L s.heap m) (N : News h₀ L s.heap news) (hm : (l, listOf vs.toArray n) ∈ news) (hi : IntsAre vs ns) (h0 : 0 ≤ x) (hz : vs.length ≤ 1000)
    (q : ∀ y ws h', Fr h₀ L h' m → News h₀ L h' ((y, listOf (List.toArray ws) 0) :: news) → IntsAre ws (ns.drop x.toNat) → (∀ p ∈ news, p.1 < y) → Q (.ref y) { s with heap := h' })
    (hs : subscripted slice false (.ref l) (.ref s.heap.objs.size) = operate [.ref s.heap.objs.size, .ref l] (getItem (.ref l) (.ref s.heap.objs.size)) := by with_unfolding_all rfl) :
    wpAny (model prog w) A (subscriptTail value slice (.ref l) (.ref s.heap.objs.size)) Q E { s with heap := s.heap.push { cls := .type "slice", data := .fields #[.int x t, .none, .none] } } := by
  have hl : s.heap.IsList l vs.toArray := ⟨_, (N _ hm).1, rfl, _, rfl⟩
  refine tail_any (s := { s with heap := s.heap.push { cls := .type "slice", data := .fields #[.int x t, .none, .none] } }) (Heap.IsList.typeIs (s := { s with heap := s.heap.push { cls := .type "slice", data := .fields #[.int x t, .none, .none] } }) (hl.push _)) list_getitem_lookup
    (wpAny_getItem_list_slice (lo := some x) (hi := none) (hl.push _) (Heap.IsSliceOf.new ..) (by constructor) .none .none (by simp) ?_ (by rw [List.size_toArray, sizeLine_eq]; omega)) hs
  have N1 := News.push (F.push { cls := .type "slice", data := .fields #[.int x t, .none, .none] }) (N.grown fun _ _ e => Heap.get?_push_of_some _ e) { cls := .type "list", data := .seq (slicePick vs.toArray (some x) none none) }
  refine q _ (slicePick vs.toArray (some x) none none).toList _ ((F.push _).push _) ?_ (kmk_from hi h0) (fun p hp => ?_)
  · rw [Array.toArray_toList]
    exact N1
  · have h1 : p.1 < s.heap.objs.size := Heap.lt_size (N p hp).1
    have h2 : (s.heap.push { cls := .type "slice", data := .fields #[.int x t, .none, .none] }).objs.size = s.heap.objs.size + 1 := Heap.size_push ..
    exact Nat.lt_trans h1 (by show s.heap.objs.size < (Heap.push _ _).objs.size; rw [h2]; exact Nat.lt_succ_self _)
theorem cForS {M : Model} {A : Around} {E : Value → Shared → Prop} {s : Shared} {env : Env} {target iter : Expr} {body orelse : List Stmt} {pos : Pos} {Q : Flow → Shared → Prop}
    (h : wpAny M A (eval iter env) (fun x s₁ => Stopped (wpAny M A (pyIter x) (fun it s₂ =>
      codeC M A (.forLoop target it body orelse env) (fun r s' => match r with | .ok f => Q f s' | .error e => cameBackBy M A env E e s') s₂) E s₁)) E s)
    (hs : ∀ x, foldedSetIterable iter env x = pure x := by intro _; rfl) :
    wpC M A (exec (.For target iter body orelse pos) env) Q E s := cFor h hs
theorem law_holds : PySem.Challenge.rw_ad6002_01.Holds := hd (by
  k_with_none
  w_top off
  k_fill
  intro w s₀ s₁ mg mb G Y fa o pm cd doc dV kV ho hd' hcd hD hmg hg args vals as hpre hlay hrd hwl hlo
  have KX := kIn_of Y
  refine Ground.open G ?_
  intro T B D TE TW
  clear D
  wrow_args hpre hlay hrd hwl hlo
  refine chk_any ?_ ?_
  · have he := Dflts.none hD rfl
    subst he
    have he := Dflts.noKw hD
    subst he
    refine cCall ?_
    refine callC_cells (by decide) ho (fd_plain hd') (Top.nolimit T) hcd rfl (kinds_of (by kinds_ok)) (by decide) (fun h₁ tk₁ cells F N0 X0 => ?_)
    obtain ⟨oc, he, hoc⟩ := CellsAre.one X0
    subst he
    clear hd' hcd hmg ho X0
    have K0 : Below callerA s₁.heap [] s₁.heap := below_caller (Top.heap T)
    dsimp only
    refine cExecsA ?_
    k_steps
    (try dsimp only)
    refine cExecs (cAssignName (cList (cSpliced (cCallName ?_))))
    k_steps
    rename Fr _ _ _ _ => F1
    rename News _ _ _ _ => N1
    rename _ < _ => lD
    refine cCallWith0 (P := (hd.heap_39 w.params).In) (keeps_K (by k_is)) (KX.keeps F1.keep) ?_
    show wpC _ (aroundOf _ _ _ []) _ _ _ _
    refine mk_ok K0 F1 KX N1 T rfl rfl (by decide) (by decide) (fun h2 tk2 x0 d0 b0 t1 t2 tp F2 N2 l2 lx0 lb0 => ?_)
    clear F1 N1
    (try dsimp only)
    refine cSpliced (cCallName ?_)
    k_steps
    rename Fr _ _ _ _ => F1
    rename News _ _ _ _ => N1
    refine cCallWith0 (P := (hd.heap_39 w.params).In) (keeps_K (by k_is)) (KX.keeps F1.keep) ?_
    show wpC _ (aroundOf _ _ _ []) _ _ _ _
    refine mk_ok K0 F1 KX N1 T rfl rfl (by decide) (by decide) (fun h3 tk3 x1 d1 b1 t3 t4 tp1 F3 N3 l3 lx1 lb1 => ?_)
    clear F1 N1
    (try dsimp only)
    refine cSplicedNil ?_
    k_steps
    refine cExecsA ?_
    k_steps
    (try dsimp only)
    refine cExecsA ?_
    k_steps
    (try dsimp only)
    refine cExecsA ?_
    k_steps
    (try dsimp only)
    refine cExecs (cForS ?_)
    k_steps
    refine stopped ?_
    show wpAny _ (aroundOf _ _ _ []) _ _ _ _
    rename Fr _ _ _ _ => F1
    rename News _ _ _ _ => N1
    refine draws_ok K0 F1 KX N1 T rfl rfl (by decide) (by decide) (fun h5 tk5 y5 vs5 ns5 n5 F5 N5 hi5 hl5 lt5 => ?_)
    clear F1 N1
    (try dsimp only)
    k_lt lt5
    (try k_fold)
    k_steps
    refine stopped ?_
    rename Fr _ _ _ _ => F1
    rename News _ _ _ _ => N1
    have hv5 := hi5.length
    refine slice_from (s := ⟨_, _, _, _, _⟩) F1 N1 (.head _) hi5 (Int.natCast_nonneg _) (by omega) (fun y6 ws6 h6 F6 N6 hi6 lt6 => ?_)
    clear F1 N1
    (try dsimp only)
    k_lt lt6
    (try k_fold)
    k_steps
    rename Fr _ _ _ _ => F1
    rename News _ _ _ _ => N1
    rename IntsAre _ (_ ++ _) => hi7
    have hl7 := hi7.length
    simp only [List.length_append, List.length_drop, List.length_take, Int.toNat_natCast] at hl7
    change wpAny _ _ (pyIter _) _ _ _
    k_lt l2
    k_lt l3
    refine enter_loop T K0 KX F1 rfl rfl rfl rfl N1 hoc ?_ hi7 (by omega) (fun s9 g9 o9 h9 => ?_)
    · simp only [Chain, and_true]
      omega
    · (try dsimp only)
      obtain ⟨m9, r0, r1, oc9, vc9, turn9, tt9, ta9, tb9, tc9, td9, tp09, tp19, u09, u19, row0, row1, p0, p1, vs0, vs1, n0, n1, nf9, nr9, np9, F9, N9, hoc9, hp0, hp0', hp1, hp1'⟩ := h9
      have hgens : s9.gens = #[] := g9.trans hg
      have hos : s9.os = s₁.os := o9
      refine cExecsA ?_
      k_steps
      · refine GoodW.toG ?_
        rename Fr _ _ _ _ => F1
        have e1 : (p1 == [p0, p1].getD (Int.toNat 1) 0) = true := by simp
        rw [e1]
        refine goodW_bool F1 hgens (raisesW_false ?_) ?_ hos
        · wrow_none_raised
        · kc_post
      · rename _ ≠ _ => hbad
        exact (hbad rfl).elim
  · refine GoodW.toG ⟨.inl ⟨_, .bool true, [], rfl, raisesW_false ?_, .bool true, ?_, unshared_nil⟩, fun _ _ e => e, rfl, hg⟩
    · wrow_none_raised
    · kc_post)
end Mine
end

theorem PySem.Challenge.cw_ad6002_01_holds : PySem.Challenge.rw_ad6002_01.Holds := by
  exact Mine.law_holds
