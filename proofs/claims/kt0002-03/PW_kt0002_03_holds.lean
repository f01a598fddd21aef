import PyProof.Rows.All
import Wide.All
import OpenK.AllK
import Wide.FinOn
import PySem.Challenge.RW_kt0002_03
set_option Elab.async false
section
theorem Mine.fresh_Top03 : True := by
  w_top off
  trivial
open PySem PySem.W PyProof.Rows
set_option Elab.async false
set_option maxRecDepth 100000
set_option maxHeartbeats 8000000
namespace Mine
open_top hd03 for PySem.Challenge.rw_kt0002_03
end Mine
end
section
theorem Mine.fresh_B1 : True := by
  w_top off
  trivial
open PySem PySem.W PyProof.Rows PySem.Spec PySem.Calls
set_option Elab.async false
set_option maxRecDepth 100000
set_option maxHeartbeats 4000000
namespace Mine
open PySem.Builtin

theorem ba_mro : mroOf (.type "bytearray") = pure [.type "bytearray", .type "object"] := by rw [mroOf_type]; kernel_rfl
theorem ba_lookup_new : typeLookup (.type "bytearray") "__new__" = pure (some (.builtin "bytearray.__new__")) := by rw [typeLookup_type, builtinLookup_eq_fast]; kernel_rfl
theorem ba_slot_init : Slot "bytearray" "__init__" "bytearray.__init__" :=
  .of (owner := "bytearray") (n := "__init__") (by rw [typeLookup_type, builtinLookup_eq_fast]; kernel_rfl) (by decide +kernel) (by decide +kernel) (by decide +kernel)
    (by first | exact .inl (by decide +kernel) | exact .inr (by decide +kernel)) (by rw [isSubtype_type]; kernel_rfl)
theorem ba_called : TypeCalled "bytearray" "bytearray.__new__" "bytearray.__init__" :=
  ⟨by decide +kernel, by decide +kernel, ⟨_, _, ba_mro⟩, madeBy_type ba_mro ba_lookup_new (by decide +kernel), by decide +kernel, by rw [isSubtype_type]; kernel_rfl, ba_slot_init⟩
theorem ba_typeCall (a : Value) : checkTypeCall "bytearray" ⟨[a], []⟩ = pure () := by kernel_rfl
theorem ba_newCall (a : Value) : checkBuiltinCall "bytearray.__new__" ⟨[.type "bytearray", a], []⟩ = pure () := by kernel_rfl
theorem ba_plain : plainId "bytearray.__new__" = true := by decide +kernel
theorem ba_entry_new : entryFor table "bytearray.__new__" = some Builtin.«list.__new__» :=
  entryFor_alias (id' := "list.__new__") (by kernel_rfl) (by first | rfl | decide +kernel | (unfold String.splitOn; simp +decide [String.splitOnAux])) (by decide +kernel) (by kernel_rfl)
theorem ba_entry_init : entryFor table "bytearray.__init__" = some Builtin.«bytearray.__init__» := by first | exact entryFor_of_fast (by kernel_rfl) | exact entryFor_of_tree (by kernel_rfl)
theorem ba_args_init (a b : Value) : argsOk "bytearray.__init__" ⟨[a, b], []⟩ := by
  unfold argsOk; kernel_rfl
theorem ba_sub : isSubtype (.type "bytearray") (.type "bytearray") = pure true := by rw [isSubtype_type]; kernel_rfl
theorem ba_no_release : typeLookup (.type "bytearray") "__release_buffer__" = pure (some (.builtin "bytearray.__release_buffer__")) := by rw [typeLookup_type, builtinLookup_eq_fast]; kernel_rfl
theorem ba_buffer : typeLookup (.type "bytearray") "__buffer__" = pure (some (.builtin "bytearray.__buffer__")) := by rw [typeLookup_type, builtinLookup_eq_fast]; kernel_rfl
theorem ba_slot_setitem : Slot "bytearray" "__setitem__" "bytearray.__setitem__" :=
  .of (owner := "bytearray") (n := "__setitem__") (by rw [typeLookup_type, builtinLookup_eq_fast]; kernel_rfl) (by decide +kernel) (by decide +kernel) (by decide +kernel)
    (by first | exact .inl (by decide +kernel) | exact .inr (by decide +kernel)) (by rw [isSubtype_type]; kernel_rfl)
theorem ba_entry_setitem : entryFor table "bytearray.__setitem__" = some Builtin.«bytearray.__setitem__» := by first | exact entryFor_of_fast (by kernel_rfl) | exact entryFor_of_tree (by kernel_rfl)
theorem ba_args_setitem (a b c : Value) : argsOk "bytearray.__setitem__" ⟨[a, b, c], []⟩ := by
  unfold argsOk; kernel_rfl
end Mine
end
section
theorem Mine.fresh_B2 : True := by
  w_top off
  trivial
open PySem PySem.W PyProof.Rows PySem.Spec PySem.Calls
set_option Elab.async false
set_option maxRecDepth 100000
set_option maxHeartbeats 4000000
namespace Mine
open PySem.Builtin

set_option maxRecDepth 1000000 in
theorem ba_owner : ("bytearray.__new__".splitOn ".__new__").headD "" = "bytearray" := by simp +decide [String.splitOn, String.splitOnAux]

/-- a bytearray as an object -/
abbrev ba (b : Array UInt8) : Obj := { cls := .type "bytearray", data := .bytearray b }

section
variable {prog : Program} {w : World} {A : Around} {E : Value → Shared → Prop} {s : Shared}

theorem ba_code_new (a : Value) {Q₁ : Value → Shared → Prop}
    (h : Q₁ (.ref s.heap.objs.size) { s with heap := s.heap.push (ba #[]) }) :
    codeAny (model prog w) A (.call (.builtin "bytearray.__new__") ⟨[.type "bytearray", a], []⟩) (wants Q₁ E) s := by
  refine codeAny_of_tree ?_
  show wpAny _ A.in1 (do checkBuiltinCall "bytearray.__new__" ⟨[.type "bytearray", a], []⟩; again (.builtin "bytearray.__new__" ⟨[.type "bytearray", a], []⟩)) _ _ s
  refine wpAny_bind (wpAny_of_eq (ba_newCall a) (wpAny_pure ⟨plainId_quiet ba_plain _, codeAny_builtin_stack ba_entry_new rfl fun p st => ?_⟩))
  rw [Around.under_plainId ba_plain _]
  have hsub := ba_sub
  have hown := ba_owner
  obtain ⟨hp, g, d, tk, os⟩ := s
  simp only [hown]
  wp_walk
  exact h

theorem ba_ownRelease {a : Addr} {b : Array UInt8} {Q : Bool → Shared → Prop} (e : s.heap.get? a = some (ba b)) (h : Q false s) : wpAny (model prog w) A (Bytes.ownRelease (.ref a)) Q E s := by
  have hT : s.TypeIs (.ref a) "bytearray" := ⟨_, e, rfl⟩
  unfold Bytes.ownRelease Bytes.slotIsOwn
  refine wpAny_bind (wpAny_bind (wpAny_specialOf hT ba_no_release ?_))
  dsimp only
  rw [if_neg (by decide +kernel)]
  refine wpAny_isInstance (b := true) hT ?_ (wpAny_pure h)
  have e : ("bytearray.__release_buffer__".dropRight ("__release_buffer__".length + 1)) = "bytearray" := by decide +kernel
  rw [e]; exact ba_sub

theorem ba_write {a : Addr} {b : Array UInt8} {f : Array UInt8 → Array UInt8} {Q : Unit → Shared → Prop} (e : s.heap.get? a = some (ba b)) (hz : (f b).size ≤ sizeLine)
    (h : (s.heap.update a (Obj.mapBytearray f)).get? a = some (ba (f b)) → Q () { s with heap := s.heap.update a (Obj.mapBytearray f) }) : wpAny (model prog w) A (Bytes.write (.ref a) f) Q E s := by
  show wpAny _ _ (updateBytearray a f) _ _ _
  unfold updateBytearray
  refine wpAny_bind (wpAny_load e ?_)
  show wpAny _ _ (update a (Obj.mapBytearray f) >>= fun _ => lookBehind a) _ _ _
  refine wpAny_bind (wpAny_update e ?_)
  have e' : (s.heap.update a (Obj.mapBytearray f)).get? a = some (ba (f b)) := Heap.get?_update_self (Obj.mapBytearray f) e rfl
  refine wpAny_lookBehind e' ?_ (h e')
  show (if (f b).size > sizeLine then some "bytearray:memory" else none) = none
  rw [if_neg (Nat.not_lt.mpr hz)]

theorem ba_payload {a : Addr} {b : Array UInt8} {Q : Array UInt8 → Shared → Prop} (e : s.heap.get? a = some (ba b)) (h : Q b s) : wpAny (model prog w) A (Bytes.payload (.ref a)) Q E s := by
  unfold Bytes.payload Bytes.payload?
  exact wpAny_bind (wpAny_bind (wpAny_load e (wpAny_pure (wpAny_pure h))))
end
end Mine
end
section
theorem Mine.fresh_B3 : True := by
  w_top off
  trivial
open PySem PySem.W PyProof.Rows PySem.Spec PySem.Calls
set_option Elab.async false
set_option maxRecDepth 100000
set_option maxHeartbeats 4000000
namespace Mine
open PySem.Builtin
open Sem (wp)

/-- a code that holds no buffer open while it runs -/
def tame : Code → Bool
  | .builtin i _ => !Bytes.decodersThatHold.contains i
  | _ => true
def Tame (l : List (Code × Pos)) : Prop := ∀ x ∈ l, tame x.1 = true
theorem Tame.cons {c : Code} {p : Pos} {l : List (Code × Pos)} (h : tame c = true) (hl : Tame l) : Tame ((c, p) :: l) := fun x hx => by
  rcases List.mem_cons.mp hx with rfl | hx
  · exact h
  · exact hl x hx

/-- wpAny, over the contexts alone whose codes are tame -/
structure wpT {α : Type} (M : Model) (A : Around) (t : Sem α) (Q : α → Shared → Prop) (E : Value → Shared → Prop) (s : Shared) : Prop where
  out : ∀ Γ p, Γ.In A → tame Γ.code = true → Tame Γ.below → wp M Γ t (fun a _ s' => Q a s') (fun e _ s' => E e s') p s
structure codeT (M : Model) (A : Around) (c : Code) (R : Result → Shared → Prop) (s : Shared) : Prop where
  out : ∀ Γ p, Γ.code = c → Γ.Below A → Tame Γ.below → wpCode M Γ R p s

section
variable {α β : Type} {M : Model} {A : Around} {E : Value → Shared → Prop} {s : Shared}
theorem wpT_any {t : Sem α} {Q : α → Shared → Prop} (h : wpAny M A t Q E s) : wpT M A t Q E s := ⟨fun Γ p hi _ _ => h Γ p hi⟩
theorem wpT_mono {t : Sem α} {Q Q' : α → Shared → Prop} {E' : Value → Shared → Prop} (h : wpT M A t Q E s)
    (hQ : ∀ a s, Q a s → Q' a s) (hE : ∀ e s, E e s → E' e s) : wpT M A t Q' E' s :=
  ⟨fun Γ p hi hc hb => Sem.wp_mono M Γ t (fun a _ s => hQ a s) (fun e _ s => hE e s) p s (h.out Γ p hi hc hb)⟩
theorem wpT_pure {a : α} {Q : α → Shared → Prop} (h : Q a s) : wpT M A (pure a) Q E s := ⟨fun _ _ _ _ _ => h⟩
theorem wpT_bind {m : Sem α} {f : α → Sem β} {Q : β → Shared → Prop} (h : wpT M A m (fun a s' => wpT M A (f a) Q E s') E s) :
    wpT M A (m >>= f) Q E s := ⟨fun Γ p hi hc hb => by
  rw [Sem.wp_bind']
  exact Sem.wp_mono M Γ m (fun a p' s' h' => h'.out Γ p' hi hc hb) (fun _ _ _ h' => h') p s (h.out Γ p hi hc hb)⟩
/-- a leaf of the library's ahead of a tame rest -/
theorem wpT_leaf {m : Sem α} {f : α → Sem β} {Q : β → Shared → Prop} (h : wpAny M A m (fun a s' => wpT M A (f a) Q E s') E s) :
    wpT M A (m >>= f) Q E s := wpT_bind (wpT_any h)
theorem wpT_holding {vs : List Value} {m : Sem α} {Q : α → Shared → Prop} (h : wpT M A m Q E s) : wpT M A (holding vs m) Q E s :=
  ⟨fun Γ p hi hc hb => by rw [Sem.wp_holding]; exact h.out Γ p hi hc hb⟩
theorem wpT_keep {vs : List Value} {m : Sem α} {Q : α → Shared → Prop} (h : wpT M A m Q E s) : wpT M A (m.keep vs) Q E s :=
  ⟨fun Γ p hi hc hb => by rw [Sem.wp_keep]; exact h.out Γ p hi hc hb⟩
theorem wpT_onRaise {m : Sem α} {k : Value → Sem Unit} {Q : α → Shared → Prop}
    (h : wpT M A m Q (fun e s' => wpT M A (k e) (fun _ s'' => E e s'') E s') s) : wpT M A (m.onRaise k) Q E s := ⟨fun Γ p hi hc hb => by
  rw [Sem.wp_onRaise]
  exact Sem.wp_mono M Γ m (fun _ _ _ h' => h') (fun e p' s' h' => h'.out Γ p' hi hc hb) p s (h.out Γ p hi hc hb)⟩
theorem wpT_runValue {c : Code} {Q : Value → Shared → Prop}
    (hc : codeT M A c (fun r s' => match r with | .ok (.ret v) => Q v s' | .ok _ => False | .error e => E e s') s) :
    wpT M A (runValue c) Q E s := ⟨fun Γ p hi hct hb => by rw [Sem.wp_runValue]; exact hc.out _ p rfl (hi.enter c none p (by intro x; cases x)) (Tame.cons hct hb)⟩
theorem wpT_call {f : Value} {pos : List Value} {kw : List (Str × Value)} {Q : Value → Shared → Prop}
    (hc : codeT M A (.call f ⟨pos, kw⟩) (fun r s' => match r with | .ok (.ret v) => Q v s' | .ok _ => False | .error e => E e s') s) :
    wpT M A (call f pos kw) Q E s := wpT_runValue hc
theorem codeT_of_tree {c : Code} {R : Result → Shared → Prop} (hc : tame c = true)
    (h : wpT M (A.under c) (M.den c) (fun fin s' => match fin with | .done f => R (.ok f) s' | .again c' => c'.quiet = true ∧ codeT M A c' R s')
      (fun e s' => R (.error e) s') s) : codeT M A c R s := ⟨fun Γ p e hb ht => by
  rw [wpCode_iff_wp, e]
  refine Sem.wp_mono M Γ _ (fun fin p' s' h' => ?_) (fun _ _ _ h' => h') p s (h.out Γ p (e ▸ hb.in) (e ▸ hc) ht)
  cases fin with
  | done f => exact h'
  | again c' => exact ⟨h'.1, h'.2.out (Γ.goto c') p' rfl (hb.goto c') ht⟩⟩
end

section
variable {prog : Program} {w : World} {A : Around} {s : Shared} {R : Result → Shared → Prop}
theorem codeT_func {body env}
    (h : wpT (model prog w) (A.deeper env) (execs body env) (fun f s' => R (.ok (.ret (match f with | .ret v => v | _ => .none))) s')
      (fun e s' => wpT (model prog w) (A.deeper env) (leaving env e) (fun _ s'' => R (.error e) s'') (fun e' s'' => R (.error e') s'') s') s) :
    codeT (model prog w) A (.func body env) R s := by
  refine codeT_of_tree rfl ?_
  show wpT _ (A.deeper env) (do point; match ← (execs body env).onRaise (leaving env) with | .ret v => ret v | _ => ret .none) _ _ s
  refine wpT_leaf (wpAny_point (wpT_bind (wpT_onRaise (wpT_mono h (fun f s' h' => ?_) fun _ _ h' => h'))))
  cases f <;> exact wpT_pure h'
theorem codeT_call_function {a : Addr} {args : Args} {o : Obj} {fd : FuncData} {body : List Stmt} (hroom : A.depth < recursionLimit)
    (ho : s.heap.get? a = some o)
    (hd' : o.data = .func fd) (hco : fd.scope.isCoroutine = false) (hgen : fd.scope.isGenerator = false) (hbody : fd.body = .stmts body) (hcd : s.heap.CodeRec fd.code fd.qualname)
    (h : wpAny (model prog w) A.in1 (bindArgs fd args) (fun binds s₁ =>
      wpAny (model prog w) A.in1 (newFunctionEnv fd.scope fd.globals fd.closure binds (fd.qualname ++ ".<locals>.") (some a) fd.code none fd.builtins)
        (fun env s₂ => s₂.heap.NoLimit ∧ codeT (model prog w) A (.func body env) R s₂) (fun e s' => R (.error e) s') s₁) (fun e s' => R (.error e) s') s) :
    codeT (model prog w) A (.call (.ref a) args) R s := by
  refine codeT_of_tree rfl ?_
  show wpT _ A.in1 (callAny (.ref a) args) _ _ s
  simp only [callAny]
  refine wpT_leaf (wpAny_load ho ?_)
  obtain ⟨c, oc, vs, tq, hc, hoc, hdc, hq⟩ := hcd
  simp only [hd', callFunction, hco, hgen, hbody, hc]
  rw [hc] at h
  refine wpT_leaf (m := field (.ref c) 1) (wpAny_field hoc hdc hq (wpT_leaf (wpAny_pure ?_)))
  exact wpT_leaf (wpAny_mono h (fun binds s₁ h₁ => wpT_leaf (wpAny_mono h₁ (fun env s₂ h₂ => wpT_leaf (wpAny_enterFrame h₂.1 hroom
    (wpT_pure (And.intro rfl h₂.2)))) fun _ _ h' => h')) fun _ _ h' => h')
end
end Mine
end
section
theorem Mine.fresh_B4 : True := by
  w_top off
  trivial
open PySem PySem.W PyProof.Rows PySem.Spec PySem.Calls
set_option Elab.async false
set_option maxRecDepth 100000
set_option maxHeartbeats 4000000
namespace Mine
open PySem.Builtin
open Sem (wp)
section
variable {prog : Program} {w : World} {A : Around} {E : Value → Shared → Prop} {s : Shared}
theorem codeT_call_builtin {i : String} {args : Args} {b : Builtin} {R : Result → Shared → Prop} (hq : plainId i = true) (ht : tame (.builtin i args) = true) (hb : entryFor table i = some b)
    (h : wpAny (model prog w) A.in1 (checkBuiltinCall i args) (fun _ s₁ => wpT (model prog w) A.in1 (b args)
      (fun fin s' => match fin with | .done f => R (.ok f) s' | .again c' => c'.quiet = true ∧ codeT (model prog w) A c' R s') (fun e s' => R (.error e) s') s₁)
      (fun e s' => R (.error e) s') s) : codeT (model prog w) A (.call (.builtin i) args) R s := by
  refine codeT_of_tree rfl ?_
  show wpT _ A.in1 (do checkBuiltinCall i args; again (.builtin i args)) _ _ s
  refine wpT_leaf (wpAny_mono h (fun _ s₁ h₁ => wpT_pure (And.intro (plainId_quiet hq args) (codeT_of_tree ht ?_))) fun _ _ h' => h')
  show wpT _ _ (match entryFor table i with | some b => b args | none => unsupported ((withoutEnding? i "#data").getD i)) _ _ s₁
  rw [hb, Around.under_plainId hq args]; exact h₁

theorem codeT_builtin {i : String} {args : Args} {b : Builtin} {R : Result → Shared → Prop} (ht : tame (.builtin i args) = true) (hb : entryFor table i = some b)
    (h : wpT (model prog w) (A.under (.builtin i args)) (b args)
      (fun fin s' => match fin with | .done f => R (.ok f) s' | .again c' => c'.quiet = true ∧ codeT (model prog w) A c' R s') (fun e s' => R (.error e) s') s) :
    codeT (model prog w) A (.builtin i args) R s := by
  refine codeT_of_tree ht ?_
  show wpT _ _ (match entryFor table i with | some b => b args | none => unsupported ((withoutEnding? i "#data").getD i)) _ _ s
  rw [hb]; exact h

theorem callSpecialT_slot {self : Value} {T : String} {name : Str} {i : String} {args : List Value}
    {Q : Option Value → Shared → Prop} (hT : s.TypeIs self T) (h : Slot T name i)
    (hc : wpT (model prog w) A (call (.builtin i) (self :: args)) (fun v => Q (some v)) E s) : wpT (model prog w) A (callSpecial? self name args) Q E s := by
  simp only [callSpecial?]
  refine wpT_leaf (wpAny_specialOf hT h.lookup ?_)
  simp only [h.bind]
  exact wpT_holding (wpT_leaf (wpAny_pure (wpT_bind (wpT_mono hc (fun v s' h' => wpT_pure h') fun _ _ h' => h'))))

theorem ift_false {α : Type} {M : Model} {c : Bool} {a b : Sem α} {Q : α → Shared → Prop} (hc : c = false) (h : wpT M A b Q E s) : wpT M A (if c = true then a else b) Q E s := by
  subst hc
  exact h
theorem ift_true {α : Type} {M : Model} {c : Bool} {a b : Sem α} {Q : α → Shared → Prop} (hc : c = true) (h : wpT M A a Q E s) : wpT M A (if c = true then a else b) Q E s := by
  subst hc
  exact h

theorem callT_type {T newId initId : String} {Bi : Builtin} {args : List Value} {Q Q₁ : Value → Shared → Prop} (ft : TypeCalled T newId initId)
    (hct : checkTypeCall T ⟨args, []⟩ = pure ()) (entryI : entryFor table initId = some Bi) (hti : ∀ a, tame (.builtin initId a) = true)
    (hnew : codeAny (model prog w) A.in1 (.call (.builtin newId) ⟨.type T :: args, []⟩) (wants Q₁ E) s)
    (hnext : ∀ obj s₁, Q₁ obj s₁ → s₁.TypeIs obj T ∧ argsOk initId ⟨obj :: args, []⟩ ∧
      wpT (model prog w) A.in1.in1 (Bi ⟨obj :: args, []⟩)
        (fun fin s' => ∃ s'', fin = .done (.ret .none) ∧ s' = s'' ∧ Q obj s'') E s₁) :
    wpT (model prog w) A (call (.type T) args) Q E s := by
  obtain ⟨c, tl, hmro⟩ := ft.mro
  have hmade := ft.made
  have hsub := ft.sub
  refine wpT_call (codeT_of_tree rfl ?_)
  show wpT _ _ (callAny (.type T) _) _ _ _
  refine wpT_pure ⟨Code.quiet_builtin _ (by decide +kernel), codeT_builtin rfl F.entry_type_call ?_⟩
  rw [Around.under_plain (weight_type_call_type T args []) rfl]
  refine ift_false ft.notType ?_
  refine ift_false ft.canCreate ?_
  refine wpT_leaf (wpAny_of_eq hct ?_)
  refine wpT_leaf (wpAny_of_eq hmro ?_)
  refine ift_false rfl ?_
  refine wpT_leaf (wpAny_of_eq hmade (wpT_leaf (wpAny_pure ?_)))
  refine wpT_leaf (wpAny_holding (wpAny_call (codeAny_mono hnew fun r s₁ hr => ?_)))
  cases r with
  | error e => exact hr
  | ok fl =>
    cases fl with
    | ret obj =>
      obtain ⟨hT, hok, hsi⟩ := hnext _ _ hr
      refine wpT_leaf (wpAny_isInstance (b := true) hT hsub ?_)
      refine ift_false rfl ?_
      refine wpT_bind (wpT_holding (callSpecialT_slot (name := Str.ofString "__init__") hT ft.init ?_))
      refine wpT_call (codeT_call_builtin ft.init.plain (hti _) entryI (ft.init.check _ _ _ _ _ _ _ _ hT hok (wpT_mono hsi (fun fin s' h' => ?_) fun _ _ x => x)))
      obtain ⟨s'', rfl, rfl, hq⟩ := h'
      show wpT _ _ (if (Value.none != Value.none) = true then _ else _) _ _ _
      refine ift_false (by decide) ?_
      exact wpT_pure hq
    | _ => exact hr.elim
end
end Mine
end
section
theorem Mine.fresh_B5 : True := by
  w_top off
  trivial
open PySem PySem.W PyProof.Rows PySem.Spec PySem.Calls
set_option Elab.async false
set_option maxRecDepth 100000
set_option maxHeartbeats 4000000
namespace Mine
open PySem.Builtin
open Sem (wp)

def holdF (self : Value) : Code × Pos → Bool
    | (.builtin "bytearray.__contains__" ⟨v :: _, _⟩, _) | (.builtin "bytearray.__mod__" ⟨v :: _, _⟩, _)
    | (.builtin "bytearray.__rmod__" ⟨_ :: v :: _, _⟩, _) | (.builtin "_struct.pack_into.held" ⟨v :: _, _⟩, _) => Bytes.sameRef v self
    | (.builtin "bytearray.find.held" ⟨_ :: _ :: held, _⟩, _) => held.any (Bytes.sameRef self)
    | (.builtin i ⟨v :: _, _⟩, _) => Bytes.sameRef v self && Bytes.decodersThatHold.contains i
    | _ => false
theorem exported_eq (self : Value) : Bytes.exported self = (do return (← stack).any (holdF self)) := rfl

theorem holdF_false {self : Value} {c : Code} {p : Pos} (ht : tame c = true) (hg : c.isGuard = false) : holdF self (c, p) = false := by
  cases hh : holdF self (c, p) with
  | false => rfl
  | true =>
    exfalso
    unfold holdF at hh
    split at hh
    · rename_i e; cases e; exact absurd hg (by show ¬ (guardIds.contains "bytearray.__contains__" = false); decide +kernel)
    · rename_i e; cases e; exact absurd hg (by show ¬ (guardIds.contains "bytearray.__mod__" = false); decide +kernel)
    · rename_i e; cases e; exact absurd hg (by show ¬ (guardIds.contains "bytearray.__rmod__" = false); decide +kernel)
    · rename_i e; cases e; exact absurd hg (by show ¬ (guardIds.contains "_struct.pack_into.held" = false); decide +kernel)
    · rename_i e; cases e; exact absurd hg (by show ¬ (guardIds.contains "bytearray.find.held" = false); decide +kernel)
    · rename_i e
      cases e
      simp only [tame, Bool.not_eq_true'] at ht
      rw [ht] at hh
      simp at hh
    · cases hh

theorem guards_none : ∀ {l : List (Code × Pos)}, guardsOf l = [] → ∀ x ∈ l, x.1.isGuard = false
  | [], _, _, h => nomatch h
  | (c, p) :: l, e, x, h => by
    rw [guardsOf_cons] at e
    obtain ⟨e1, e2⟩ := List.append_eq_nil_iff.mp e
    rcases List.mem_cons.mp h with rfl | h
    · cases hc : c.isGuard with
      | false => rfl
      | true => simp [Code.guards, hc] at e1
    · exact guards_none e2 x h

section
variable {M : Model} {A : Around} {E : Value → Shared → Prop} {s : Shared}
theorem exportedT {self : Value} {Q : Bool → Shared → Prop} (hg : A.guards = some []) (h : Q false s) : wpT M A (Bytes.exported self) Q E s := ⟨fun Γ p hi hc hb => by
  rw [exported_eq]
  show Q (((Γ.code, p) :: Γ.below).any (holdF self)) s
  have e : ((Γ.code, p) :: Γ.below).any (holdF self) = false := by
    have hgs := hi.2.2.2.1 [] hg
    obtain ⟨e1, e2⟩ := List.append_eq_nil_iff.mp hgs
    rw [List.any_eq_false]
    intro x hx
    rcases List.mem_cons.mp hx with rfl | hx
    · rw [holdF_false hc (by
        cases hq : Γ.code.isGuard with
        | false => rfl
        | true => simp [Code.guards, hq] at e1)]
      simp
    · obtain ⟨c, q⟩ := x
      rw [holdF_false (hb _ hx) (guards_none e2 _ hx)]
      simp
  rw [e]; exact h⟩
end
end Mine
end
section
theorem Mine.fresh_B6 : True := by
  w_top off
  trivial
open PySem PySem.W PyProof.Rows PySem.Spec PySem.Calls
set_option Elab.async false
set_option maxRecDepth 100000
set_option maxHeartbeats 4000000
namespace Mine
open PySem.Builtin
open Sem (wp)

theorem ba_bind (v : Value) : Bytes.bindOptional "bytearray.__init__" "bytearray" ["source", "encoding", "errors"] [v] [] = pure [some v, none, none] := by kernel_rfl

section
variable {prog : Program} {w : World} {A : Around} {E : Value → Shared → Prop} {s : Shared}

theorem ift_prop_neg {α : Type} {M : Model} {c : Prop} [Decidable c] {a b : Sem α} {Q : α → Shared → Prop} (hc : ¬ c) (h : wpT M A b Q E s) : wpT M A (if c then a else b) Q E s := by
  rw [if_neg hc]; exact h
theorem ift_prop_pos {α : Type} {M : Model} {c : Prop} [Decidable c] {a b : Sem α} {Q : α → Shared → Prop} (hc : c) (h : wpT M A a Q E s) : wpT M A (if c then a else b) Q E s := by
  rw [if_pos hc]; exact h
theorem ba_init {a : Addr} {n : Int} {t : Tok} {Q : Fin → Shared → Prop} (hg : A.guards = some []) (e : s.heap.get? a = some (ba #[])) (h0 : 0 ≤ n) (hn : n ≤ 16777216)
    (h : ∀ h', h'.get? a = some (ba (Array.replicate n.toNat 0)) → Heap.SameBut a s.heap h' → Q (.done (.ret .none)) { s with heap := h' }) :
    wpT (model prog w) A (Builtin.«bytearray.__init__» ⟨[.ref a, .int n t], []⟩) Q E s := by
  unfold Builtin.«bytearray.__init__»
  refine wpT_leaf (ba_ownRelease e ?_)
  refine ift_false rfl ?_
  refine wpT_leaf (wpAny_of_eq (ba_bind _) ?_)
  refine wpT_leaf (wpAny_of_eq (a := ()) rfl ?_)
  refine wpT_leaf (wpAny_of_eq (a := ()) rfl ?_)
  refine wpT_bind ?_
  unfold orM
  refine wpT_bind (exportedT hg ?_)
  show wpT _ _ (Bytes.exportsOf (Value.ref a) >>= fun n => pure (decide (n > 0))) _ _ _
  refine wpT_leaf ?_
  unfold Bytes.exportsOf
  refine wpAny_bind (wpAny_load e (wpAny_pure ?_))
  refine wpT_pure ?_
  refine ift_false rfl ?_
  refine wpT_leaf (ba_write e (Nat.zero_le _) fun e₁ => ?_)
  refine wpT_leaf (wpAny_of_eq (a := none) rfl ?_)
  refine ift_false rfl ?_
  refine wpT_leaf (wpAny_of_eq (a := ()) rfl ?_)
  refine wpT_leaf (wpAny_specialOf (T := "int") (typeIs_int _ n t) int_index ?_)
  refine ift_true rfl ?_
  refine wpT_leaf (wpAny_attempt (wpAny_of_eq (rfl : asIndex (.int n t) = pure n) ?_))
  dsimp only
  refine ift_false (by simp [Bytes.fitsIndex]; omega) ?_
  refine ift_prop_neg (by omega) ?_
  refine ift_false (by simp; omega) ?_
  refine ift_false (by simp [Bytes.tooLong, sizeLine_eq]; omega) ?_
  refine wpT_leaf (wpAny_rule ?_)
  have hb₁ : Heap.SameBut a s.heap (s.heap.update a (Obj.mapBytearray fun _ => #[])) := Heap.SameBut.update ..
  by_cases hp : n > 0
  · refine ift_prop_pos hp ?_
    refine wpT_leaf (ba_write e₁ (by simp [sizeLine_eq]; omega) fun e₂ => ?_)
    exact wpT_leaf (wpAny_pure (wpT_pure (h _ e₂ (hb₁.trans (Heap.SameBut.update ..)))))
  · refine ift_prop_neg hp ?_
    have hn0 : n = 0 := by omega
    subst hn0
    exact wpT_leaf (wpAny_pure (wpT_pure (h _ e₁ hb₁)))
end
end Mine
end
section
theorem Mine.fresh_B7 : True := by
  w_top off
  trivial
open PySem PySem.W PyProof.Rows PySem.Spec PySem.Calls
set_option Elab.async false
set_option maxRecDepth 100000
set_option maxHeartbeats 4000000
namespace Mine
open PySem.Builtin
open Sem (wp)

section
variable {prog : Program} {w : World} {A : Around} {E : Value → Shared → Prop} {s : Shared} {h₀ : Heap} {L : Addr} {m : Str → Option Value} {news : List (Addr × Obj)}

theorem ba_callT {n : Int} {t : Tok} {Q : Value → Shared → Prop} (hg : A.guards = some []) (F : Fr h₀ L s.heap m) (N : News h₀ L s.heap news) (h0 : 0 ≤ n) (hn : n ≤ 16777216)
    (h : ∀ D h', Fr h₀ L h' m → News h₀ L h' ((D, ba (Array.replicate n.toNat 0)) :: news) → (∀ p ∈ news, p.1 < D) → Q (.ref D) { s with heap := h' }) :
    wpT (model prog w) A (call (.type "bytearray") [.int n t]) Q E s := by
  refine callT_type (Q₁ := fun obj s₁ => obj = .ref s.heap.objs.size ∧ s₁ = { s with heap := s.heap.push (ba #[]) }) ba_called (ba_typeCall _) ba_entry_init (fun _ => by show (!Bytes.decodersThatHold.contains "bytearray.__init__") = true; decide +kernel)
    (ba_code_new _ ⟨rfl, rfl⟩) ?_
  rintro obj s₁ ⟨rfl, rfl⟩
  have hD : (s.heap.push (ba #[])).get? s.heap.objs.size = some (ba #[]) := Heap.get?_push_size _ rfl
  refine ⟨⟨_, hD, rfl⟩, ba_args_init _ _, ba_init hg hD h0 hn fun h' e' hs => ⟨_, rfl, rfl, ?_⟩⟩
  have N1 := News.push F N (ba #[])
  exact h _ h' ((F.push _).change hs (N1 _ (.head _)).2.1 (N1.fresh (.head _))) (N1.setHead N.apart hs e') fun p hp => Heap.lt_size (N p hp).1

theorem subscript_int {k : Int} {t : Tok} {Q : Option Int → Shared → Prop} (hl : -(2 ^ 63) ≤ k) (hf : k < 2 ^ 63) (h : Q (some k) s) : wpAny (model prog w) A (Bytes.subscript? (.int k t)) Q E s := by
  unfold Bytes.subscript?
  refine wpAny_bind (wpAny_specialOf (T := "int") (typeIs_int s k t) int_index ?_)
  refine bm_if_false rfl ?_
  refine wpAny_bind (wpAny_of_eq (a := k) rfl ?_)
  refine bm_if_false (by simp only [Bytes.fitsIndex, Bool.not_eq_false', Bool.and_eq_true, decide_eq_true_eq]; omega) ?_
  exact wpAny_pure h

theorem ba_setItem {a : Addr} {b : Array UInt8} {k x : Int} {t u : Tok} {Q : Unit → Shared → Prop} (e : s.heap.get? a = some (ba b)) (hz : b.size ≤ 16777216) (h0 : 0 ≤ k) (hk : k < (b.size : Int)) (hx0 : 0 ≤ x) (hx : x < 256)
    (h : ∀ h', h'.get? a = some (ba (b.setIfInBounds k.toNat x.toNat.toUInt8)) → Heap.SameBut a s.heap h' → Q () { s with heap := h' }) :
    wpAny (model prog w) A (setItem (.ref a) (.int k t) (.int x u)) Q E s := by
  have hT : s.TypeIs (.ref a) "bytearray" := ⟨_, e, rfl⟩
  unfold setItem
  refine wpAny_holding ?_
  refine wpAny_bind (wpAny_sequenceKey hT (by decide) ?_)
  refine wpAny_bind (wpAny_callSpecial?_slot (name := Str.ofString "__setitem__") hT ba_slot_setitem
    (wpAny_call_entry ba_slot_setitem hT ba_entry_setitem ?_ (ba_args_setitem _ _ _)))
  unfold Builtin.«bytearray.__setitem__»
  refine bm_if_false rfl ?_
  refine wpAny_bind (subscript_int (by omega) (by omega) ?_)
  refine wpAny_bind ?_
  unfold Bytes.byteValue
  refine wpAny_bind (wpAny_of_eq (a := x) rfl ?_)
  refine bm_if_false (by simp; omega) (wpAny_pure ?_)
  refine wpAny_bind (ba_payload e ?_)
  have hi : seqIndex? k b.size = some k.toNat := by
    unfold seqIndex?
    have : ¬ k < 0 := by omega
    simp only [this, if_false]
    rw [if_pos]
    simp; omega
  rw [hi]
  refine wpAny_bind (ba_write e (by simp [sizeLine_eq]; omega) fun e' => ?_)
  exact wpAny_bind (wpAny_pure (wpAny_pure ⟨_, rfl, wpAny_pure (h _ e' (Heap.SameBut.update ..))⟩))

theorem ba_slotOwn {a : Addr} {b : Array UInt8} {Q : Bool → Shared → Prop} (e : s.heap.get? a = some (ba b)) (h : Q true s) : wpAny (model prog w) A (Bytes.slotIsOwn (.ref a) "__buffer__") Q E s := by
  have hT : s.TypeIs (.ref a) "bytearray" := ⟨_, e, rfl⟩
  unfold Bytes.slotIsOwn
  refine wpAny_bind (wpAny_specialOf hT ba_buffer ?_)
  dsimp only
  rw [if_neg (by decide +kernel)]
  refine wpAny_isInstance (b := true) hT ?_ h
  have e : ("bytearray.__buffer__".dropRight ("__buffer__".length + 1)) = "bytearray" := by decide +kernel
  rw [e]; exact ba_sub

theorem ba_buffer? {a : Addr} {b : Array UInt8} {i : String} {Q : Option (Array UInt8) → Shared → Prop} (e : s.heap.get? a = some (ba b)) (h : Q (some b) s) : wpAny (model prog w) A (Bytes.buffer? i (.ref a) true) Q E s := by
  have hT : s.TypeIs (.ref a) "bytearray" := ⟨_, e, rfl⟩
  unfold Bytes.buffer?
  refine wpAny_bind (wpAny_specialOf hT ba_buffer ?_)
  refine wpAny_bind (ba_slotOwn e ?_)
  refine bm_if_false rfl ?_
  refine wpAny_bind (wpAny_specialOf hT ba_buffer ?_)
  refine wpAny_bind (ba_ownRelease e ?_)
  refine bm_if_false rfl ?_
  exact wpAny_bind (ba_payload e (wpAny_pure h))

theorem ba_no_bytes : typeLookup (.type "bytearray") "__bytes__" = pure none := by rw [typeLookup_type, builtinLookup_eq_fast]; kernel_rfl
theorem ba_no_index : typeLookup (.type "bytearray") "__index__" = pure none := by rw [typeLookup_type, builtinLookup_eq_fast]; kernel_rfl

theorem ba_bytes_new {a : Addr} {b : Array UInt8} {Q : Value → Shared → Prop} (e : s.heap.get? a = some (ba b)) (hz : b.size ≤ 16777216)
    (h : ∀ t k, Q (.bytes b t) { s with toks := k }) : codeAny (model prog w) A (.call (.builtin "bytes.__new__") ⟨[.type "bytes", .ref a], []⟩) (wants Q E) s := by
  refine codeAny_of_tree ?_
  show wpAny _ A.in1 (do checkBuiltinCall "bytes.__new__" ⟨[.type "bytes", .ref a], []⟩; again (.builtin "bytes.__new__" ⟨[.type "bytes", .ref a], []⟩)) _ _ s
  refine wpAny_bind (wpAny_of_eq (F.bm_newCall _) (wpAny_pure ⟨plainId_quiet F.bm_plain _, codeAny_builtin F.bm_entry ?_⟩))
  rw [Around.under_plainId F.bm_plain _]
  have hT : s.TypeIs (.ref a) "bytearray" := ⟨_, e, rfl⟩
  unfold Builtin.«bytes.__new__»
  refine wpAny_bind (wpAny_of_eq (a := true) rfl ?_)
  refine bm_if_false rfl ?_
  refine wpAny_bind (wpAny_of_eq F.bm_sub ?_)
  refine bm_if_false rfl ?_
  refine wpAny_bind (wpAny_of_eq (F.bm_bind _) ?_)
  refine wpAny_bind (wpAny_of_eq (a := ()) rfl ?_)
  refine wpAny_bind (wpAny_of_eq (a := ()) rfl ?_)
  refine bm_if_false rfl ?_
  refine wpAny_bind (wpAny_specialOf hT ba_no_bytes ?_)
  refine wpAny_bind (wpAny_bind ?_)
  show wpAny _ _ (load a >>= _) _ _ _
  refine wpAny_bind (wpAny_load e ?_)
  refine wpAny_pure (wpAny_pure ?_)
  refine bm_if_false rfl ?_
  refine wpAny_bind (wpAny_specialOf hT ba_no_index ?_)
  refine bm_if_true rfl ?_
  refine wpAny_bind (ba_buffer? e ?_)
  refine wpAny_bind (wpAny_rule ?_)
  refine wpAny_bind (wpAny_mkBytes ?_ (by simp [sizeLine_eq]; omega))
  show wpAny _ _ (if (Value.type "bytes" == Value.type "bytes") = true then _ else _) _ _ _
  refine bm_if_true (by decide) ?_
  first
    | exact wpAny_pure (h _ _)
    | exact wpAny_bind (wpAny_pure (wpAny_pure (h _ _)))

theorem ba_bytes {a : Addr} {b : Array UInt8} {Q : Value → Shared → Prop} (e : s.heap.get? a = some (ba b)) (hz : b.size ≤ 16777216)
    (h : ∀ t k, Q (.bytes b t) { s with toks := k }) : wpAny (model prog w) A (call (.type "bytes") [.ref a]) Q E s := by
  refine callType_codes (Q₁ := fun obj s₁ => s₁.TypeIs obj "bytes" ∧ Q obj s₁) F.bm_called (F.bm_typeCall _) F.entry_object_init
    (ba_bytes_new e hz fun t k => ⟨typeIs_bytes _ _ _, h t k⟩) fun obj s₁ h₁ => ?_
  exact ⟨h₁.1, F.args_object_init_2 obj _, object_init_meets F.bm_called.init.lookup F.bm_called.made (by decide) prog w A.in1 _ s₁ ⟨h₁.1, rfl, h₁.2⟩⟩
end
end Mine
end
section
theorem Mine.fresh_B8 : True := by
  w_top off
  trivial
open PySem PySem.W PyProof.Rows PySem.Spec PySem.Calls
set_option Elab.async false
set_option maxRecDepth 100000
set_option maxHeartbeats 4000000
namespace Mine
open Sem (wp)

theorem sched_skip {den : Code → Sem Fin} {prog : Program} {w : World} {s s' : Shared} {k : List (Code × Pos) → Sem Fin} {c : Code} {p : Pos} {n : Nat} {o : Outcome} (hs : s.asleep)
    (h : schedN den prog w n (.single s ⟨stack >>= k, c, p, []⟩) = .halted o s') : ∃ n', schedN den prog w n' (.single s ⟨k [(c, p)], c, p, []⟩) = .halted o s' := by
  cases n with
  | zero => cases h
  | succ n =>
    have hst : step den prog w s ⟨stack >>= k, c, p, []⟩ = .go s ⟨k [(c, p)], c, p, []⟩ := by
      obtain ⟨a, b, d, t, os⟩ := s; rfl
    rcases sstep_single den prog w s ⟨stack >>= k, c, p, []⟩ rfl hs with e | e
    · rw [hst] at e
      refine ⟨n, ?_⟩
      simp only [schedN, e] at h
      exact h
    · rw [hst] at e; cases e

/-- the stack is the claim's caller alone -/
def alone : List (Code × Pos) → Bool
  | [(.builtin "claim.caller" _, _)] => true
  | _ => false

theorem callFrom_conv {c : ClaimW} {w : World} {free : Addr → Prop} {gens : Prop} {kept : Heap → Prop} {s : Shared} {tree : List Value → Sem Fin} {other : Sem Fin} (hs : s.asleep)
    (h : c.CallFrom (fun vs => ⟨stack >>= fun st => if alone st then tree vs else other, .builtin "claim.caller" {}, default, []⟩) w free gens kept s) :
    c.CallFrom (fun vs => ⟨tree vs, .builtin "claim.caller" {}, default, []⟩) w free gens kept s := by
  intro args hpre hlay ord hord
  obtain ⟨vs, s₁, hlaid, n, o, s', hr, rest⟩ := h args hpre hlay ord hord
  have hal := layAllW_rest _ _ _ hlaid
  obtain ⟨n', hr'⟩ := sched_skip (Shared.asleep_of_life hal.2.2.2 hs) hr
  exact ⟨vs, s₁, hlaid, n', o, s', hr', rest⟩

theorem holdsOpenBy_conv {c : ClaimW} {defs keeps : List Str} {writes : Bool} {tree : List Value → Sem Fin} {other : Sem Fin}
    (hs : ∀ w s, AfterRun (opening c.prog) w s → ∃ s₀, fenceModules? c.prog s = some s₀ ∧ s₀.asleep)
    (h : c.HoldsOpenBy (fun vs => ⟨stack >>= fun st => if alone st then tree vs else other, .builtin "claim.caller" {}, default, []⟩) defs keeps writes) :
    c.HoldsOpenBy (fun vs => ⟨tree vs, .builtin "claim.caller" {}, default, []⟩) defs keeps writes := by
  refine ⟨h.1, h.2.1, fun w => ⟨(h.2.2 w).1, fun s hr => ?_⟩⟩
  obtain ⟨s₀, a, b, s₁, d, e, f, g, k⟩ := (h.2.2 w).2 s hr
  obtain ⟨s₀', a', hz⟩ := hs w s hr
  rw [a] at a'
  cases a'
  exact ⟨s₀, a, b, s₁, d, e, f, g, callFrom_conv (Shared.asleep_of_life d.2.1 hz) k⟩
end Mine
end
section
theorem Mine.fresh_B9 : True := by
  w_top off
  trivial
open PySem PySem.W PyProof.Rows PySem.Spec PySem.Calls
set_option Elab.async false
set_option maxRecDepth 100000
set_option maxHeartbeats 4000000
namespace Mine
open Sem (wp)

theorem wp_stack_bind {α : Type} {M : Model} {Γ : PySem.Ctx} {k : List (Code × Pos) → Sem α} {Q : α → Pos → Shared → Prop} {E : Value → Pos → Shared → Prop} {p : Pos} {s : Shared} :
    wp M Γ (stack >>= k) Q E p s = wp M Γ (k ((Γ.code, p) :: Γ.below)) Q E p s := by
  rw [Sem.wp_bind']; unfold stack; rw [Sem.wp_stack, Sem.wp_pure]

theorem alone_ctx {Γ : PySem.Ctx} {p : Pos} (h : alone ((Γ.code, p) :: Γ.below) = true) : tame Γ.code = true ∧ Tame Γ.below := by
  unfold alone at h
  split at h
  · rename_i a q e
    obtain ⟨e1, e2⟩ := List.cons.inj e
    obtain ⟨e3, _⟩ := Prod.mk.inj e1
    rw [e3, e2]
    exact ⟨by show (!Builtin.Bytes.decodersThatHold.contains "claim.caller") = true; decide +kernel, fun _ h => nomatch h⟩
  · cases h

/-- a call that is run where the stack is the caller's alone -/
def runA (f : Value) (vs : List Value) : Sem Value := stack >>= fun st => if alone st then call f vs else pure (.bool true)
def treeA (name : Str) (vs : List Value) : Sem Fin := do
  match ← nsGet mainNs name with
  | some f => do ret (← call f vs)
  | none => unsupported "claim.caller:no-such-global"

theorem runA_of {M : Model} {f : Value} {vs : List Value} {Q : Value → Shared → Prop} {E : Value → Shared → Prop} {s : Shared} (h : wpT M callerA (call f vs) Q E s) (ht : Q (.bool true) s) :
    wpAny M callerA (runA f vs) Q E s := fun Γ p hi => by
  unfold runA
  rw [wp_stack_bind]
  cases ha : alone ((Γ.code, p) :: Γ.below) with
  | false => exact ht
  | true =>
    obtain ⟨t1, t2⟩ := alone_ctx ha
    exact h.out Γ p hi t1 t2

theorem treeA_of {M : Model} {name : Str} {vs : List Value} {f : Value} {mg : Str → Option Value} {Q : Fin → Shared → Prop} {E : Value → Shared → Prop} {s : Shared} (hg : s.heap.Ns mainGlobals mg) (hf : mg name = some f)
    (h : wpAny M callerA (runA f vs) (fun v s' => Q (.done (.ret v)) s') E s) :
    wpAny M callerA (stack >>= fun st => if alone st then treeA name vs else ret (.bool true)) Q E s := fun Γ p hi => by
  have h' := h Γ p hi
  unfold runA at h'
  rw [wp_stack_bind] at h' ⊢
  cases ha : alone ((Γ.code, p) :: Γ.below) with
  | false => rw [ha] at h'; exact h'
  | true =>
    rw [ha] at h'
    simp only [if_true] at h' ⊢
    show wp M Γ (nsGet mainGlobals name >>= _) _ _ p s
    rw [Sem.wp_bind', Sem.wp_nsGet M Γ _ p s hg name, hf]
    show wp M Γ (call f vs >>= fun v => ret v) _ _ p s
    rw [Sem.wp_bind']
    exact Sem.wp_mono M Γ _ (fun v p' s' hv => hv) (fun _ _ _ x => x) p s h'

abbrev WalkT (q : Program) (loose : List Str) (XP : (Str → Option Value) → Heap → Prop) (YP : World → Heap → Prop) (r : RowW) (d : DefRec) (kwd : List (Str × Expr)) : Prop :=
  ∀ (w : World) (s₀ s₁ : Shared) (mg mb : Str → Option Value), Ground q loose r.records XP w s₀ mg mb s₁.heap → YP w s₁.heap → ∀ (a : Addr) (o : Obj) (pm cd doc dV kV : Value), s₁.heap.get? a = some o →
    o.data = .func { docDef d.name d.params d.body d.scope pm cd doc with defaults := dV, kwdefaults := kV } → s₁.heap.CodeRec cd d.name → Dflts mg s₁.heap d.params kwd dV kV → mg d.name = some (.ref a) → s₁.gens = #[] →
    ∀ (args : List WData) (vals : List Value) (as : List Addr), r.claim.pre args = true → WData.layableAll args = true → ReadsAllW r.records (classAt s₀.heap) s₁.heap vals args as → WellAll w.params s₁.heap vals args → (∀ a ∈ as, (a == sysModules) = false) →
      wpT (model r.prog w) callerA (call (.ref a) vals) (fun v s' => GoodWG r.claim (classAt s₀.heap) (ExcName.means s₀.heap) args s₁ (.ok (.ret v)) s')
        (fun e s' => GoodWG r.claim (classAt s₀.heap) (ExcName.means s₀.heap) args s₁ (.error e) s') s₁ ∧
      GoodWG r.claim (classAt s₀.heap) (ExcName.means s₀.heap) args s₁ (.ok (.ret (.bool true))) s₁

theorem holds_tame {r : OpenRow} {q : Program} {loose : List Str} {Xt : Shared → Bool} {XP : (Str → Option Value) → Heap → Prop} {α : Type} {Yf : Shared → α} {Ya : World → α} {YP : World → Heap → Prop} {d : DefRec} {kwd : List (Str × Expr)} {N : Nat}
    (left : LeftO r.prog q loose Xt Yf Ya N) (hY : ∀ w s, Yf s = Ya w → YP w s.heap) (hYk : ∀ w h h', YP w h → (∀ b o, h.get? b = some o → h'.get? b = some o) → YP w h')
    (hX : ∀ s, Xt s = true → XP (s.heap.nsMap mainGlobals) s.heap) (hXk : ∀ mg h h', XP mg h → (∀ b o, h.get? b = some o → h'.get? b = some o) → XP mg h')
    (hdef : defOf q r.name = some (d, kwd)) (hp : r.prog.theDef r.name = some (d.params, d.body, d.scope)) (hk : kwWritten? d.params.kwonlyargs d.params.kw_defaults = some kwd) (hRf : ∀ s, Xt s = true → RecFacts r.records s.heap) (hwr : (!r.writes || r.records.isEmpty) = true)
    (k1 : r.wellSaid = true) (ok : (chainsOk q && opensWell r.prog && (frees r.toRowW && r.within.isEmpty)) = true) (hb : r.prog.bare) (hw : r.toRowW.promised)
    (call : WalkT q loose XP YP r.toRowW d kwd) : r.Holds := by
  refine ⟨k1, hw, ?_⟩
  refine holdsOpenBy_conv (tree := treeA r.name) (other := ret (.bool true)) (fun w s hr => ?_) ?_
  · have ok' := ok
    obtain ⟨ok', _⟩ := Bool.and_eq_true_iff.mp ok'
    obtain ⟨hch, _⟩ := Bool.and_eq_true_iff.mp ok'
    obtain ⟨s₀, hf, _, s₁, hT, hz, _⟩ := (left.behind hX hch w).2 s hr
    exact ⟨s₀, hf, Shared.asleep_of_life hT.2.1.symm hz⟩
  · refine open_anyG (r := r.toRowW) (run := runA) left hY hYk hX hXk hRf hwr ok hb hw (fun vs w s mg f Q E hg hf h => treeA_of hg hf h) (fun w s hg G n hn => ?_) fun w s₀ s₁ mg mb G Y args vs as hpre hlay L low => ?_
    · obtain rfl : n = r.name := by split at hn <;> simp_all
      exact pinned_of_view hg G hdef hp hk
    · obtain ⟨a, o, pm, cd, doc, dV, kV, h1, h2, h3, h4, h5⟩ := G.fn hdef
      obtain ⟨w1, w2⟩ := call w s₀ s₁ mg mb G Y a o pm cd doc dV kV h2 h3 h4 h5 (defOf_name hdef ▸ h1) L.gens args vs as hpre hlay L.reads L.well (L.low low)
      exact ⟨.ref a, h1, runA_of w1 w2⟩
end Mine
end
section
theorem Mine.fresh_L03 : True := by
  w_top off
  trivial
open PySem PySem.W PyProof.Rows
set_option Elab.async false
set_option maxRecDepth 100000
set_option maxHeartbeats 8000000
namespace Mine
noncomputable def hook03 : Hook := kHook hd03.heap_39
        [2, 3, 6, 15, 17, 18, 20, 21, 22, 23, 24, 26, 27, 29, 30, 31, 32, 33, 35, 36, 38, 39, 40, 42, 43, 45, 46, 47, 50, 51, 52, 55, 56, 57, 59, 60, 62, 63, 64, 67, 68] (fun _ => by kernel_rfl)
theorem left03 : LeftO PySem.Challenge.pw_kt0002_03 hd03.view_39 [Str.ofString "escape", Str.ofString "unescape"] (fun s => xlAt hd03.view_39 [] s && recOk (RowW.records PySem.Challenge.rw_kt0002_03.row.toRowW) s) (Hook.obs hook03) (Hook.val hook03) 900 := by
  intro w; kernel_rfl
end Mine
end
section
theorem Mine.fresh_T0 : True := by
  w_top off
  trivial
open PySem PySem.W PyProof.Rows PySem.Spec PySem.Calls
set_option Elab.async false
set_option maxRecDepth 100000
set_option maxHeartbeats 4000000
namespace Mine
/-- a run hands out tokens, it takes none back -/
theorem runs_toks {M : Model} {Γ : PySem.Ctx} {p : Pos} {t : Sem Fin} {fs : List Frame} {s s' : Shared} {e : End} (h : Runs M Γ p t fs s e s') : s.toks ≤ s'.toks := by
  induction h with
  | done | raise | yield => exact Nat.le_refl _
  | fresh _ ih => exact Nat.le_trans (Nat.le_succ _) ih
  | call _ _ i1 i2 | resumeFresh _ _ _ _ i1 i2 | resumeSuspended _ _ _ _ i1 i2 | segRet _ _ i1 i2 | segGen _ _ i1 i2 | segSuspGen _ _ _ _ i1 i2 => exact Nat.le_trans i1 i2
  | _ => assumption

theorem wakes_toks {M : Model} {Γ : PySem.Ctx} {p : Pos} {g : Nat} {r : Resume} {s s' : Shared} {res : GenResult} (h : Wakes M Γ p g r s res s') : s.toks ≤ s'.toks := by
  unfold Wakes at h
  split at h
  · exact h.elim
  · split at h
    · obtain ⟨e₁, s₁, h₁, _, _, rfl⟩ := h; have e := runs_toks h₁; exact e
    · exact Nat.le_of_eq (by rw [h.2])
    · exact Nat.le_of_eq (by rw [h.2]; rfl)
  · obtain ⟨e₁, s₁, h₁, _, _, rfl⟩ := h; have e := runs_toks h₁; exact e
  · exact Nat.le_of_eq (by rw [h.2])
  · exact Nat.le_of_eq (by rw [h.2])

theorem wp_toks {α : Type} (M : Model) (Γ : PySem.Ctx) (t : Sem α) : ∀ (n : Nat) (Q : α → Pos → Shared → Prop) (E : Value → Pos → Shared → Prop) (p : Pos) (s : Shared), n ≤ s.toks →
    Sem.wp M Γ t Q E p s → Sem.wp M Γ t (fun a p s' => n ≤ s'.toks ∧ Q a p s') (fun e p s' => n ≤ s'.toks ∧ E e p s') p s := by
  induction t with
  | pure x => intro n Q E p s hn h; exact ⟨hn, h⟩
  | raise v => intro n Q E p s hn h; exact ⟨hn, h⟩
  | unsupported | finish | yield | fork | await | register => intro n Q E p s hn h; exact h
  | rule _ k ih | «at» _ k ih | alloc _ k ih | loadIfAlive _ k ih | point _ k ih | ask k ih | os _ _ k ih | handled _ k ih | newGen _ k ih | stack k ih | thread k ih => intro n Q E p s hn h; exact ih _ n Q E _ _ hn h
  | fresh k ih => intro n Q E p s hn h; exact ih _ n Q E _ _ (Nat.le_trans hn (Nat.le_succ _)) h
  | load a _ k ih | genState a k ih => intro n Q E p s hn h; obtain ⟨o, ho, h⟩ := h; exact ⟨o, ho, ih _ n Q E _ _ hn h⟩
  | update a _ f k ih | choose _ _ k ih => intro n Q E p s hn h; exact ⟨h.1, ih _ n Q E _ _ hn h.2⟩
  | call c hd g l k ih => intro n Q E p s hn h; obtain ⟨r, s', hr, h⟩ := h; exact ⟨r, s', hr, ih _ n Q E _ _ (Nat.le_trans hn (runs_toks hr)) h⟩
  | resume g r l k ih => intro n Q E p s hn h; obtain ⟨res, s', hw, h⟩ := h; exact ⟨res, s', hw, ih _ n Q E _ _ (Nat.le_trans hn (wakes_toks hw)) h⟩

section
variable {M : Model} {A : Around} {E : Value → Shared → Prop} {s : Shared} {α : Type}
theorem wpAny_toks {t : Sem α} {Q : α → Shared → Prop} (n : Nat) (hn : n ≤ s.toks) (h : wpAny M A t (fun a s' => n ≤ s'.toks → Q a s') E s) : wpAny M A t Q E s :=
  fun Γ p hΓ => Sem.wp_mono M Γ t (fun _ _ _ x => x.2 x.1) (fun _ _ _ x => x.2) p s (wp_toks M Γ t n _ _ p s hn (h Γ p hΓ))
end

/-- every way through the tree hands out a token -/
def Spends {α : Type} : Sem α → Prop
  | .pure _ => False
  | .raise _ => False
  | .unsupported _ => True
  | .finish _ => True
  | .rule _ k => ∀ x, Spends (k x)
  | .at _ k => ∀ x, Spends (k x)
  | .load _ _ k => ∀ x, Spends (k x)
  | .update _ _ _ k => ∀ x, Spends (k x)
  | .alloc _ k => ∀ x, Spends (k x)
  | .loadIfAlive _ k => ∀ x, Spends (k x)
  | .point _ k => ∀ x, Spends (k x)
  | .register _ _ => True
  | .fresh _ => True
  | .ask k => ∀ x, Spends (k x)
  | .choose _ _ k => ∀ x, Spends (k x)
  | .os _ _ k => ∀ x, Spends (k x)
  | .call _ _ _ _ k => ∀ x, Spends (k x)
  | .handled _ k => ∀ x, Spends (k x)
  | .newGen _ k => ∀ x, Spends (k x)
  | .genState _ k => ∀ x, Spends (k x)
  | .resume _ _ _ k => ∀ x, Spends (k x)
  | .yield .. => True
  | .stack k => ∀ x, Spends (k x)
  | .fork .. => True
  | .thread k => ∀ x, Spends (k x)
  | .await .. => True

theorem Spends.left {α β : Type} (f : α → Sem β) (t : Sem α) : Spends t → Spends (t >>= f) := by
  show Spends t → Spends (t.bind f)
  induction t with
  | pure x => exact fun h => h.elim
  | raise v => exact fun h => h.elim
  | unsupported | finish | yield | fork | await | register | fresh => exact fun _ => trivial
  | rule _ k ih | «at» _ k ih | alloc _ k ih | loadIfAlive _ k ih | point _ k ih | ask k ih | os _ _ k ih | handled _ k ih | newGen _ k ih | stack k ih | thread k ih | load a _ k ih | genState a k ih | update a _ f k ih | choose _ _ k ih | call c hd g l k ih | resume g r l k ih => exact fun h x => ih x (h x)

/-- and behind a tree that raises nothing -/
def Calm {α : Type} : Sem α → Prop
  | .raise _ => False
  | .pure _ => True
  | .alloc _ k => ∀ x, Calm (k x)
  | _ => False
theorem Spends.right {α β : Type} (f : α → Sem β) (hf : ∀ a, Spends (f a)) (t : Sem α) : Calm t → Spends (t >>= f) := by
  show Calm t → Spends (t.bind f)
  induction t with
  | pure x => exact fun _ => hf x
  | alloc _ k ih => exact fun h x => ih x (h x)
  | _ => exact fun h => h.elim
theorem Calm.bind {α β : Type} (f : α → Sem β) (hf : ∀ a, Calm (f a)) (t : Sem α) : Calm t → Calm (t >>= f) := by
  show Calm t → Calm (t.bind f)
  induction t with
  | pure x => exact fun _ => hf x
  | alloc _ k ih => exact fun h x => ih x (h x)
  | _ => exact fun h => h.elim

theorem wp_spends {α : Type} (M : Model) (Γ : PySem.Ctx) (t : Sem α) : ∀ (Q : α → Pos → Shared → Prop) (E : Value → Pos → Shared → Prop) (p : Pos) (s : Shared), Spends t →
    Sem.wp M Γ t Q E p s → Sem.wp M Γ t (fun a p s' => 1 ≤ s'.toks ∧ Q a p s') E p s := by
  induction t with
  | pure x => intro Q E p s hn h; exact hn.elim
  | raise v => intro Q E p s hn h; exact hn.elim
  | unsupported | finish | yield | fork | await | register => intro Q E p s hn h; exact h
  | rule _ k ih | «at» _ k ih | alloc _ k ih | loadIfAlive _ k ih | point _ k ih | ask k ih | os _ _ k ih | handled _ k ih | newGen _ k ih | stack k ih | thread k ih => intro Q E p s hn h; exact ih _ Q E _ _ (hn _) h
  | fresh k ih => intro Q E p s hn h; exact Sem.wp_mono M Γ _ (fun _ _ _ x => x) (fun _ _ _ x => x.2) _ _ (wp_toks M Γ (k s.toks) 1 Q E p _ (Nat.le_add_left _ _) h)
  | load a _ k ih | genState a k ih => intro Q E p s hn h; obtain ⟨o, ho, h⟩ := h; exact ⟨o, ho, ih _ Q E _ _ (hn _) h⟩
  | update a _ f k ih | choose _ _ k ih => intro Q E p s hn h; exact ⟨h.1, ih _ Q E _ _ (hn _) h.2⟩
  | call c hd g l k ih => intro Q E p s hn h; obtain ⟨r, s', hr, h⟩ := h; exact ⟨r, s', hr, ih _ Q E _ _ (hn _) h⟩
  | resume g r l k ih => intro Q E p s hn h; obtain ⟨res, s', hw, h⟩ := h; exact ⟨res, s', hw, ih _ Q E _ _ (hn _) h⟩

theorem wpAny_spends {α : Type} {M : Model} {A : Around} {E : Value → Shared → Prop} {s : Shared} {t : Sem α} {Q : α → Shared → Prop} (hn : Spends t) (h : wpAny M A t (fun a s' => 1 ≤ s'.toks → Q a s') E s) : wpAny M A t Q E s :=
  fun Γ p hΓ => Sem.wp_mono M Γ t (fun _ _ _ x => x.2 x.1) (fun _ _ _ x => x) p s (wp_spends M Γ t _ _ p s hn (h Γ p hΓ))

theorem calm_cells (f : Str × NameKind → List (Str × Addr) → Sem (ForInStep (List (Str × Addr)))) (hf : ∀ x a, Calm (f x a)) : ∀ (l : List (Str × NameKind)) (a : List (Str × Addr)), Calm (forIn l a f)
  | [], a => by rw [List.forIn_nil]; exact trivial
  | x :: r, a => by
    rw [List.forIn_cons]
    exact Calm.bind _ (fun b => by cases b with | done _ => exact trivial | yield b => exact calm_cells f hf r b) _ (hf x a)

/-- a call of a function with one parameter hands out a token for its name -/
theorem spends_env {scope : Scope} {globals : Addr} {x : Str} {v : Value} {qual : Str} {func : Option Addr} {code : Value} {builtins : Addr} (hk : scope.kind = .function) (hx : scope.names.lookup x = some .local) :
    Spends (newFunctionEnv scope globals [] [(x, v)] qual func code none builtins) := by
  simp only [newFunctionEnv, Option.isSome_none, Bool.false_eq_true, if_false]
  refine Spends.right _ (fun a => ?_) _ (fun _ => trivial)
  refine Spends.right _ (fun cells => ?_) _ (calm_cells _ (fun y a => ?_) _ _)
  · refine Spends.left _ _ ?_
    rw [List.forIn_cons]
    refine Spends.left _ _ (Spends.left _ _ ?_)
    rw [storeName_local (by exact hx) (by show (scope.kind == .class || (scope.kind == .module && _)) = false; rw [hk]; rfl)]
    exact fun _ => trivial
  · split
    · exact fun _ => trivial
    · exact trivial
end Mine
end
section
theorem Mine.fresh_B10 : True := by
  w_top off
  trivial
open PySem PySem.W PyProof.Rows PySem.Spec PySem.Calls
set_option Elab.async false
set_option maxRecDepth 100000
set_option maxHeartbeats 4000000
namespace Mine
open Sem (wp)
section
variable {prog : Program} {w : World} {A A₀ : Around} {s : Shared} {R : Result → Shared → Prop} {base h₀ : Heap} {outer : List Env} {L : Addr} {m : Str → Option Value} {env : Env} {news : List (Addr × Obj)}
  {name qual : Str} {params : Arguments} {body : List Stmt} {scope : Scope} {cl : List (Str × Addr)} {dV kV doc pm cdv ct : Value} {an : Option Addr} {fo : Obj} {f : Addr} {args : Args} {binds : List (Str × Value)}

theorem codeT_call_def {a : Addr} {o : Obj} {fd : FuncData}
    (hroom : A.depth < recursionLimit) (ho : s.heap.get? a = some o) (hdata : o.data = .func fd) (hlim : s.heap.NoLimit) (hcd : s.heap.CodeRec fd.code fd.qualname)
    (hbody : fd.body = .stmts body) (hbind : BindsTo s fd args binds)
    (hcell : ∀ x ∈ fd.scope.names, x.2 ≠ .cell) (hloc : ∀ x ∈ binds, fd.scope.names.lookup x.1 = some .local)
    (h : ∀ h₀, h₀.Ns s.heap.objs.size (fun x => binds.reverse.lookup x) → (∀ b o, s.heap.get? b = some o → h₀.get? b = some o) →
      wpT (model prog w) (A.deeper (callEnv fd s.heap.objs.size a)) (execs body (callEnv fd s.heap.objs.size a)) (fun f s' => R (.ok (.ret (match f with | .ret v => v | _ => .none))) s')
        (fun e s' => wpT (model prog w) (A.deeper (callEnv fd s.heap.objs.size a)) (leaving (callEnv fd s.heap.objs.size a) e) (fun _ s'' => R (.error e) s'') (fun e' s'' => R (.error e') s'') s')
        { s with heap := h₀, toks := s.toks + binds.length })
    (hco : fd.scope.isCoroutine = false := by rfl) (hgen : fd.scope.isGenerator = false := by rfl) (hk : fd.scope.kind = .function := by rfl) :
    codeT (model prog w) A (.call (.ref a) args) R s := by
  refine codeT_call_function hroom ho hdata hco hgen hbody hcd (hbind _ _ _ _ ?_)
  refine wpAny_newFunctionEnv hcell hloc (fun h₀ hns₀ hsb₀ => ⟨hlim.fresh _ hsb₀, codeT_func (h h₀ hns₀ fun b o e => ?_)⟩) hk
  exact hsb₀.extBut b o (Nat.ne_of_lt (Heap.lt_size e)) (Heap.get?_push_of_some _ e)

/-- a def without cells, called from a def's body -/
theorem callT_plain (B : Below A₀ base outer h₀) (F : Fr h₀ L s.heap m) (N : News h₀ L s.heap news) (hlim : h₀.NoLimit) (hA : A.frames = some (env :: outer)) (hf : env.frame = some L) (hke : env.scope.kind = .function)
    (ho : s.heap.get? f = some fo) (hd : fo.data = .func (fnX name qual params body scope cl dV kV doc pm an cdv ct)) (hcd : s.heap.CodeRec cdv qual) (hroom : A.depth < recursionLimit)
    (hbind : BindsTo s (fnX name qual params body scope cl dV kV doc pm an cdv ct) args binds) (hloc : ∀ y ∈ binds, scope.names.lookup y.1 = some .local)
    (h : ∀ g L' h₁, Fr h₀ L g m → Fr g L' h₁ (fun y => binds.reverse.lookup y) → News g L' h₁ news → Below A base (env :: outer) g → h₀.StaysIn g →
      wpT (model prog w) (A.deeper (envX qual scope L' f cdv cl)) (execs body (envX qual scope L' f cdv cl))
        (fun fl s' => LeaveK h₀ L m g R (match fl with | .ret v => v | _ => .none) s')
        (fun e s' => wpT (model prog w) (A.deeper (envX qual scope L' f cdv cl)) (leaving (envX qual scope L' f cdv cl) e) (fun _ s'' => R (.error e) s'') (fun e' s'' => R (.error e') s'') s')
        { s with heap := h₁, toks := s.toks + binds.length })
    (hcell : ∀ x ∈ scope.names, x.2 ≠ .cell) (hco : scope.isCoroutine = false := by rfl) (hgen : scope.isGenerator = false := by rfl) (hk : scope.kind = .function := by rfl) : codeT (model prog w) A (.call (.ref f) args) R s := by
  obtain ⟨FG, BG, st, lv⟩ := groundX (R := R) B F N hA hf hke
  refine codeT_call_def (fd := fnX name qual params body scope cl dV kV doc pm an cdv ct) (body := body) (binds := binds) hroom ho hd (hlim.keeps F.keep) hcd rfl hbind hcell hloc (fun h₁ hns hk₁ => ?_) hco hgen hk
  exact wpT_mono (h _ s.heap.objs.size h₁ FG ⟨hns, fun b o e => hk₁ b o (of_hideAll _ e), Nat.le_of_eq (hideAll_size _ _)⟩
    (fun p hp => ⟨hk₁ _ _ (N p hp).1, Nat.ne_of_lt (Heap.lt_size (N p hp).1), hideAll_none _ (List.mem_map_of_mem hp)⟩) BG st) (fun fl s' hl => lv _ _ hl) fun _ _ y => y

/-- a def with cells, called from module level -/
theorem callT_top (hlim : s.heap.NoLimit)
    (ho : s.heap.get? f = some fo) (hd : fo.data = .func (fnX name qual params body scope [] dV kV doc pm an cdv ct)) (hcd : s.heap.CodeRec cdv qual) (hroom : A.depth < recursionLimit)
    (hbind : BindsTo s (fnX name qual params body scope [] dV kV doc pm an cdv ct) args binds)
    (hkind : ∀ n, ∀ x ∈ binds, scope.names.lookup x.1 = some .local ∨ (scope.names.lookup x.1 = some .cell ∧ ((cellsFrom n scope.names []).lookup x.1).isSome = true))
    (hb1 : ∃ x v, binds = [(x, v)] ∧ scope.names.lookup x = some .local)
    (hnd : ((cellsFrom 0 scope.names []).map (·.1)).Nodup)
    (h : ∀ L' h₁ tk cells, 1 ≤ tk → Fr s.heap L' h₁ (bindL (envOfC qual scope L' f cdv).kindOf binds fun _ => none) → News s.heap L' h₁ cells →
      CellsAre (bindC (envOfC qual scope L' f cdv).kindOf binds fun _ => none) (cellsFrom (L' + 1) scope.names []) cells →
      wpT (model prog w) (A.deeper (envOfC qual scope L' f cdv)) (execs body (envOfC qual scope L' f cdv))
        (fun fl s' => R (.ok (.ret (match fl with | .ret v => v | _ => .none))) s')
        (fun e s' => wpT (model prog w) (A.deeper (envOfC qual scope L' f cdv)) (leaving (envOfC qual scope L' f cdv) e) (fun _ s'' => R (.error e) s'') (fun e' s'' => R (.error e') s'') s')
        { s with heap := h₁, toks := tk })
    (hco : scope.isCoroutine = false := by rfl) (hgen : scope.isGenerator = false := by rfl) (hk : scope.kind = .function := by rfl) : codeT (model prog w) A (.call (.ref f) args) R s := by
  refine codeT_call_function hroom ho hd hco hgen rfl hcd (hbind _ _ _ _ ?_)
  refine wpAny_spends (by obtain ⟨x, v, rfl, hx⟩ := hb1; exact spends_env hk hx) (wpAny_newFunctionEnv_cells hk (hkind _) fun env' he s' x ht => ?_)
  subst he
  refine ⟨hlim.keeps x.toInCall.keep, codeT_func ?_⟩
  obtain ⟨h₁, tk, rfl, _⟩ := x.done
  obtain ⟨cells, NC, Y⟩ := Cl.news (h₀ := s.heap) (Nat.le_refl _) fun n c hm => ⟨x.cell n c (lookup_of_mem_nodup (cellsFrom_names scope.names 0 (s.heap.objs.size + 1) [] [] rfl ▸ hnd) hm), x.above n c hm⟩
  exact h s.heap.objs.size h₁ tk cells ht ⟨x.toInCall.ns, x.toInCall.keep, Nat.le_refl _⟩ NC Y
end
end Mine
end
section
theorem Mine.fresh_B11 : True := by
  w_top off
  trivial
open PySem PySem.W PyProof.Rows PySem.Spec PySem.Calls
set_option Elab.async false
set_option maxRecDepth 100000
set_option maxHeartbeats 4000000
namespace Mine
open Sem (wp)
section
variable {M : Model} {A : Around} {E : Value → Shared → Prop} {s : Shared} {env : Env}
theorem execsT_cons {st rest} {Q : Flow → Shared → Prop}
    (h : wpT M A (exec st env) (fun f s' => match f with | .next => wpT M A (execs rest env) Q E s' | f => Q f s') E s) :
    wpT M A (execs (st :: rest) env) Q E s := by
  rw [execs_cons]
  refine wpT_bind (wpT_mono h (fun f s' h' => ?_) fun _ _ x => x)
  cases f <;> first | exact h' | exact wpT_pure h'
theorem AssignT {x pos' value pos} {Q : Flow → Shared → Prop}
    (h : wpT M A (eval value env) (fun v s₁ => wpAny M A (storeName env x v) (fun _ => Q .next) E s₁) E s)
    (hs : swapsWith value (some (.Name x pos')) pos.line env = pure false := by rfl) :
    wpT M A (exec (.Assign [.Name x pos'] value pos) env) Q E s := by
  rw [exec_Assign_Name env x pos' value pos hs]
  refine wpT_leaf (wpAny_standAt (wpT_bind (wpT_mono h (fun v s₁ h₁ => ?_) fun _ _ x => x)))
  refine wpT_leaf (wpAny_standAt (wpT_leaf (wpAny_bindName (wpAny_mono h₁ (fun _ _ q => wpT_pure q) fun _ _ x => x))))
theorem ReturnT {e pos} {Q : Flow → Shared → Prop} (h : wpT M A (eval e env) (fun v => Q (.ret v)) E s) :
    wpT M A (exec (.Return (some e) pos) env) Q E s := by
  rw [exec_Return_some]
  exact wpT_leaf (wpAny_standAt (wpT_bind (wpT_mono h (fun v s₁ h₁ => wpT_pure h₁) fun _ _ x => x)))
theorem splicedT_nil {Q : List Value → Shared → Prop} (h : Q [] s) : wpT M A (spliced []) Q E s := wpT_pure h
theorem splicedT_cons {x : Sem Value} {rest : List (Bool × Sem Value)} {Q : List Value → Shared → Prop}
    (h : wpT M A x (fun v s₁ => wpT M A (spliced rest) (fun vs s₂ => Q (v :: vs) s₂) E s₁) E s) : wpT M A (spliced ((false, x) :: rest)) Q E s := by
  rw [spliced]
  refine wpT_bind (wpT_mono h (fun v s₁ h₁ => ?_) fun _ _ x => x)
  exact wpT_leaf (wpAny_pure (wpT_bind (wpT_holding (wpT_mono h₁ (fun vs s₂ h₂ => wpT_pure h₂) fun _ _ x => x))))
theorem evalArgsT {f : Value} {l : List (Bool × Sem Value)} {n : Nat} {Q : Args → Shared → Prop} (hl : l.map (·.1) = List.replicate n false)
    (h : wpT M A (spliced l) (fun vs s₁ => Q ⟨vs, []⟩ s₁) E s) : wpT M A (evalArgs f true l []) Q E s := by
  have tail : ∀ vs s₁, Q ⟨vs, []⟩ s₁ → wpT M A (evalAll [] >>= fun ks => pure vs >>= fun ps => pure (⟨ps, (([] : List (Option Str × Sem Value)).filterMap (·.1)).zip ks⟩ : Args)) Q E s₁ :=
    fun vs s₁ h₁ => wpT_leaf (wpAny_pure (wpT_leaf (wpAny_pure (wpT_pure h₁))))
  cases l with
  | nil =>
    unfold evalArgs
    show wpT M A (spliced [] >>= _) Q E s
    refine wpT_bind (wpT_mono h (fun vs s₁ h₁ => wpT_holding (ift_true rfl (tail vs s₁ h₁))) fun _ _ x => x)
  | cons y r =>
    obtain ⟨b, t⟩ := y
    cases n with
    | zero => cases hl
    | succ n =>
      simp only [List.map_cons, List.replicate_succ, List.cons.injEq] at hl
      obtain rfl : b = false := hl.1
      unfold evalArgs
      show wpT M A (spliced ((false, t) :: r) >>= _) Q E s
      refine wpT_bind (wpT_mono h (fun vs s₁ h₁ => wpT_holding (ift_true rfl (tail vs s₁ h₁))) fun _ _ x => x)

theorem allF {l : List (Bool × Sem Value)} : ∀ {n : Nat}, l.map (·.1) = List.replicate n false → l.any (·.1) = false := by
  induction l with
  | nil => intro _ _; rfl
  | cons y r ih =>
    intro k hk
    cases k with
    | zero => cases hk
    | succ k =>
      simp only [List.map_cons, List.replicate_succ, List.cons.injEq] at hk
      rw [List.any_cons, hk.1, ih hk.2]; rfl
theorem backF {pos : Pos} {l : List (Bool × Sem Value)} : ∀ {n : Nat}, l.map (·.1) = List.replicate n false → backTo pos l = l := by
  induction l with
  | nil => intro _ _; rfl
  | cons y r ih =>
    intro k hk
    cases k with
    | zero => cases hk
    | succ k =>
      simp only [List.map_cons, List.replicate_succ, List.cons.injEq] at hk
      obtain ⟨b, t⟩ := y
      obtain rfl : b = false := hk.1
      have := ih hk.2
      unfold backTo at this ⊢
      rw [List.map_cons, this]; rfl

/-- a call by a name that holds a def of the text's -/
theorem CallT {a : Addr} {x : Str} {px pos : Pos} {es : List Expr} {Q : Value → Shared → Prop} (n : Nat) (hst : (starEach es env).map (·.1) = List.replicate n false) (hn : (starEach es env).length ≤ 30)
    (h : wpAny M A (eval (.Name x px) env) (fun f s₁ => f = .ref a ∧ wpT M A (spliced (starEach es env)) (fun vs s₂ => (∃ fo fd, s₂.heap.get? a = some fo ∧ fo.data = .func fd) ∧ wpT M A (call (.ref a) vs) Q E s₂) E s₁) E s) :
    wpT M A (eval (.Call (.Name x px) es [] pos) env) Q E s := by
  show wpT M A (do callWith pos (← eval (.Name x px) env) [] (backTo pos (starEach es env)) (backToKw pos (keywordEach [] env))) Q E s
  refine wpT_leaf (wpAny_mono h (fun f s₁ h₁ => ?_) fun _ _ x => x)
  obtain ⟨rfl, h₁⟩ := h₁
  rw [backF hst]
  unfold callWith
  refine wpT_bind (wpT_holding (evalArgsT hst (wpT_mono h₁ (fun vs s₂ h₂ => ?_) fun _ _ x => x)))
  obtain ⟨⟨fo, fd, ho, hd⟩, h₂⟩ := h₂
  refine wpT_leaf (wpAny_standAt ?_)
  have hk : wpAny M A (keeperOf (.ref a)) (fun k s₃ => k = .frame ∧ s₃ = s₂) E s₂ := by
    unfold keeperOf
    refine wpAny_bind (wpAny_load ho ?_)
    rw [hd]
    exact wpAny_pure ⟨rfl, rfl⟩
  refine wpT_leaf (wpAny_mono hk (fun k s₃ e => ?_) fun _ _ x => x)
  obtain ⟨rfl, rfl⟩ := e
  have e0 : ((starEach es env).any (·.1) || (backToKw pos (keywordEach [] env)).any (·.1.isNone)) = false := by
    rw [allF hst]; rfl
  rw [e0]
  have e1 : ¬ (starEach es env).length + 2 * (backToKw pos (keywordEach [] env)).length > 30 := by
    have : (backToKw pos (keywordEach [] env)).length = 0 := rfl
    omega
  dsimp only
  rw [if_neg e1]
  refine wpT_bind ?_
  unfold callMarked
  exact wpT_keep (wpT_mono h₂ (fun v s₄ h₄ => wpT_leaf (wpAny_holding (wpAny_point (wpT_pure h₄)))) fun _ _ x => x)
end
end Mine
end
section
theorem Mine.fresh_B12 : True := by
  w_top off
  trivial
open PySem PySem.W PyProof.Rows PySem.Spec PySem.Calls
set_option Elab.async false
set_option maxRecDepth 100000
set_option maxHeartbeats 4000000
namespace Mine
open Sem (wp)
section
variable {prog : Program} {w : World} {A : Around} {s : Shared} {env : Env} {h₀ : Heap}

end
end Mine
end
section
theorem Mine.fresh_C1 : True := by
  w_top off
  trivial
open PySem PySem.W PyProof.Rows PyProof.V PySem.Spec PySem.Calls PyProof.Rows.LCg
set_option Elab.async false
set_option maxRecDepth 100000
set_option maxHeartbeats 8000000
namespace Mine
section
variable {prog : Program} {w : World} {A : Around} {E : Value → Shared → Prop} {s : Shared} {h₀ : Heap} {L : Addr} {m : Str → Option Value} {env : Env}

def GoX (prog : Program) (w : World) (A : Around) (h₀ : Heap) (L : Addr) (m : Str → Option Value) (env : Env) (elt : Expr) (x : Str) (scope : Scope) (cl : List (Str × Addr)) (Fin : Shared → List Value → List (Addr × Obj) → Prop) (it : Value) (s₂ : Shared) : Prop :=
  ∃ (I : Addr) (fp : List Addr) (n : Nat) (P : Nat → Value → Prop) (St : Nat → Heap → Prop) (S : List (Addr × Obj) → Prop) (news : List (Addr × Obj)), it = .ref I ∧ Walks prog w A I fp [I] n P St ∧ n ≤ sizeLine ∧ (∀ i h, St i h → ∃ o, h.get? I = some o) ∧
    (∀ i h h' o nw, St i h → h.get? I = some o → h'.get? I = some o → (∀ b o, h₀.get? b = some o → h'.get? b = some o) → News h₀ L h' nw → S nw → St i h') ∧ St 0 s₂.heap ∧ (∀ b ∈ fp, b < s₂.heap.objs.size) ∧
    Fr h₀ L s₂.heap m ∧ News h₀ L s₂.heap news ∧ L ≠ I ∧ h₀.get? I = none ∧ (∀ p ∈ news, p.1 ≠ I) ∧ S news ∧ CompRest prog w A h₀ L m env elt x scope cl s₂ S P (Fin s₂) n 0 [] news

theorem ListComp_X {elt iter : Expr} {x : Str} {px : Pos} {scope : Scope} {cl : List (Str × Addr)} {pos : Pos} {Q : Value → Shared → Prop} (_F₀ : Fr h₀ L s.heap m)
    (hclos : closureFor scope env = pure cl) (hcell : ∀ y ∈ scope.names, y.2 ≠ .cell) (hkind : scope.kind = .function)
    (hnames : ∀ y ∈ scope.names, y.2 = .local → scope.names.lookup y.1 = some .local) (hx : scope.names.lookup x = some .local)
    (h : wpAny (model prog w) A (eval iter env) (fun xv s₁ => wpAny (model prog w) A (pyIter xv) (GoX prog w A h₀ L m env elt x scope cl (fun s₂ => FinE h₀ L m s₂ Q)) E s₁) E s)
    (hs : ∀ x, foldedSetIterable iter env x = pure x := by intro _; rfl) :
    wpAny (model prog w) A (eval (.ListComp elt [⟨.Name x px, iter, [], 0⟩] scope pos) env) Q E s := by
  rw [eval_ListComp]
  refine wpAny_comprehension_free (use := none) rfl hs hclos hkind hnames (wpAny_mono h (fun xv s₁ h₁ => wpAny_mono h₁ (fun it s₂ h₂ => ?_) fun _ _ e => e) fun _ _ e => e)
  obtain ⟨I, fp, n, P, St, S, news, rfl, W, hsz, hIo, hSt, hst, hfp, F, N, hIL, hI₀, off, hS, R⟩ := h₂
  refine block_U W hsz hIo hSt hcell hkind hx hst hfp F N hIL hI₀ off hS R ?_
  intro D C h tk m' ys news' F' N' o1 hn hC₀ hD₀ hCL hDL hCD offC fin
  refine ⟨m', hn, fun h'' hs'' => fin D h'' tk (F'.change hs'' hCL hC₀) (fun p hp => ?_) o1⟩
  refine ⟨hs''.extBut _ _ ?_ (N' p hp).1, (N' p hp).2⟩
  rcases List.mem_cons.mp hp with rfl | hp
  · exact Ne.symm hCD
  · exact offC p hp

theorem Assign_ListComp_X {elt iter : Expr} {x y : Str} {px py : Pos} {scope : Scope} {cl : List (Str × Addr)} {pos spos : Pos} {Q : Flow → Shared → Prop} (_F₀ : Fr h₀ L s.heap m) (hLe : env.locals = L)
    (hsw : swapsWith (.ListComp elt [⟨.Name x px, iter, [], 0⟩] scope pos) (some (.Name y py)) spos.line env = pure true)
    (hclos : closureFor scope env = pure cl) (hcell : ∀ z ∈ scope.names, z.2 ≠ .cell) (hkind : scope.kind = .function)
    (hnames : ∀ z ∈ scope.names, z.2 = .local → scope.names.lookup z.1 = some .local) (hx : scope.names.lookup x = some .local)
    (hy : env.kindOf y = some .local) (hp : (env.scope.kind == .class || (env.scope.kind == .module && env.locals != env.globals)) = false)
    (h : wpAny (model prog w) A (eval iter env) (fun xv s₁ => wpAny (model prog w) A (pyIter xv) (GoX prog w A h₀ L m env elt x scope cl (fun s₂ => FinA h₀ L m s₂ y Q)) E s₁) E s)
    (hs : ∀ x, foldedSetIterable iter env x = pure x := by intro _; rfl) :
    wpAny (model prog w) A (exec (.Assign [.Name y py] (.ListComp elt [⟨.Name x px, iter, [], 0⟩] scope pos) spos) env) Q E s := by
  subst hLe
  rw [exec_Assign_Name_used _ _ _ _ hsw]
  refine wpAny_bind (wpAny_standAt (wpAny_bind ?_))
  show wpAny _ A (do let _ ← comprehension (.ListComp elt [⟨.Name x px, iter, [], 0⟩] scope pos) scope env _ (newList []) false (eval iter env) (some (assign (.Name y py) env))) _ _ s
  refine wpAny_bind (wpAny_mono (wpAny_comprehension_free (use := some (assign (.Name y py) env)) (Q := fun _ s' => Q .next s') rfl hs hclos hkind hnames
    (wpAny_mono h (fun xv s₁ h₁ => wpAny_mono h₁ (fun it s₂ h₂ => ?_) fun _ _ e => e) fun _ _ e => e)) (fun _ s' hq => wpAny_pure (wpAny_pure hq)) fun _ _ e => e)
  obtain ⟨I, fp, n, P, St, S, news, rfl, W, hsz, hIo, hSt, hst, hfp, F, N, hIL, hI₀, off, hS, R⟩ := h₂
  refine block_U W hsz hIo hSt hcell hkind hx hst hfp F N hIL hI₀ off hS R ?_
  intro D C h' tk m' ys news' F' N' o1 hn hC₀ hD₀ hCL hDL hCD offC fin
  show wpAny _ A (assign (.Name y py) env (.ref D)) _ _ _
  refine wpAny_assign_Name (wpAny_storeName_local hy F'.ns (fun h₂ hn₂ hs₂ => ?_) hp)
  have hL₀ : h₀.get? env.locals = none := Heap.get?_none_of_le F'.above
  have F₂ : Fr h₀ env.locals h₂ (fun z => if z = y then some (.ref D) else m z) := ⟨hn₂, fun b o e => hs₂.extBut b o (fun q => by rw [q, hL₀] at e; cases e) (F'.keep b o e), F'.above⟩
  refine ⟨m', hn.sameBut hs₂ hCL, fun h'' hs'' => fin D h'' _ (F₂.change hs'' hCL hC₀) (fun p hp => ?_) o1⟩
  have z : h₂.get? p.1 = some p.2 := hs₂.extBut _ _ (N' p hp).2.1 (N' p hp).1
  refine ⟨hs''.extBut _ _ ?_ z, (N' p hp).2⟩
  rcases List.mem_cons.mp hp with rfl | hp
  · exact Ne.symm hCD
  · exact offC p hp

/-- one element, the same words for each -/
def ElStep (prog : Program) (w : World) (A : Around) (h₀ : Heap) (L : Addr) (m : Str → Option Value) (env : Env) (elt : Expr) (x : Str) (scope : Scope) (cl : List (Str × Addr)) (s : Shared) (news : List (Addr × Obj)) (n : Nat) (P R : Nat → Value → Prop) : Prop :=
  ∀ i v I oI C oC D ys m₂ h tk (E' : Value → Shared → Prop), i < n → P i v → NsObj oC m₂ → m₂ x = some v → Fr h₀ L h m → News h₀ L h ((I, oI) :: (C, oC) :: (D, lst ys) :: news) → Off3 I C D news → ((@Ne Nat I C) ∧ (@Ne Nat I D) ∧ (@Ne Nat C D)) →
    wpAny (model prog w) A (eval elt (compEnvC scope cl C env)) (fun y s₂ => ∃ h' tk', s₂ = { s with heap := h', toks := tk' } ∧ Fr h₀ L h' m ∧ News h₀ L h' ((I, oI) :: (C, oC) :: (D, lst ys) :: news) ∧ R i y) E' { s with heap := h, toks := tk }

theorem rest_of {elt : Expr} {x : Str} {scope : Scope} {cl : List (Str × Addr)} {S : List (Addr × Obj) → Prop} {P R : Nat → Value → Prop} {Fin : List Value → List (Addr × Obj) → Prop} {news : List (Addr × Obj)} {n : Nat} {s₂ : Shared}
    (hs : ∃ g, s₂ = { s with heap := g }) (hS : S news) (step : ElStep prog w A h₀ L m env elt x scope cl s news n P R) (fin : ∀ ys : List Value, ys.length = n → (∀ i y, ys[i]? = some y → R i y) → Fin ys news) :
    ∀ (k i : Nat) (ys : List Value), i + k = n → ys.length = i → (∀ j y, ys[j]? = some y → R j y) → CompRest prog w A h₀ L m env elt x scope cl s₂ S P Fin k i ys news
  | 0, i, ys, hk, hy, hR => CompRest.zero (fin ys (by omega) hR)
  | k + 1, i, ys, hk, hy, hR => by
    obtain ⟨g, rfl⟩ := hs
    refine CompRest.succ fun v I oI C oC D m₂ h tk E' hP hoC hv F N off hne => ?_
    refine wpAny_mono (step i v I oI C oC D ys m₂ h tk E' (by omega) hP hoC hv F N off hne) (fun y s₃ h₃ => ?_) fun _ _ e => e
    obtain ⟨h', tk', rfl, F', N', r⟩ := h₃
    refine CompEnd.intro F' N' news (fun p hp => hp) off hS (rest_of ⟨g, rfl⟩ hS step fin k (i + 1) (ys ++ [y]) (by omega) (by simp [hy]) fun j z hz => ?_)
    rcases Nat.lt_or_ge j ys.length with hj | hj
    · rw [List.getElem?_append_left hj] at hz; exact hR j z hz
    · rw [List.getElem?_append_right hj] at hz
      cases hjj : j - ys.length with
      | zero => rw [hjj] at hz; obtain rfl : y = z := by simpa using hz
                have : j = i := by omega
                exact this ▸ r
      | succ q => rw [hjj] at hz; simp at hz

section
variable {elt : Expr} {x : Str} {scope : Scope} {cl : List (Str × Addr)} {R : Nat → Value → Prop} {Fin : Shared → List Value → List (Addr × Obj) → Prop} {news : List (Addr × Obj)}

theorem go_str {y : Str} {t : Tok} (hh : A.handled = none) (F : Fr h₀ L s.heap m) (N : News h₀ L s.heap news) (hsz : y.cps.size ≤ sizeLine) (step : ElStep prog w A h₀ L m env elt x scope cl s news y.cps.size (SignAt y) R)
    (fin : ∀ g (ys : List Value), ys.length = y.cps.size → (∀ i v, ys[i]? = some v → R i v) → Fin { s with heap := g } ys news) :
    wpAny (model prog w) A (pyIter (.str y t)) (GoX prog w A h₀ L m env elt x scope cl Fin) E s := by
  refine wpAny_pyIter_strU ?_
  have up : ∀ b o, s.heap.get? b = some o → (s.heap.push { cls := .type (strIterType y), data := .fields #[.str y t, .int 0 0] }).get? b = some o := fun b o e => Heap.get?_push_of_some _ e
  have base : ∀ (St : Nat → Heap → Prop), Walks prog w A s.heap.objs.size [s.heap.objs.size] [s.heap.objs.size] y.cps.size (SignAt y) St → (∀ i h, St i h → ∃ o, h.get? s.heap.objs.size = some o) →
      (∀ i (h h' : Heap) o, St i h → h.get? s.heap.objs.size = some o → h'.get? s.heap.objs.size = some o → St i h') → St 0 (s.heap.push { cls := .type (strIterType y), data := .fields #[.str y t, .int 0 0] }) →
      GoX prog w A h₀ L m env elt x scope cl Fin (.ref s.heap.objs.size) { s with heap := s.heap.push { cls := .type (strIterType y), data := .fields #[.str y t, .int 0 0] } } := by
    intro St W hIo hSt hst
    refine ⟨s.heap.objs.size, _, y.cps.size, _, St, fun _ => True, news, rfl, W, hsz, hIo, fun i h h' o nw a b c _ _ _ => hSt i h h' o a b c, hst, fun b hb => ?_, F.keeps up, N.grown up, Nat.ne_of_lt F.ns.lt, next_is_new F, fun p hp => Nat.ne_of_lt (Heap.lt_size (N p hp).1), trivial,
      rest_of ⟨_, rfl⟩ trivial step (fun ys a b => fin _ ys a b) _ 0 [] (by omega) rfl (by simp)⟩
    rw [List.mem_singleton.mp hb, Heap.size_push]; exact Nat.lt_succ_self _
  have hself : (s.heap.push { cls := .type (strIterType y), data := .fields #[.str y t, .int 0 0] }).get? s.heap.objs.size = some { cls := .type (strIterType y), data := .fields #[.str y t, .int 0 0] } := Heap.get?_push_size _ rfl
  cases ha : y.cps.all (· < 128)
  · exact base _ (Walks.strWide hh _ y t) (fun i h st => let ⟨o, e, _⟩ := st; ⟨o, e⟩) (fun i h h' o st e e' => by obtain ⟨o', q, r⟩ := st; rw [e] at q; cases q; exact ⟨o, e', r⟩) ⟨_, hself, by simp [strIterType, ha], rfl⟩
  · exact base _ (Walks.strAscii hh _ y t) (fun i h st => let ⟨o, e, _⟩ := st; ⟨o, e⟩) (fun i h h' o st e e' => by obtain ⟨o', q, r⟩ := st; rw [e] at q; cases q; exact ⟨o, e', r⟩) ⟨_, hself, by simp [strIterType, ha], rfl⟩

theorem go_bytes {b : Array UInt8} {t : Tok} (hh : A.handled = none) (F : Fr h₀ L s.heap m) (N : News h₀ L s.heap news) (hsz : b.size ≤ sizeLine) (step : ElStep prog w A h₀ L m env elt x scope cl s news b.size (fun i v => ∃ c u, b[i]? = some c ∧ v = .int (c.toNat : Int) u) R)
    (fin : ∀ g (ys : List Value), ys.length = b.size → (∀ i v, ys[i]? = some v → R i v) → Fin { s with heap := g } ys news) :
    wpAny (model prog w) A (pyIter (.bytes b t)) (GoX prog w A h₀ L m env elt x scope cl Fin) E s := by
  refine KBw.pyIter_bytes ?_
  refine ⟨s.heap.objs.size, _, b.size, _, _, fun _ => True, news, rfl, KBw.walks hh s.heap.objs.size b t, hsz, (fun i h st => let ⟨o, e, _⟩ := st; ⟨o, e⟩), (fun i h h' o nw st e e' _ _ _ => by obtain ⟨o', q, r⟩ := st; rw [e] at q; cases q; exact ⟨o, e', r⟩), ⟨_, Heap.get?_push_size _ rfl, rfl, rfl⟩, (fun b hb => ?_),
    F.keeps (fun b o e => Heap.get?_push_of_some _ e), N.grown (fun b o e => Heap.get?_push_of_some _ e), Nat.ne_of_lt F.ns.lt, next_is_new F, (fun p hp => Nat.ne_of_lt (Heap.lt_size (N p hp).1)), trivial, rest_of ⟨_, rfl⟩ trivial step (fun ys a b => fin _ ys a b) _ 0 [] (by omega) rfl (by simp)⟩
  rw [List.mem_singleton.mp hb, Heap.size_push]; exact Nat.lt_succ_self _

theorem go_range {r : Addr} {a b : Int} {t u v : Tok} {n : Nat} (hh : A.handled = none) (F : Fr h₀ L s.heap m) (N : News h₀ L s.heap news) (hr : IsRange s.heap r a b 1 t u v) (hsm : Builtin.Range.small a b 1 = true) (hn : Builtin.Range.rangeSize a b 1 = ((n : Nat) : Int)) (hsz : n ≤ sizeLine)
    (step : ElStep prog w A h₀ L m env elt x scope cl s news n (fun i v => ∃ t, v = .int (a + (i : Int)) t) R)
    (fin : ∀ g (ys : List Value), ys.length = n → (∀ i v, ys[i]? = some v → R i v) → Fin { s with heap := g } ys news) :
    wpAny (model prog w) A (pyIter (.ref r)) (GoX prog w A h₀ L m env elt x scope cl Fin) E s := by
  refine wpAny_pyIter_range hr hsm ?_
  refine ⟨s.heap.objs.size, _, n, _, _, fun _ => True, news, rfl, range_walks hh a n, hsz, (fun i h st => ⟨_, st⟩), range_st, (by show IsRangeIter _ _ _ _ _; rw [hn]; simpa using Heap.get?_push_size _ rfl), (fun b hb => ?_),
    F.keeps (fun b o e => Heap.get?_push_of_some _ e), N.grown (fun b o e => Heap.get?_push_of_some _ e), Nat.ne_of_lt F.ns.lt, next_is_new F, (fun p hp => Nat.ne_of_lt (Heap.lt_size (N p hp).1)), trivial, rest_of ⟨_, rfl⟩ trivial step (fun ys a b => fin _ ys a b) _ 0 [] (by omega) rfl (by simp)⟩
  rw [List.mem_singleton.mp hb, Heap.size_push]; exact Nat.lt_succ_self _

theorem go_list {ax : Addr} {its : Array Value} (hh : A.handled = none) (F : Fr h₀ L s.heap m) (N : News h₀ L s.heap news) (hS : SrcAt h₀ ax its news) (hsz : its.size ≤ sizeLine)
    (step : ElStep prog w A h₀ L m env elt x scope cl s news its.size (fun i v => its[i]? = some v) R)
    (fin : ∀ g (ys : List Value), ys.length = its.size → (∀ i v, ys[i]? = some v → R i v) → Fin { s with heap := g } ys news) :
    wpAny (model prog w) A (pyIter (.ref ax)) (GoX prog w A h₀ L m env elt x scope cl Fin) E s := by
  have hl := hS.list F.keep N
  have hlt : ax < s.heap.objs.size := by obtain ⟨_, e, _⟩ := hl; exact Heap.lt_size e
  refine wpAny_pyIter_list hl ?_
  refine ⟨s.heap.objs.size, _, its.size, _, _, SrcAt h₀ ax its, news, rfl, Walks.list hh s.heap.objs.size ax (Nat.ne_of_lt hlt) its, hsz, (fun i h st => by obtain ⟨o, e, _⟩ := st.1; exact ⟨o, e⟩), list_st, ⟨⟨_, Heap.get?_push_size _ rfl, rfl, rfl⟩, hl.push _⟩, (fun b hb => ?_),
    F.keeps (fun b o e => Heap.get?_push_of_some _ e), N.grown (fun b o e => Heap.get?_push_of_some _ e), Nat.ne_of_lt F.ns.lt, next_is_new F, (fun p hp => Nat.ne_of_lt (Heap.lt_size (N p hp).1)), hS, rest_of ⟨_, rfl⟩ hS step (fun ys a b => fin _ ys a b) _ 0 [] (by omega) rfl (by simp)⟩
  show b < (s.heap.push _).objs.size
  rw [Heap.size_push]
  rcases List.mem_cons.mp hb with rfl | hb
  · exact Nat.lt_succ_self _
  · rw [List.mem_singleton.mp hb]; exact Nat.lt_succ_of_lt hlt
end
end
end Mine
end
section
theorem Mine.fresh_B15 : True := by
  w_top off
  trivial
open PySem PySem.W PyProof.Rows PySem.Spec PySem.Calls
set_option Elab.async false
set_option maxRecDepth 100000
set_option maxHeartbeats 4000000
namespace Mine
section
variable {prog : Program} {w : World} {A : Around} {s : Shared} {h₀ : Heap} {env : Env} {E : Value → Shared → Prop}
/-- the end, under a name of its own -/
theorem nameT {M : Model} {α : Type} {t : Sem α} {Q : α → Shared → Prop} (h : ∀ Q' : α → Shared → Prop, (Unit → ∀ a s, Q a s → Q' a s) → wpT M A t Q' (fun _ _ => False) s) : wpT M A t Q E s :=
  wpT_mono (h Q fun _ _ _ x => x) (fun _ _ x => x) fun _ _ x => x.elim
end
end Mine
end
section
theorem Mine.fresh_C2 : True := by
  w_top off
  trivial
open PySem PySem.W PyProof.Rows PyProof.V PySem.Spec PySem.Calls
set_option Elab.async false
set_option maxRecDepth 100000
set_option maxHeartbeats 4000000
namespace Mine
section
variable {prog : Program} {w : World} {A : Around} {E : Value → Shared → Prop} {s : Shared} {h₀ : Heap} {L : Addr} {m : Str → Option Value} {news : List (Addr × Obj)} {D : Addr} {ys : List Value} {value slice : Expr}
theorem lst_at (N : News h₀ L s.heap news) (hD : (D, LCg.lst ys) ∈ news) : s.heap.IsList D ys.toArray := ⟨_, (N _ hD).1, rfl, _, rfl⟩

end
theorem joinS_list : ∀ l : List Str, (Str.join (Str.ofString "") l).cps.toList = (l.map fun x => x.cps.toList).flatten
  | [] => rfl
  | [x] => by show x.cps.toList = _; simp
  | x :: y :: r => by
    have ih := joinS_list (y :: r)
    show (x ++ Str.ofString "" ++ Str.join (Str.ofString "") (y :: r)).cps.toList = _
    rw [Str.cps_append, Str.cps_append, Array.toList_append, Array.toList_append, ih]
    simp [show (Str.ofString "").cps.toList = [] by rfl]
theorem join_list_eq (l : List Str) : (Txt.join (Str.ofString "") l).cps.toList = (l.map fun x => x.cps.toList).flatten := by
  show (Builtin.Str.glued (Str.ofString "") l).cps.toList = _
  rw [StrLaws.glued_eq_join]; exact joinS_list l
theorem join_len (l : List Str) : (Txt.join (Str.ofString "") l).length = (l.map (·.length)).sum := by
  have h := congrArg List.length (join_list_eq l)
  rw [List.length_flatten, List.map_map] at h
  show (Txt.join (Str.ofString "") l).cps.size = _
  rw [← Array.length_toList, h]
  congr 1
end Mine
end
section
theorem Mine.fresh_C4 : True := by
  w_top off
  trivial
open PySem PySem.W PyProof.Rows PyProof.V PySem.Spec PySem.Calls PyProof.Rows.LCg
set_option Elab.async false
set_option maxRecDepth 100000
set_option maxHeartbeats 8000000
namespace Mine
section
variable {prog : Program} {w : World} {A : Around} {E : Value → Shared → Prop} {s : Shared} {h₀ : Heap} {L : Addr} {m : Str → Option Value} {env : Env}
/-- one element, the ledger grows -/
def ElStepG (prog : Program) (w : World) (A : Around) (h₀ : Heap) (L : Addr) (m : Str → Option Value) (env : Env) (elt : Expr) (x : Str) (scope : Scope) (cl : List (Str × Addr)) (s : Shared) (n : Nat) (P : Nat → Value → Prop) (Inv : List Value → List (Addr × Obj) → Prop) : Prop :=
  ∀ i v I oI C oC D ys nw m₂ h tk (E' : Value → Shared → Prop), i < n → P i v → NsObj oC m₂ → m₂ x = some v → Fr h₀ L h m → News h₀ L h ((I, oI) :: (C, oC) :: (D, lst ys) :: nw) → Off3 I C D nw → ((@Ne Nat I C) ∧ (@Ne Nat I D) ∧ (@Ne Nat C D)) → ys.length = i → Inv ys nw →
    wpAny (model prog w) A (eval elt (compEnvC scope cl C env)) (fun y s₂ => ∃ h' tk' add, s₂ = { s with heap := h', toks := tk' } ∧ Fr h₀ L h' m ∧ News h₀ L h' ((I, oI) :: (C, oC) :: (D, lst ys) :: (add ++ nw)) ∧ Off3 I C D add ∧ Inv (ys ++ [y]) (add ++ nw)) E' { s with heap := h, toks := tk }
theorem off3_app {I C D : Addr} {a b : List (Addr × Obj)} (x : Off3 I C D a) (y : Off3 I C D b) : Off3 I C D (a ++ b) := by
  induction a with
  | nil => exact y
  | cons q r ih => exact ⟨x.1, ih x.2⟩
theorem rest_ofG {elt : Expr} {x : Str} {scope : Scope} {cl : List (Str × Addr)} {S : List (Addr × Obj) → Prop} {P : Nat → Value → Prop} {Inv Fin : List Value → List (Addr × Obj) → Prop} {n : Nat} {s₂ : Shared}
    (hs : ∃ g, s₂ = { s with heap := g }) (hS : ∀ a b, S b → S (a ++ b)) (step : ElStepG prog w A h₀ L m env elt x scope cl s n P Inv) (fin : ∀ ys nw, ys.length = n → Inv ys nw → Fin ys nw) :
    ∀ (k i : Nat) (ys : List Value) (nw : List (Addr × Obj)), i + k = n → ys.length = i → S nw → Inv ys nw → CompRest prog w A h₀ L m env elt x scope cl s₂ S P Fin k i ys nw
  | 0, i, ys, nw, hk, hy, _, hI => CompRest.zero (fin ys nw (by omega) hI)
  | k + 1, i, ys, nw, hk, hy, hs9, hI => by
    obtain ⟨g, rfl⟩ := hs
    refine CompRest.succ fun v I oI C oC D m₂ h tk E' hP hoC hv F N off hne => ?_
    refine wpAny_mono (step i v I oI C oC D ys nw m₂ h tk E' (by omega) hP hoC hv F N off hne hy hI) (fun y s₃ h₃ => ?_) fun _ _ e => e
    obtain ⟨h', tk', add, rfl, F', N', o', r⟩ := h₃
    exact CompEnd.intro F' N' (add ++ nw) (fun p hp => hp) (off3_app o' off) (hS _ _ hs9) (rest_ofG ⟨g, rfl⟩ hS step fin k (i + 1) (ys ++ [y]) (add ++ nw) (by omega) (by simp [hy]) (hS _ _ hs9) r)
theorem srcAt_app {ax : Addr} {its : Array Value} (a b : List (Addr × Obj)) (h : SrcAt h₀ ax its b) : SrcAt h₀ ax its (a ++ b) := by
  rcases h with h | ⟨o, hm, r⟩
  · exact .inl h
  · exact .inr ⟨o, List.mem_append_right _ hm, r⟩
section
variable {elt : Expr} {x : Str} {scope : Scope} {cl : List (Str × Addr)} {Fin : Shared → List Value → List (Addr × Obj) → Prop} {Inv : List Value → List (Addr × Obj) → Prop} {news : List (Addr × Obj)}
theorem go_listG {ax : Addr} {its : Array Value} (hh : A.handled = none) (F : Fr h₀ L s.heap m) (N : News h₀ L s.heap news) (hS : SrcAt h₀ ax its news) (hsz : its.size ≤ sizeLine) (h0 : Inv [] news)
    (step : ElStepG prog w A h₀ L m env elt x scope cl s its.size (fun i v => its[i]? = some v) Inv)
    (fin : ∀ g (ys : List Value) nw, ys.length = its.size → Inv ys nw → Fin { s with heap := g } ys nw) :
    wpAny (model prog w) A (pyIter (.ref ax)) (GoX prog w A h₀ L m env elt x scope cl Fin) E s := by
  have hl := hS.list F.keep N
  have hlt : ax < s.heap.objs.size := by obtain ⟨_, e, _⟩ := hl; exact Heap.lt_size e
  refine wpAny_pyIter_list hl ?_
  refine ⟨s.heap.objs.size, _, its.size, _, _, SrcAt h₀ ax its, news, rfl, Walks.list hh s.heap.objs.size ax (Nat.ne_of_lt hlt) its, hsz, (fun i h st => by obtain ⟨o, e, _⟩ := st.1; exact ⟨o, e⟩), list_st, ⟨⟨_, Heap.get?_push_size _ rfl, rfl, rfl⟩, hl.push _⟩, (fun b hb => ?_),
    F.keeps (fun b o e => Heap.get?_push_of_some _ e), N.grown (fun b o e => Heap.get?_push_of_some _ e), Nat.ne_of_lt F.ns.lt, next_is_new F, (fun p hp => Nat.ne_of_lt (Heap.lt_size (N p hp).1)), hS, rest_ofG ⟨_, rfl⟩ srcAt_app step (fun ys nw a b => fin _ ys nw a b) _ 0 [] news (by omega) rfl hS h0⟩
  show b < (s.heap.push _).objs.size
  rw [Heap.size_push]
  rcases List.mem_cons.mp hb with rfl | hb
  · exact Nat.lt_succ_self _
  · rw [List.mem_singleton.mp hb]; exact Nat.lt_succ_of_lt hlt
end
end
end Mine
end
section
theorem Mine.fresh_C7 : True := by
  w_top off
  trivial
open PySem PySem.W PyProof.Rows PyProof.V PySem.Spec PySem.Calls PyProof.Rows.LCg
set_option Elab.async false
set_option maxRecDepth 100000
set_option maxHeartbeats 8000000
namespace Mine
section
variable {prog : Program} {w : World} {A : Around} {E : Value → Shared → Prop} {s : Shared} {h₀ : Heap} {L : Addr} {m : Str → Option Value} {env : Env}
/-- the frame of a comprehension whose own name lies in a cell -/
theorem cell_frame {a x b c : Str} {scope : Scope} {cl : List (Str × Addr)} {Q : Env → Shared → Prop} (hn : scope.names = [(a, .local), (x, .cell), (b, .globalImplicit), (c, .free)])
    (h : Q { scope, locals := s.heap.objs.size, globals := env.globals, cells := (x, s.heap.objs.size + 1) :: cl, qual := env.qual, func := none, code := env.code, frame := env.frame, builtins := env.builtins }
      { s with heap := (s.heap.push { cls := .type "dict", data := .dict #[] }).push { cls := .type "cell", data := .cell none } }) :
    wpAny (model prog w) A (newFunctionEnv scope env.globals cl [] env.qual none .none (some env)) Q E s := by
  simp only [newFunctionEnv, Option.isSome_some, if_true, hn]
  refine wpAny_bind (wpAny_alloc ?_)
  refine wpAny_bind ?_
  rw [List.forIn_cons]
  refine wpAny_bind (wpAny_pure ?_)
  dsimp only
  rw [List.forIn_cons]
  refine wpAny_bind (wpAny_bind (wpAny_alloc (wpAny_pure ?_)))
  dsimp only
  rw [List.forIn_cons]
  refine wpAny_bind (wpAny_pure ?_)
  dsimp only
  rw [List.forIn_cons]
  refine wpAny_bind (wpAny_pure ?_)
  dsimp only
  rw [List.forIn_nil]
  refine wpAny_pure ?_
  refine wpAny_bind (wpAny_pure (wpAny_pure ?_))
  rw [Heap.size_push]
  exact h
/-- one element, the comprehension's own name in a cell -/
def ElStepC (prog : Program) (w : World) (A : Around) (h₀ : Heap) (L : Addr) (m : Str → Option Value) (env : Env) (elt : Expr) (x : Str) (scope : Scope) (cl : List (Str × Addr)) (s : Shared) (news : List (Addr × Obj)) (n : Nat) (P R : Nat → Value → Prop) : Prop :=
  ∀ i v X oX I oI C oC D ys h tk (E' : Value → Shared → Prop), i < n → P i v → oX.data = .cell (some v) → Fr h₀ L h m → News h₀ L h ((X, oX) :: (I, oI) :: (C, oC) :: (D, lst ys) :: news) → (∀ p ∈ (I, oI) :: (C, oC) :: (D, lst ys) :: news, p.1 ≠ X) →
    wpAny (model prog w) A (eval elt (compEnvC scope ((x, X) :: cl) C env)) (fun y s₂ => ∃ h' tk', s₂ = { s with heap := h', toks := tk' } ∧ Fr h₀ L h' m ∧ News h₀ L h' ((X, oX) :: (I, oI) :: (C, oC) :: (D, lst ys) :: news) ∧ R i y) E' { s with heap := h, toks := tk }
def CellSrc (prog : Program) (w : World) (A : Around) (h₀ : Heap) (L : Addr) (m : Str → Option Value) (env : Env) (elt : Expr) (x : Str) (scope : Scope) (cl : List (Str × Addr)) (Q : Value → Shared → Prop) (xv : Value) (s₁ : Shared) : Prop :=
  ∃ ax its news R, xv = .ref ax ∧ A.handled = none ∧ Fr h₀ L s₁.heap m ∧ News h₀ L s₁.heap news ∧ SrcAt h₀ ax its news ∧ its.size ≤ 1000 ∧
      ElStepC prog w A h₀ L m env elt x scope cl s₁ news its.size (fun i v => its[i]? = some v) R ∧
      ∀ ys g, ys.length = its.size → (∀ i y, ys[i]? = some y → R i y) → FinE h₀ L m { s₁ with heap := g } Q ys news
theorem ListComp_cell {elt iter : Expr} {x a b c : Str} {px : Pos} {scope : Scope} {cl : List (Str × Addr)} {pos : Pos} {Q : Value → Shared → Prop} (_F₀ : Fr h₀ L s.heap m)
    (hclos : closureFor scope env = pure cl) (hn : scope.names = [(a, .local), (x, .cell), (b, .globalImplicit), (c, .free)]) (hkind : scope.kind = .function)
    (hnames : ∀ y ∈ scope.names, y.2 = .local → scope.names.lookup y.1 = some .local) (hx : scope.names.lookup x = some .cell)
    (hrx : ∀ C X, (compEnvC scope ((x, X) :: cl) C env).kindOf x = some .cell)
    (h : wpAny (model prog w) A (eval iter env) (fun xv s₁ => CellSrc prog w A h₀ L m env elt x scope cl Q xv s₁) E s)
    (hs : ∀ x, foldedSetIterable iter env x = pure x := by intro _; rfl) :
    wpAny (model prog w) A (eval (.ListComp elt [⟨.Name x px, iter, [], 0⟩] scope pos) env) Q E s := by
  rw [eval_ListComp]
  refine wpAny_comprehension_free (use := none) rfl hs hclos hkind hnames (wpAny_mono h (fun xv s₁ h₁ => ?_) fun _ _ e => e)
  obtain ⟨ax, its, news, R, rfl, hh, F, N, hS, hsz, step, fin⟩ := h₁
  have hl := hS.list F.keep N
  have hlt : ax < s₁.heap.objs.size := by obtain ⟨_, e, _⟩ := hl; exact Heap.lt_size e
  refine wpAny_pyIter_list hl ?_
  refine wpAny_newObj_type ?_
  refine cell_frame hn ?_
  obtain ⟨I, hI⟩ : ∃ I, I = s₁.heap.objs.size := ⟨_, rfl⟩
  have W : Walks prog w A I [I, ax] [I] its.size (fun i v => its[i]? = some v) (fun i h => h.IsListIter I ax i ∧ h.IsList ax its) := Walks.list hh I ax (hI ▸ Nat.ne_of_lt hlt) its
  have hax : @LT.lt Nat _ ax I := hI ▸ hlt
  dsimp only
  have N1 := News.push F N { cls := .type "list_iterator", data := .fields #[.ref ax, .int 0 0] }
  have F1 := F.push { cls := .type "list_iterator", data := .fields #[.ref ax, .int 0 0] }
  have i1 : (s₁.heap.push { cls := .type "list_iterator", data := .fields #[.ref ax, .int 0 0] }).IsListIter I ax 0 := ⟨_, hI ▸ Heap.get?_push_size _ rfl, rfl, rfl⟩
  have l1 := hl.push { cls := .type "list_iterator", data := .fields #[.ref ax, .int 0 0] }
  have z1 : (s₁.heap.push { cls := .type "list_iterator", data := .fields #[.ref ax, .int 0 0] }).objs.size = I + 1 := by rw [Heap.size_push, hI]
  rw [← hI] at N1 ⊢
  generalize s₁.heap.push { cls := .type "list_iterator", data := .fields #[.ref ax, .int 0 0] } = H1 at *
  have N2 := News.push F1 N1 (lst [])
  have F2 := F1.push (lst [])
  have i2 : (H1.push (lst [])).IsListIter I ax 0 := i1.at fun o e => Heap.get?_push_of_some _ e
  have l2 := l1.push (lst [])
  have z2 : (H1.push (lst [])).objs.size = I + 1 + 1 := by rw [Heap.size_push, z1]
  rw [z1] at N2 ⊢
  have e2 : (H1.push (lst [])) = H1.push { cls := .type "list", dict := none, data := .seq ([] : List Value).toArray } := rfl
  rw [← e2, z2]
  clear e2
  generalize H1.push (lst []) = H2 at *
  have N3 := News.push F2 N2 { cls := .type "dict", data := .dict #[] }
  have F3 := F2.push { cls := .type "dict", data := .dict #[] }
  have i3 : (H2.push { cls := .type "dict", data := .dict #[] }).IsListIter I ax 0 := i2.at fun o e => Heap.get?_push_of_some _ e
  have l3 := l2.push { cls := .type "dict", data := .dict #[] }
  have s3 := Heap.Ns.new H2 (.type "dict")
  have z3 : (H2.push { cls := .type "dict", data := .dict #[] }).objs.size = I + 1 + 1 + 1 := by rw [Heap.size_push, z2]
  rw [z2] at N3 s3
  generalize H2.push { cls := .type "dict", data := .dict #[] } = H3 at *
  have N4 := News.push F3 N3 { cls := .type "cell", data := .cell none }
  have F4 := F3.push { cls := .type "cell", data := .cell none }
  have i4 : (H3.push { cls := .type "cell", data := .cell none }).IsListIter I ax 0 := i3.at fun o e => Heap.get?_push_of_some _ e
  have l4 := l3.push { cls := .type "cell", data := .cell none }
  rw [z3] at N4
  generalize H3.push { cls := .type "cell", data := .cell none } = H4 at *
  have nlt : ∀ p ∈ news, @LT.lt Nat _ p.1 I := fun p hp => hI ▸ Heap.lt_size (N p hp).1
  clear N1 F1 i1 l1 z1 N2 F2 i2 l2 z2 N3 F3 i3 l3 z3
  have hns0 : ∀ h : Heap, h.get? (I + 1 + 1) = some { cls := .type "dict", data := .dict #[] } → h.Ns (I + 1 + 1) fun _ => none := fun h e => ⟨_, #[], 0, e, rfl, fun _ he => by simp at he, fun _ => rfl⟩
  have dX : ∀ (oI : Obj) ys, ∀ p ∈ (I, oI) :: (I + 1 + 1, ({ cls := .type "dict", data := .dict #[] } : Obj)) :: (I + 1, lst ys) :: news, p.1 ≠ I + 1 + 1 + 1 := fun oI ys p hp => by
    rcases List.mem_cons.mp hp with rfl | hp
    · show @Ne Nat _ _; omega
    rcases List.mem_cons.mp hp with rfl | hp
    · show @Ne Nat _ _; omega
    rcases List.mem_cons.mp hp with rfl | hp
    · show @Ne Nat _ _; omega
    · have := nlt p hp; show @Ne Nat _ _; omega
  have dI : ∀ (oX : Obj) ys, ∀ p ∈ (I + 1 + 1 + 1, oX) :: (I + 1 + 1, ({ cls := .type "dict", data := .dict #[] } : Obj)) :: (I + 1, lst ys) :: news, p.1 ∉ [I] := fun oX ys p hp => by
    rw [List.mem_singleton]
    rcases List.mem_cons.mp hp with rfl | hp
    · show @Ne Nat _ _; omega
    rcases List.mem_cons.mp hp with rfl | hp
    · show @Ne Nat _ _; omega
    rcases List.mem_cons.mp hp with rfl | hp
    · show @Ne Nat _ _; omega
    · have := nlt p hp; show @Ne Nat _ _; omega
  have dD : ∀ (oX oI : Obj), ∀ p ∈ (I + 1 + 1 + 1, oX) :: (I, oI) :: (I + 1 + 1, ({ cls := .type "dict", data := .dict #[] } : Obj)) :: news, p.1 ≠ I + 1 := fun oX oI p hp => by
    rcases List.mem_cons.mp hp with rfl | hp
    · show @Ne Nat _ _; omega
    rcases List.mem_cons.mp hp with rfl | hp
    · show @Ne Nat _ _; omega
    rcases List.mem_cons.mp hp with rfl | hp
    · show @Ne Nat _ _; omega
    · have := nlt p hp; show @Ne Nat _ _; omega
  have hL0 := fun (q : Addr × Obj) (hq : q ∈ (I + 1 + 1 + 1, ({ cls := .type "cell", data := .cell none } : Obj)) :: (I + 1 + 1, { cls := .type "dict", data := .dict #[] }) :: (I + 1, lst []) :: (I, { cls := .type "list_iterator", data := .fields #[.ref ax, .int 0 0] }) :: news) => (N4 q hq).2
  have loop : ∀ s₃ : Shared, s₃ = { s₁ with heap := H4 } →
      codeAny (model prog w) A (.compLoop (.ListComp elt [⟨.Name x px, iter, [], 0⟩] scope pos) 0 (.ref I) (.ref (I + 1)) (compEnvC scope ((x, I + 1 + 1 + 1) :: cl) (I + 1 + 1) env))
        (compPost (model prog w) A E none Q (.ref (I + 1)) (I + 1 + 1)) s₃ := by
    rintro s₃ rfl
    refine codeAny_compLoop_tests
      (fun k s' => ∃ h' tk i ys oI oX v0, s' = { s₁ with heap := h', toks := tk } ∧ i ≤ its.size ∧ k = its.size + 1 - i ∧ ys.length = i ∧ (∀ j y, ys[j]? = some y → R j y) ∧ (h'.IsListIter I ax i ∧ h'.IsList ax its) ∧ Fr h₀ L h' m ∧
        News h₀ L h' ((I + 1 + 1 + 1, oX) :: (I, oI) :: (I + 1 + 1, { cls := .type "dict", data := .dict #[] }) :: (I + 1, lst ys) :: news) ∧ oX.data = .cell v0) ?_ (its.size + 1)
      ⟨H4, _, 0, [], { cls := .type "list_iterator", data := .fields #[.ref ax, .int 0 0] }, { cls := .type "cell", data := .cell none }, none, rfl, Nat.zero_le _, rfl, rfl, by simp, ⟨i4, l4⟩, F4, fun q hq => N4 q ?_, rfl⟩
    · rintro k s' ⟨h', tk, i, ys, oI, oX, v0, rfl, hi, rfl, hyl, hR, hst, F', N', dv⟩
      have keepF : ∀ h2 : Heap, (∀ b o, b ∉ [I] → h'.get? b = some o → h2.get? b = some o) → Fr h₀ L h2 m := fun h2 hk => fr_but F' hk (fun q => (hL0 _ (.tail _ (.tail _ (.tail _ (.head _))))).1 q.symm) (hL0 _ (.tail _ (.tail _ (.tail _ (.head _))))).2
      have keepN : ∀ h2 : Heap, (∀ b o, b ∉ [I] → h'.get? b = some o → h2.get? b = some o) → News h₀ L h2 ((I + 1 + 1 + 1, oX) :: (I + 1 + 1, { cls := .type "dict", data := .dict #[] }) :: (I + 1, lst ys) :: news) := fun h2 hk p hp => ⟨hk _ _ (dI oX ys p hp) (N' p (by
        rcases List.mem_cons.mp hp with rfl | hp
        · exact .head _
        · exact .tail _ (.tail _ hp))).1, (N' p (by
        rcases List.mem_cons.mp hp with rfl | hp
        · exact .head _
        · exact .tail _ (.tail _ hp))).2⟩
      by_cases hlt2 : i < its.size
      · refine W.item i _ _ _ hlt2 hst fun v h2 tk2 hPv hst2 hk2 => ?_
        have F2 := keepF h2 hk2
        have N2 := keepN h2 hk2
        refine wpAny_assign_Name (wpAny_storeName_cell (c := I + 1 + 1 + 1) (by simp [compEnvC, relabel, hkind]) (hrx _ _) (by simp [compEnvC]) ⟨_, (N2 _ (.head _)).1, dv⟩ fun h3 hc3 hs3 => ?_)
        refine wpAny_tests_nil ?_
        rw [if_pos rfl]
        obtain ⟨oX3, eX3, dX3⟩ := hc3
        have hX := (hL0 _ (.head _))
        have F3 : Fr h₀ L h3 m := F2.change hs3 hX.1 hX.2
        have hst3 := W.frame _ _ h3 hst2 fun b hb o e => (hs3.2 b (by
          rcases List.mem_cons.mp hb with e9 | hb
          · have e9' : @Eq Nat b I := e9
            show @Ne Nat _ _; omega
          · have e9' : @Eq Nat b ax := List.mem_singleton.mp hb
            show @Ne Nat _ _; omega)).trans e
        obtain ⟨oI3, eI3, _⟩ := id hst3.1
        have hIp := (hL0 _ (.tail _ (.tail _ (.tail _ (.head _)))))
        have N3 : News h₀ L h3 ((I + 1 + 1 + 1, oX3) :: (I, oI3) :: (I + 1 + 1, { cls := .type "dict", data := .dict #[] }) :: (I + 1, lst ys) :: news) := fun p hp => by
          rcases List.mem_cons.mp hp with rfl | hp
          · exact ⟨eX3, hX⟩
          rcases List.mem_cons.mp hp with rfl | hp
          · exact ⟨eI3, hIp⟩
          · have z := N2 p (.tail _ hp)
            exact ⟨(hs3.2 _ (dX oI3 ys p (.tail _ hp))).trans z.1, z.2⟩
        refine wpAny_mono (step i v (I + 1 + 1 + 1) oX3 I oI3 (I + 1 + 1) _ (I + 1) ys h3 tk2 _ hlt2 hPv dX3 F3 N3 (dX oI3 ys)) (fun y s4 h4 => ?_) fun _ _ e => e
        obtain ⟨h4, tk4, rfl, F4, N4', r⟩ := h4
        have zD := (N4' (I + 1, lst ys) (.tail _ (.tail _ (.tail _ (.head _))))).1
        refine append_at (hsz := by show ys.toArray.size ≤ sizeLine; rw [List.size_toArray, hyl, sizeLine_eq]; omega) zD fun h5 hs5 hD5 => ?_
        have hst4 := list_st (L := L) (i + 1) h3 h4 oI3 news hst3 eI3 (N4' (I, oI3) (.tail _ (.head _))).1 F4.keep (fun p hp => N4' p (.tail _ (.tail _ (.tail _ (.tail _ hp))))) hS
        have hst5 := W.frame _ _ h5 hst4 fun b hb o e => (hs5.2 b (by
          rcases List.mem_cons.mp hb with e9 | hb
          · have e9' : @Eq Nat b I := e9
            show @Ne Nat _ _; omega
          · have e9' : @Eq Nat b ax := List.mem_singleton.mp hb
            show @Ne Nat _ _; omega)).trans e
        have hDp := (hL0 _ (.tail _ (.tail _ (.head _))))
        refine ⟨its.size + 1 - (i + 1), by omega, h5, tk4, i + 1, ys ++ [y], oI3, oX3, some v, rfl, hlt2, rfl, by rw [List.length_append, hyl]; rfl, fun j z hz => ?_, hst5, F4.change hs5 hDp.1 hDp.2, fun p hp => ?_, dX3⟩
        · rcases Nat.lt_or_ge j ys.length with hj | hj
          · rw [List.getElem?_append_left hj] at hz; exact hR j z hz
          · rw [List.getElem?_append_right hj] at hz
            cases hjj : j - ys.length with
            | zero => rw [hjj] at hz; obtain rfl : y = z := by simpa using hz
                      have : j = i := by omega
                      exact this ▸ r
            | succ q => rw [hjj] at hz; simp at hz
        · have other : ∀ p ∈ (I + 1 + 1 + 1, oX3) :: (I, oI3) :: (I + 1 + 1, ({ cls := .type "dict", data := .dict #[] } : Obj)) :: news, h5.get? p.1 = some p.2 ∧ p.1 ≠ L ∧ h₀.get? p.1 = none := fun p hp => by
            have z := N4' p (by
              rcases List.mem_cons.mp hp with rfl | hp
              · exact .head _
              rcases List.mem_cons.mp hp with rfl | hp
              · exact .tail _ (.head _)
              rcases List.mem_cons.mp hp with rfl | hp
              · exact .tail _ (.tail _ (.head _))
              · exact .tail _ (.tail _ (.tail _ (.tail _ hp))))
            exact ⟨(hs5.2 _ (dD oX3 oI3 p hp)).trans z.1, z.2⟩
          rcases List.mem_cons.mp hp with rfl | hp
          · exact other _ (.head _)
          rcases List.mem_cons.mp hp with rfl | hp
          · exact other _ (.tail _ (.head _))
          rcases List.mem_cons.mp hp with rfl | hp
          · exact other _ (.tail _ (.tail _ (.head _)))
          rcases List.mem_cons.mp hp with rfl | hp
          · exact ⟨hD5.trans (congrArg some (lst_snoc ys y)), hDp⟩
          · exact other p (.tail _ (.tail _ (.tail _ hp)))
      · obtain rfl : i = its.size := by omega
        refine W.done _ _ _ hst fun h2 tk2 hk2 => ?_
        have F2 := keepF h2 hk2
        have N2 := keepN h2 hk2
        refine ⟨_, hns0 h2 (N2 _ (.tail _ (.head _))).1, fun h3 hs3 => ?_⟩
        have hC := (hL0 _ (.tail _ (.head _)))
        refine fin ys s₁.heap hyl hR (I + 1) h3 _ (F2.change hs3 hC.1 hC.2) (fun p hp => ⟨(hs3.2 _ ?_).trans (N2 p (.tail _ (.tail _ hp))).1, (N2 p (.tail _ (.tail _ hp))).2⟩) ?_
        · rcases List.mem_cons.mp hp with rfl | hp
          · show @Ne Nat _ _; omega
          · have := nlt p hp; show @Ne Nat _ _; omega
        · have : ∀ l : List (Addr × Obj), (∀ p ∈ l, p.1 ≠ I + 1) → Off1 (I + 1) l := fun l => by
            induction l with
            | nil => exact fun _ => trivial
            | cons q r ih => exact fun hl => ⟨hl q (.head _), ih fun p hp => hl p (.tail _ hp)⟩
          exact this news fun p hp => by have := nlt p hp; show @Ne Nat _ _; omega
    · simp only [List.mem_cons] at hq ⊢; grind
  exact codeAny_compStart_list (loop _ rfl) (W.self 0 _ _ _ ⟨i4, l4⟩ (loop _ rfl))
end
end Mine
end
section
theorem Mine.fresh_P3 : True := by
  w_top off
  trivial
open PySem PyProof.Rows PySem.Spec
open Builtin Builtin.Str StrLaws
set_option Elab.async false
namespace Mine
/-- replacing, on lists: k signs are still to be skipped -/
def rep (y z : List Nat) : Nat → List Nat → List Nat
  | _, [] => []
  | k + 1, _ :: r => rep y z k r
  | 0, c :: r => if y.isPrefixOf (c :: r) then z ++ rep y z (y.length - 1) r else c :: rep y z 0 r

theorem rep_skip (y z : List Nat) : ∀ (k : Nat) (l : List Nat), rep y z k l = rep y z 0 (l.drop k)
  | 0, l => by rw [List.drop_zero]
  | k + 1, [] => by simp [rep]
  | k + 1, c :: r => by rw [rep, rep_skip y z k r, List.drop_succ_cons]

theorem rep_hit {y z l : List Nat} (hy : 1 ≤ y.length) : rep y z 0 (y ++ l) = z ++ rep y z 0 l := by
  cases y with
  | nil => simp at hy
  | cons c r =>
    show rep (c :: r) z 0 (c :: (r ++ l)) = _
    rw [rep, if_pos (by rw [List.isPrefixOf_iff_prefix]; exact ⟨l, rfl⟩), rep_skip]
    congr 2
    simp

theorem rep_free {y z : List Nat} : ∀ {l : List Nat} {m : Nat}, m ≤ l.length → (∀ k, k < m → ¬ y <+: l.drop k) → rep y z 0 l = l.take m ++ rep y z 0 (l.drop m)
  | l, 0, _, _ => by simp
  | [], m + 1, h, _ => by simp at h
  | c :: r, m + 1, h, hf => by
    have h0 : ¬ y <+: (c :: r) := by simpa using hf 0 (by omega)
    rw [rep, if_neg (by rw [List.isPrefixOf_iff_prefix]; exact h0), rep_free (m := m) (by simpa using h) fun k hk => by simpa using hf (k + 1) (by omega)]
    simp

theorem at_iff (x y : Str) (i : Nat) (hy : 1 ≤ y.length) : At x y x.length i ↔ y.cps.toList <+: x.cps.toList.drop i := by
  unfold At
  rw [subAt_eq]
  have ey : y.length = y.cps.toList.length := by simp [Str.length]
  have ex : x.length = x.cps.toList.length := by simp [Str.length]
  rw [ey] at hy ⊢
  rw [ex]
  constructor
  · rintro ⟨_, h⟩
    rw [beq_iff_eq] at h
    exact ⟨_, (congrArg (· ++ (x.cps.toList.drop i).drop y.cps.toList.length) h.symm).trans (List.take_append_drop ..)⟩
  · intro h
    obtain ⟨t, e⟩ := h
    have hl := congrArg List.length e
    rw [List.length_append, List.length_drop] at hl
    refine ⟨by omega, ?_⟩
    rw [beq_iff_eq, ← e]
    simp

theorem rep_parts (x y z : Str) (hy : 1 ≤ y.length) : ∀ (cuts : List Nat) (a f : Nat), a ≤ x.length → ChainG x y x.length a cuts f → (∀ k, f ≤ k → ¬ At x y x.length k) →
    (Str.join z (partsFrom x y.length a cuts)).cps.toList = rep y.cps.toList z.cps.toList 0 (x.cps.toList.drop a)
  | [], a, f, ha, hc, hf => by
    obtain rfl : f = a := hc
    have e : (x.cps.toList.drop f).take (x.cps.toList.drop f).length = x.cps.toList.drop f := List.take_length
    rw [rep_free (m := (x.cps.toList.drop f).length) (Nat.le_refl _) fun k _ h => hf (f + k) (Nat.le_add_right _ _) ((at_iff x y _ hy).mpr (by rwa [List.drop_drop] at h)), e, List.drop_length]
    show (x.cps.extract f x.length).toList = _
    rw [rep, List.append_nil]
    simp only [Array.toList_extract, List.extract_eq_take_drop]
    exact List.take_of_length_le (by rw [List.length_drop]; simp [Str.length])
  | c :: r, a, f, ha, hc, hf => by
    obtain ⟨h1, h2, h3, h4⟩ := hc
    have hcw := h2.1
    have ih := rep_parts x y z hy r (c + y.length) f hcw h4 hf
    obtain ⟨q, rs, hq⟩ := partsFrom_ne x y.length (c + y.length) r
    have hxl : x.length = x.cps.toList.length := by simp [Str.length]
    have hyl : y.length = y.cps.toList.length := by simp [Str.length]
    rw [rep_free (m := c - a) (by rw [List.length_drop]; omega) fun k hk h => h3 (a + k) (by omega) (by omega) ((at_iff x y _ hy).mpr (by rwa [List.drop_drop] at h)), List.drop_drop, show a + (c - a) = c by omega]
    obtain ⟨t, ht⟩ := (at_iff x y c hy).mp h2
    rw [← ht, rep_hit (by omega), show t = x.cps.toList.drop (c + y.length) by rw [hyl, ← List.drop_drop, ← ht]; simp, ← ih]
    show (Str.join z (strSub x a c :: partsFrom x y.length (c + y.length) r)).cps.toList = _
    rw [hq]
    show (strSub x a c ++ z ++ Str.join z (q :: rs)).cps.toList = _
    simp only [Str.cps_append, Array.toList_append, List.append_assoc]
    congr 1
    show (x.cps.extract a c).toList = _
    simp [List.take_drop, show a + (c - a) = c by omega]

theorem rep_spec (x y z : Str) (hy : 1 ≤ y.length) : (Txt.replace x y z).cps.toList = rep y.cps.toList z.cps.toList 0 x.cps.toList := by
  obtain ⟨f, hc, hf⟩ := occ_tight x y hy
  have h := rep_parts x y z hy _ 0 f (Nat.zero_le _) hc hf
  rw [List.drop_zero] at h
  unfold Txt.replace
  split
  · rename_i he
    have he' : (occurrences x y 0 x.length (x.length + 1)) = [] := by
      rw [Bool.or_eq_true] at he
      rcases he with he | he
      · exact List.isEmpty_iff.mp he
      · rw [Bool.and_eq_true, beq_iff_eq] at he; omega
    rw [he'] at h
    rw [← h]
    show _ = (strSub x 0 x.length).cps.toList
    simp [strSub, Str.length]
  · rw [glued_eq_join, partsBetween_eq]; exact h
theorem rep_length (y z : List Nat) : ∀ (l : List Nat) (k : Nat), (rep y z k l).length ≤ l.length + l.length * z.length
  | [], k => by cases k <;> simp [rep]
  | c :: r, k + 1 => by
    rw [rep, List.length_cons, Nat.succ_mul]
    have := rep_length y z r k
    omega
  | c :: r, 0 => by
    rw [rep, List.length_cons, Nat.succ_mul]
    split
    · have := rep_length y z r (y.length - 1)
      rw [List.length_append]; omega
    · have := rep_length y z r 0
      rw [List.length_cons]; omega
theorem rep_len (x y z : Str) (hy : 1 ≤ y.length) : (Txt.replace x y z).length ≤ x.length + (x.length + 1) * z.length := by
  have h := congrArg List.length (rep_spec x y z hy)
  have h2 := rep_length y.cps.toList z.cps.toList x.cps.toList 0
  rw [← h] at h2
  simp only [Array.length_toList] at h2
  show (Txt.replace x y z).cps.size ≤ x.cps.size + (x.cps.size + 1) * z.cps.size
  rw [Nat.succ_mul]; omega
end Mine
end
section
theorem Mine.fresh_P14 : True := by
  w_top off
  trivial
open PySem PyProof.Rows PySem.Spec
set_option Elab.async false
set_option maxRecDepth 100000
namespace Mine
/-- values laid into a row, one after another -/
def laid (v : List Nat) (row : List Nat) (starts : List Nat) : List Nat := starts.foldl (fun row s => row.take s ++ v ++ row.drop (s + v.length)) row
/-- where the replacing finds the key: k signs are still to be skipped, the next stands at place a -/
def pos (y : List Nat) : Nat → Nat → List Nat → List Nat
  | _, _, [] => []
  | k + 1, a, _ :: r => pos y k (a + 1) r
  | 0, a, c :: r => if y.isPrefixOf (c :: r) then a :: pos y (y.length - 1) (a + 1) r else pos y 0 (a + 1) r
theorem pos_skip (y : List Nat) : ∀ (k a : Nat) (l : List Nat), k ≤ l.length → pos y k a l = pos y 0 (a + k) (l.drop k)
  | 0, a, l, _ => by rw [List.drop_zero, Nat.add_zero]
  | k + 1, a, [], h => by simp at h
  | k + 1, a, c :: r, h => by
    rw [pos, pos_skip y k (a + 1) r (by simpa using h), List.drop_succ_cons, show a + 1 + k = a + (k + 1) by omega]
theorem laid_pos {y v : List Nat} (hy : 1 ≤ y.length) (hv : v.length = y.length) : ∀ (n : Nat) (r pre : List Nat), r.length ≤ n → laid v (pre ++ r) (pos y 0 pre.length r) = pre ++ rep y v 0 r
  | _, [], pre, _ => by simp [pos, rep, laid]
  | 0, _ :: _, _, h => by simp at h
  | n + 1, c :: r, pre, h => by
    rw [pos, rep]
    by_cases hp : y <+: c :: r
    · have hl := hp.length_le
      rw [List.length_cons] at hl
      rw [if_pos (List.isPrefixOf_iff_prefix.mpr hp), if_pos (List.isPrefixOf_iff_prefix.mpr hp)]
      have ed : (c :: r).drop y.length = r.drop (y.length - 1) := by
        rw [show y.length = (y.length - 1) + 1 by omega, List.drop_succ_cons]; simp
      have e1 : (pre ++ c :: r).take pre.length ++ v ++ (pre ++ c :: r).drop (pre.length + v.length) = (pre ++ v) ++ r.drop (y.length - 1) := by
        rw [List.take_left, hv, ← List.drop_drop, List.drop_left, ed]
      show laid v ((pre ++ c :: r).take pre.length ++ v ++ (pre ++ c :: r).drop (pre.length + v.length)) (pos y (y.length - 1) (pre.length + 1) r) = _
      rw [e1, pos_skip y _ _ _ (by omega), show pre.length + 1 + (y.length - 1) = (pre ++ v).length by rw [List.length_append]; omega,
        laid_pos hy hv n _ (pre ++ v) (by rw [List.length_drop]; simp at h; omega), rep_skip y v (y.length - 1), List.append_assoc]
    · rw [if_neg (fun q => hp (List.isPrefixOf_iff_prefix.mp q)), if_neg (fun q => hp (List.isPrefixOf_iff_prefix.mp q))]
      have := laid_pos hy hv n r (pre ++ [c]) (by simpa using h)
      rw [List.length_append, List.append_assoc, List.append_assoc] at this
      exact this
/-- a way: keys apart in a row, in ascending order, each at place a or behind -/
def Way (y : List Nat) (row : List Nat) : Nat → List Nat → Prop
  | _, [] => True
  | a, s :: r => a ≤ s ∧ y <+: row.drop s ∧ Way y row (s + y.length) r
theorem Way.mono {y row : List Nat} : ∀ {l : List Nat} {a b : Nat}, a ≤ b → Way y row b l → Way y row a l
  | [], _, _, _, _ => trivial
  | _ :: _, _, _, h, ⟨h1, h2⟩ => ⟨Nat.le_trans h h1, h2⟩
/-- the places found are a way -/
theorem pos_way {y : List Nat} (hy : 1 ≤ y.length) {row : List Nat} : ∀ (n : Nat) (a : Nat), row.length - a ≤ n → Way y row a (pos y 0 a (row.drop a))
  | n, a, h => by
    cases e : row.drop a with
    | nil => exact trivial
    | cons c r =>
      have ha : a < row.length := by
        rcases Nat.lt_or_ge a row.length with q | q
        · exact q
        · rw [List.drop_eq_nil_of_le q] at e; cases e
      have er : row.drop (a + 1) = r := by rw [← List.drop_drop, e]; rfl
      match n with
      | 0 => omega
      | n + 1 =>
        rw [pos]
        by_cases hp : y <+: c :: r
        · rw [if_pos (List.isPrefixOf_iff_prefix.mpr hp)]
          have hl := hp.length_le
          rw [List.length_cons] at hl
          refine ⟨Nat.le_refl _, by rw [e]; exact hp, ?_⟩
          rw [pos_skip y _ _ _ (by omega), ← er, List.drop_drop, show a + 1 + (y.length - 1) = a + y.length by omega]
          exact pos_way hy n _ (by omega)
        · rw [if_neg (fun q => hp (List.isPrefixOf_iff_prefix.mp q)), ← er]
          exact (pos_way hy n (a + 1) (by omega)).mono (Nat.le_succ a)
/-- stay ahead: each way has no more keys, and none earlier -/
inductive Ahead : List Nat → List Nat → Prop
  | nil (l) : Ahead l []
  | cons {a b l r} : a ≤ b → Ahead l r → Ahead (a :: l) (b :: r)
theorem pos_ahead {y : List Nat} (hy : 1 ≤ y.length) {row : List Nat} : ∀ (n : Nat) (a : Nat) (l : List Nat), row.length - a ≤ n → Way y row a l → Ahead (pos y 0 a (row.drop a)) l
  | _, _, [], _, _ => .nil _
  | n, a, s :: l, h, ⟨h1, h2, h3⟩ => by
    cases e : row.drop a with
    | nil =>
      exfalso
      have hl := h2.length_le
      have ha : row.length ≤ a := by
        have := congrArg List.length e
        rw [List.length_drop] at this; simp at this; omega
      rw [List.length_drop] at hl
      omega
    | cons c r =>
      have ha : a < row.length := by
        rcases Nat.lt_or_ge a row.length with q | q
        · exact q
        · rw [List.drop_eq_nil_of_le q] at e; cases e
      have er : row.drop (a + 1) = r := by rw [← List.drop_drop, e]; rfl
      match n with
      | 0 => omega
      | n + 1 =>
        rw [pos]
        by_cases hp : y <+: c :: r
        · rw [if_pos (List.isPrefixOf_iff_prefix.mpr hp)]
          have hl := hp.length_le
          rw [List.length_cons] at hl
          refine .cons h1 ?_
          rw [pos_skip y _ _ _ (by omega), ← er, List.drop_drop, show a + 1 + (y.length - 1) = a + y.length by omega]
          exact pos_ahead hy n _ l (by omega) (h3.mono (by omega))
        · rw [if_neg (fun q => hp (List.isPrefixOf_iff_prefix.mp q)), ← er]
          have hs : a ≠ s := fun q => hp (by rw [← e, q]; exact h2)
          exact pos_ahead hy n (a + 1) (s :: l) (by omega) ⟨by omega, h2, h3⟩
theorem Ahead.length {l r : List Nat} (h : Ahead l r) : r.length ≤ l.length := by
  induction h with
  | nil => simp
  | cons _ _ ih => simpa using ih
end Mine
end
section
theorem Mine.fresh_P15 : True := by
  w_top off
  trivial
open PySem PyProof.Rows PySem.Spec
set_option Elab.async false
set_option maxRecDepth 100000
namespace Mine
theorem occ_take {y row : List Nat} {i t : Nat} (hy : 1 ≤ y.length) : y <+: (row.take i).drop t ↔ y <+: row.drop t ∧ t + y.length ≤ i := by
  rw [List.drop_take, List.prefix_take_iff]
  constructor
  · rintro ⟨h1, h2⟩; exact ⟨h1, by omega⟩
  · rintro ⟨h1, h2⟩; exact ⟨h1, by omega⟩
theorem way_take {y row : List Nat} (hy : 1 ≤ y.length) {i j : Nat} (h : i ≤ j) : ∀ {l : List Nat} {a : Nat}, Way y (row.take i) a l → Way y (row.take j) a l
  | [], _, _ => trivial
  | s :: l, a, ⟨h1, h2, h3⟩ => by
    have := (occ_take hy).mp h2
    exact ⟨h1, (occ_take hy).mpr ⟨this.1, by omega⟩, way_take hy h h3⟩
/-- a way that ends at the last place, or does not -/
theorem way_last {y row : List Nat} (hy : 1 ≤ y.length) {i : Nat} : ∀ {l : List Nat} {a : Nat}, Way y (row.take (i + 1)) a l →
    Way y (row.take i) a l ∨ ∃ l', l = l' ++ [i + 1 - y.length] ∧ y.length ≤ i + 1 ∧ y <+: row.drop (i + 1 - y.length) ∧ Way y (row.take (i + 1 - y.length)) a l' ∧ (l' = [] → a ≤ i + 1 - y.length)
  | [], _, _ => .inl trivial
  | t :: r, a, ⟨h1, h2, h3⟩ => by
    have ho := (occ_take hy).mp h2
    rcases way_last hy h3 with hr | ⟨r', rfl, hn, hs, hw, he⟩
    · by_cases hti : t + y.length ≤ i
      · exact .inl ⟨h1, (occ_take hy).mpr ⟨ho.1, hti⟩, hr⟩
      · have ht : t = i + 1 - y.length := by omega
        cases r with
        | nil => exact .inr ⟨[], by rw [ht]; rfl, by omega, by rw [← ht]; exact ho.1, trivial, fun _ => by omega⟩
        | cons q r =>
          exfalso
          have := ((occ_take hy).mp hr.2.1).2
          have := hr.1
          omega
    · refine .inr ⟨t :: r', rfl, hn, hs, ⟨h1, (occ_take hy).mpr ⟨ho.1, ?_⟩, hw⟩, fun q => by cases q⟩
      cases r' with
      | nil => exact he rfl
      | cons q r' =>
        have := ((occ_take hy).mp hw.2.1).2
        have := hw.1
        omega
theorem way_snoc {y row : List Nat} (hy : 1 ≤ y.length) {s : Nat} (ho : y <+: row.drop s) : ∀ {l : List Nat} {a : Nat}, Way y (row.take s) a l → (l = [] → a ≤ s) → Way y (row.take (s + y.length)) a (l ++ [s])
  | [], a, _, h => ⟨h rfl, (occ_take hy).mpr ⟨ho, Nat.le_refl _⟩, trivial⟩
  | t :: r, a, ⟨h1, h2, h3⟩, _ => by
    have hq := (occ_take hy).mp h2
    refine ⟨h1, (occ_take hy).mpr ⟨hq.1, by omega⟩, way_snoc hy ho h3 (fun _ => hq.2)⟩
/-- the most keys apart in the first i signs -/
def mx (y row : List Nat) (i : Nat) : Nat := (pos y 0 0 (row.take i)).length
theorem way_le {y row : List Nat} (hy : 1 ≤ y.length) {i : Nat} {l : List Nat} (h : Way y (row.take i) 0 l) : l.length ≤ mx y row i := by
  have := pos_ahead hy (row := row.take i) _ 0 l (Nat.le_refl _) h
  rw [List.drop_zero] at this
  exact this.length
theorem best_way {y row : List Nat} (hy : 1 ≤ y.length) (i : Nat) : Way y (row.take i) 0 (pos y 0 0 (row.take i)) := by
  have := pos_way hy (row := row.take i) _ 0 (Nat.le_refl _)
  rwa [List.drop_zero] at this
/-- what the law calls 'found' -/
def found (y row : List Nat) (ws : List (List (List Nat))) (i : Nat) : List (List Nat) :=
  ws.getD (i - 1) [] ++ (if y.length ≤ i ∧ (row.drop (i - y.length)).take y.length = y then (ws.getD (i - y.length) []).map (· ++ [i - y.length]) else [])
def Best (y row : List Nat) (i : Nat) (f : List (List Nat)) : Prop := ∀ l, l ∈ f ↔ Way y (row.take i) 0 l ∧ l.length = mx y row i
theorem occ_eq {y l : List Nat} : l.take y.length = y ↔ y <+: l := by
  constructor
  · intro h
    refine ⟨l.drop y.length, ?_⟩
    have := List.take_append_drop y.length l
    rwa [h] at this
  · rintro ⟨t, rfl⟩; simp
theorem found_all {y row : List Nat} (hy : 1 ≤ y.length) {ws : List (List (List Nat))} {i : Nat} (hb : ∀ j, j ≤ i → Best y row j (ws.getD j [])) :
    (∀ l ∈ found y row ws (i + 1), Way y (row.take (i + 1)) 0 l) ∧ (∀ l, Way y (row.take (i + 1)) 0 l → l.length = mx y row (i + 1) → l ∈ found y row ws (i + 1)) := by
  constructor
  · intro l hl
    rcases List.mem_append.mp hl with hl | hl
    · exact way_take hy (Nat.le_succ i) ((hb i (Nat.le_refl _) l).mp hl).1
    · split at hl
      · rename_i hc
        obtain ⟨l', hl', rfl⟩ := List.mem_map.mp hl
        have hw := ((hb (i + 1 - y.length) (by omega) l').mp hl').1
        have := way_snoc hy (occ_eq.mp hc.2) hw (fun _ => Nat.zero_le _)
        rwa [show i + 1 - y.length + y.length = i + 1 by omega] at this
      · cases hl
  · intro l hl hm
    rcases way_last hy hl with hw | ⟨l', rfl, hn, hs, hw, _⟩
    · refine List.mem_append_left _ ((hb i (Nat.le_refl _) l).mpr ⟨hw, ?_⟩)
      have h1 := way_le hy hw
      have h2 := way_le hy (way_take hy (show i ≤ i + 1 by omega) (best_way (row := row) hy i))
      show l.length = mx y row i
      unfold mx at *
      omega
    · refine List.mem_append_right _ ?_
      rw [if_pos ⟨hn, occ_eq.mpr hs⟩]
      refine List.mem_map.mpr ⟨l', (hb (i + 1 - y.length) (by omega) l').mpr ⟨hw, ?_⟩, rfl⟩
      have h1 := way_le hy hw
      have h2 := way_snoc hy hs (best_way (row := row) hy (i + 1 - y.length)) (fun _ => Nat.zero_le _)
      rw [show i + 1 - y.length + y.length = i + 1 by omega] at h2
      have h3 := way_le hy h2
      rw [List.length_append] at h3 hm
      simp only [List.length_cons, List.length_nil] at h3 hm
      show l'.length = mx y row (i + 1 - y.length)
      unfold mx at *
      omega
/-- the ones with the most keys, and no others -/
theorem best_step {y row : List Nat} (hy : 1 ≤ y.length) {ws : List (List (List Nat))} {i m : Nat} (hb : ∀ j, j ≤ i → Best y row j (ws.getD j [])) (hm : ∀ l ∈ found y row ws (i + 1), l.length ≤ m) (hm2 : ∃ l ∈ found y row ws (i + 1), l.length = m) :
    Best y row (i + 1) ((found y row ws (i + 1)).filter fun l => l.length == m) := by
  obtain ⟨f1, f2⟩ := found_all hy hb
  have hg := f2 _ (best_way hy (i + 1)) rfl
  have e : m = mx y row (i + 1) := by
    obtain ⟨l, hl, rfl⟩ := hm2
    have h1 := way_le hy (f1 l hl)
    have h2 := hm _ hg
    unfold mx at *
    omega
  subst e
  intro l
  rw [List.mem_filter, beq_iff_eq]
  exact ⟨fun h => ⟨f1 l h.1, h.2⟩, fun h => ⟨f2 l h.1 h.2, h.2⟩⟩
end Mine
end
section
theorem Mine.fresh_P16 : True := by
  w_top off
  trivial
open PySem PyProof.Rows PySem.Spec
set_option Elab.async false
set_option maxRecDepth 100000
namespace Mine
/-- the order of tuples -/
def lexLe : List Nat → List Nat → Prop
  | [], _ => True
  | _ :: _, [] => False
  | a :: l, b :: r => a < b ∨ (a = b ∧ lexLe l r)
theorem ahead_lex {l r : List Nat} (h : Ahead l r) : l.length = r.length → lexLe l r := by
  induction h with
  | nil l =>
    intro e
    cases l with
    | nil => exact trivial
    | cons _ _ => simp at e
  | cons hab _ ih =>
    intro e
    rcases Nat.lt_or_ge _ _ with h | h
    · exact .inl h
    · exact .inr ⟨Nat.le_antisymm hab h, ih (by simpa using e)⟩
theorem lex_refl : ∀ l : List Nat, lexLe l l
  | [] => trivial
  | _ :: l => .inr ⟨rfl, lex_refl l⟩
theorem lex_anti : ∀ {l r : List Nat}, lexLe l r → lexLe r l → l = r
  | [], [], _, _ => rfl
  | [], _ :: _, _, h => h.elim
  | _ :: _, [], h, _ => h.elim
  | a :: l, b :: r, h, g => by
    rcases h with h | ⟨rfl, h⟩
    · rcases g with g | ⟨e, _⟩
      · omega
      · omega
    · rcases g with g | ⟨_, g⟩
      · omega
      · rw [lex_anti h g]
/-- the places seen from the other end -/
def mirror (N n : Nat) : List Nat → List Nat
  | [] => []
  | s :: l => mirror N n l ++ [N - (s + n)]
theorem mirror_len (N n : Nat) : ∀ l, (mirror N n l).length = l.length
  | [] => rfl
  | s :: l => by rw [mirror, List.length_append, mirror_len N n l]; rfl
theorem occ_mirror {y row : List Nat} {t : Nat} (h : y <+: row.drop t) : y.reverse <+: row.reverse.drop (row.length - (t + y.length)) := by
  obtain ⟨rest, hr⟩ := h
  have hl := congrArg List.length hr
  rw [List.length_append, List.length_drop] at hl
  by_cases ht : t ≤ row.length
  · have e : row = row.take t ++ (y ++ rest) := by rw [hr, List.take_append_drop]
    have er : row.reverse = rest.reverse ++ (y.reverse ++ (row.take t).reverse) := by
      conv => lhs; rw [e]
      simp only [List.reverse_append, List.append_assoc]
    rw [er, show row.length - (t + y.length) = rest.reverse.length by rw [List.length_reverse]; omega, List.drop_left]
    exact List.prefix_append _ _
  · have hy : y = [] := by
      cases y with
      | nil => rfl
      | cons _ _ => simp at hl; omega
    subst hy
    simp
theorem way_mirror {y row : List Nat} (hy : 1 ≤ y.length) : ∀ {l : List Nat} {a : Nat}, Way y row a l → Way y.reverse (row.reverse.take (row.length - a)) 0 (mirror row.length y.length l)
  | [], _, _ => trivial
  | t :: r, a, ⟨h1, h2, h3⟩ => by
    have hl := h2.length_le
    rw [List.length_drop] at hl
    have ih := way_mirror hy h3
    have hs := way_snoc (y := y.reverse) (by simpa using hy) (occ_mirror h2) ih (fun _ => Nat.zero_le _)
    rw [List.length_reverse] at hs
    exact way_take (by simpa using hy) (by omega) hs
theorem way_full {y row : List Nat} {l : List Nat} (h : Way y.reverse (row.reverse.take (row.length - 0)) 0 l) : Way y.reverse row.reverse 0 l := by
  rwa [Nat.sub_zero, List.take_of_length_le (by simp)] at h
/-- one laying -/
def lay (v row : List Nat) (s : Nat) : List Nat := row.take s ++ v ++ row.drop (s + v.length)
theorem lay_len {v row : List Nat} {s : Nat} (h : s + v.length ≤ row.length) : (lay v row s).length = row.length := by
  unfold lay
  simp only [List.length_append, List.length_take, List.length_drop]
  omega
theorem lay_rev {v row : List Nat} {s : Nat} (h : s + v.length ≤ row.length) : (lay v row s).reverse = lay v.reverse row.reverse (row.length - (s + v.length)) := by
  unfold lay
  rw [List.reverse_append, List.reverse_append, List.length_reverse, List.append_assoc]
  congr 1
  · rw [List.take_reverse]
    congr 1
    congr 1
    omega
  · congr 1
    rw [List.drop_reverse]
    congr 1
    congr 1
    omega
theorem lay_app {v A B R : List Nat} {s : Nat} (hs : A.length = s) (hB : B.length = v.length) : lay v (A ++ (B ++ R)) s = A ++ (v ++ R) := by
  subst hs
  unfold lay
  rw [List.take_left, ← hB, ← List.drop_drop, List.drop_left, List.drop_left, List.append_assoc]
theorem lay_comm {v row : List Nat} {s t : Nat} (h : t + v.length ≤ s) (hs : s + v.length ≤ row.length) : lay v (lay v row s) t = lay v (lay v row t) s := by
  obtain ⟨A, B, C, D, R, rfl, hA, hB, hC, hD⟩ : ∃ A B C D R, row = A ++ (B ++ (C ++ (D ++ R))) ∧ A.length = t ∧ B.length = v.length ∧ C.length = s - (t + v.length) ∧ D.length = v.length := by
    refine ⟨row.take t, (row.drop t).take v.length, (row.drop (t + v.length)).take (s - (t + v.length)), (row.drop s).take v.length, row.drop (s + v.length), ?_, ?_, ?_, ?_, ?_⟩
    · have e1 : (row.drop s).take v.length ++ row.drop (s + v.length) = row.drop s := by rw [← List.drop_drop, List.take_append_drop]
      have e2 : (row.drop (t + v.length)).take (s - (t + v.length)) ++ row.drop s = row.drop (t + v.length) := by
        have := List.take_append_drop (s - (t + v.length)) (row.drop (t + v.length))
        rwa [List.drop_drop, show t + v.length + (s - (t + v.length)) = s by omega] at this
      rw [e1, e2, ← List.drop_drop, List.take_append_drop, List.take_append_drop]
    · rw [List.length_take]; omega
    · rw [List.length_take, List.length_drop]; omega
    · rw [List.length_take, List.length_drop]; omega
    · rw [List.length_take, List.length_drop]; omega
  have hABC : (A ++ (B ++ C)).length = s := by simp only [List.length_append]; omega
  have hAvC : (A ++ (v ++ C)).length = s := by simp only [List.length_append]; omega
  have e1 : A ++ (B ++ (C ++ (D ++ R))) = (A ++ (B ++ C)) ++ (D ++ R) := by simp only [List.append_assoc]
  have e2 : (A ++ (B ++ C)) ++ (v ++ R) = A ++ (B ++ (C ++ (v ++ R))) := by simp only [List.append_assoc]
  have e3 : A ++ (v ++ (C ++ (D ++ R))) = (A ++ (v ++ C)) ++ (D ++ R) := by simp only [List.append_assoc]
  rw [e1, lay_app hABC hD, e2, lay_app hA hB, ← e1, lay_app hA hB, e3, lay_app hAvC hD]
  simp only [List.append_assoc]
/-- laying over a way, seen from the other end -/
theorem laid_eq (v : List Nat) : ∀ (l row : List Nat), laid v row l = l.foldl (lay v) row := fun _ _ => rfl
theorem laid_len {v y : List Nat} (hv : v.length = y.length) : ∀ {l row row' : List Nat} {a : Nat}, row'.length = row.length → Way y row a l → (laid v row' l).length = row.length
  | [], _, _, _, e, _ => e
  | t :: r, row, row', a, e, ⟨h1, h2, h3⟩ => by
    by_cases hy : y.length = 0
    · show (laid v (lay v row' t) r).length = row.length
      refine laid_len hv ?_ h3
      unfold lay
      simp only [List.length_append, List.length_take, List.length_drop]
      omega
    · have hl := h2.length_le
      rw [List.length_drop] at hl
      show (laid v (lay v row' t) r).length = row.length
      exact laid_len hv ((lay_len (by omega)).trans e) h3
theorem lay_laid {v y : List Nat} (hy : 1 ≤ y.length) (hv : v.length = y.length) : ∀ {l row row' : List Nat} {a t : Nat}, row'.length = row.length → t + v.length ≤ a → Way y row a l → lay v (laid v row' l) t = laid v (lay v row' t) l
  | [], _, _, _, _, _, _, _ => rfl
  | s :: r, row, row', a, t, e, ht, ⟨h1, h2, h3⟩ => by
    have hl := h2.length_le
    rw [List.length_drop] at hl
    show lay v (laid v (lay v row' s) r) t = laid v (lay v (lay v row' t) s) r
    rw [lay_laid hy hv ((lay_len (by omega)).trans e) (by omega) h3, lay_comm (by omega) (by omega)]
theorem laid_mirror {v y : List Nat} (hy : 1 ≤ y.length) (hv : v.length = y.length) : ∀ {l row row' : List Nat} {a : Nat}, row'.length = row.length → Way y row a l → (laid v row' l).reverse = laid v.reverse row'.reverse (mirror row.length y.length l)
  | [], _, _, _, _, _ => rfl
  | t :: r, row, row', a, e, ⟨h1, h2, h3⟩ => by
    have hl := h2.length_le
    rw [List.length_drop] at hl
    have ih := laid_mirror hy hv e h3
    have e1 : laid v.reverse row'.reverse (mirror row.length y.length (t :: r)) = lay v.reverse (laid v.reverse row'.reverse (mirror row.length y.length r)) (row.length - (t + y.length)) := by
      rw [mirror, laid_eq, List.foldl_append]; rfl
    have hlen := laid_len hv e h3
    rw [e1, ← ih, ← hv, ← hlen, ← lay_rev (by omega), lay_laid hy hv e (by omega) h3]
    rfl
end Mine
end
section
theorem Mine.fresh_P17 : True := by
  w_top off
  trivial
open PySem PyProof.Rows PySem.Spec
set_option Elab.async false
set_option maxRecDepth 100000
namespace Mine
theorem mirror_snoc (N n s : Nat) : ∀ l, mirror N n (l ++ [s]) = (N - (s + n)) :: mirror N n l
  | [] => rfl
  | a :: l => by rw [List.cons_append, mirror, mirror_snoc N n s l, mirror, List.cons_append]
theorem mirror_mirror {N n : Nat} : ∀ {l : List Nat}, (∀ s ∈ l, s + n ≤ N) → mirror N n (mirror N n l) = l
  | [], _ => rfl
  | s :: l, h => by
    have := h s (.head _)
    rw [mirror, mirror_snoc, mirror_mirror fun q hq => h q (.tail _ hq), show N - (N - (s + n) + n) = s by omega]
theorem way_in {y row : List Nat} (hy : 1 ≤ y.length) : ∀ {l : List Nat} {a : Nat}, Way y row a l → ∀ s ∈ l, s + y.length ≤ row.length
  | t :: r, a, ⟨_, h2, h3⟩, s, hs => by
    rcases List.mem_cons.mp hs with rfl | hs
    · have hl := h2.length_le
      rw [List.length_drop] at hl
      omega
    · exact way_in hy h3 s hs
theorem Ahead.snoc {a b : Nat} (hab : a ≤ b) : ∀ {l r : List Nat}, Ahead l r → l.length = r.length → Ahead (l ++ [a]) (r ++ [b])
  | [], _, .nil _, _ => .cons hab (.nil _)
  | _ :: _, _, .nil _, e => by simp at e
  | _, _, .cons h t, e => .cons h (Ahead.snoc hab t (by simpa using e))
theorem ahead_mirror {N n : Nat} : ∀ {l r : List Nat}, Ahead l r → l.length = r.length → Ahead (mirror N n r) (mirror N n l)
  | [], _, .nil _, _ => .nil _
  | _ :: _, _, .nil _, e => by simp at e
  | _, _, .cons h t, e => Ahead.snoc (by omega) (ahead_mirror t (by simpa using e)) (by rw [mirror_len, mirror_len]; simpa using e.symm)
/-- the least of the ways with the most keys: what the replacing does -/
theorem earliest {y v row x : List Nat} {f : List (List Nat)} (hy : 1 ≤ y.length) (hv : v.length = y.length) (hf : Best y row row.length f) (hx : x ∈ f) (hmin : ∀ l ∈ f, lexLe x l) : laid v row x = rep y v 0 row := by
  have hb := best_way hy (row := row) row.length
  have hg : pos y 0 0 row ∈ f := by
    have := (hf (pos y 0 0 (row.take row.length))).mpr ⟨hb, rfl⟩
    rwa [List.take_length] at this
  have hw := (hf x).mp hx
  rw [List.take_length] at hw
  have ha := pos_ahead hy (row := row) _ 0 x (Nat.le_refl _) hw.1
  rw [List.drop_zero] at ha
  have hm : mx y row row.length = (pos y 0 0 row).length := by unfold mx; rw [List.take_length]
  rw [lex_anti (hmin _ hg) (ahead_lex ha (by rw [← hm, hw.2]))]
  exact laid_pos hy hv _ row [] (Nat.le_refl _)
/-- the greatest of them: what the replacing does from the other end -/
theorem latest {y v row x : List Nat} {f : List (List Nat)} (hy : 1 ≤ y.length) (hv : v.length = y.length) (hf : Best y row row.length f) (hx : x ∈ f) (hmax : ∀ l ∈ f, lexLe l x) : laid v row x = (rep y.reverse v.reverse 0 row.reverse).reverse := by
  have hyr : 1 ≤ y.reverse.length := by simpa using hy
  have hw := (hf x).mp hx
  rw [List.take_length] at hw
  obtain ⟨G, hG⟩ : ∃ G, G = pos y.reverse 0 0 row.reverse := ⟨_, rfl⟩
  have hGw : Way y.reverse row.reverse 0 G := by
    have := pos_way hyr (row := row.reverse) _ 0 (Nat.le_refl _)
    rwa [List.drop_zero, ← hG] at this
  have hH : Way y row 0 (mirror row.length y.length G) := by
    have := way_mirror hyr hGw
    simp only [List.reverse_reverse, List.length_reverse, Nat.sub_zero, List.take_length] at this
    exact this
  have hmx : Way y.reverse row.reverse 0 (mirror row.length y.length x) := way_full (way_mirror hy hw.1)
  have ha := pos_ahead hyr (row := row.reverse) _ 0 _ (Nat.le_refl _) hmx
  rw [List.drop_zero, ← hG] at ha
  have l1 := ha.length
  rw [mirror_len] at l1
  have hH' : Way y (row.take row.length) 0 (mirror row.length y.length G) := by rwa [List.take_length]
  have l2 := way_le hy hH'
  rw [mirror_len] at l2
  have hlen : G.length = x.length := by omega
  have hHf : mirror row.length y.length G ∈ f := (hf _).mpr ⟨hH', by rw [mirror_len, hlen, hw.2]⟩
  have hxx := mirror_mirror (way_in hy hw.1)
  have hAx := ahead_mirror (N := row.length) (n := y.length) ha (by rw [mirror_len, hlen])
  rw [hxx] at hAx
  have hxH := lex_anti (ahead_lex hAx (by rw [mirror_len, hlen])) (hmax _ hHf)
  have hGG : mirror row.length y.length (mirror row.length y.length G) = G := mirror_mirror fun s hs => by
    have := way_in hyr hGw s hs
    simpa using this
  have key := laid_mirror hy hv (row' := row) rfl hH
  have lp : laid v.reverse row.reverse G = rep y.reverse v.reverse 0 row.reverse := by
    rw [hG]; exact laid_pos hyr (by simpa using hv) _ row.reverse [] (Nat.le_refl _)
  rw [hGG, ← hxH, lp] at key
  rw [← List.reverse_reverse (laid v row x), key]
end Mine
end
section
theorem Mine.fresh_M1 : True := by
  w_top off
  trivial
open PySem PySem.W PyProof.Rows PySem.Spec PySem.Calls
set_option Elab.async false
set_option maxRecDepth 100000
set_option maxHeartbeats 4000000
namespace Mine
def lexLt : List Nat → List Nat → Bool
  | [], [] => false
  | [], _ :: _ => true
  | _ :: _, [] => false
  | a :: l, b :: r => if a = b then lexLt l r else decide (a < b)
theorem lex_lt : ∀ {l r : List Nat}, lexLt l r = false → lexLe r l
  | [], [], _ => trivial
  | [], _ :: _, h => by simp [lexLt] at h
  | _ :: _, [], _ => trivial
  | a :: l, b :: r, h => by
    unfold lexLt at h
    by_cases e : a = b
    · rw [if_pos e] at h; exact .inr ⟨e.symm, lex_lt h⟩
    · rw [if_neg e] at h; have := of_decide_eq_false h; exact .inl (by omega)
theorem lex_lt' : ∀ {l r : List Nat}, lexLt l r = true → lexLe l r
  | [], [], h => by simp [lexLt] at h
  | [], _ :: _, _ => trivial
  | _ :: _, [], h => by simp [lexLt] at h
  | a :: l, b :: r, h => by
    unfold lexLt at h
    by_cases e : a = b
    · rw [if_pos e] at h; exact .inr ⟨e, lex_lt' h⟩
    · rw [if_neg e] at h; exact .inl (of_decide_eq_true h)
theorem lex_trans : ∀ {l r q : List Nat}, lexLe l r → lexLe r q → lexLe l q
  | [], _, _, _, _ => trivial
  | _ :: _, [], _, h, _ => h.elim
  | _ :: _, _ :: _, [], _, h => h.elim
  | a :: l, b :: r, c :: q, h, g => by
    rcases h with h | ⟨rfl, h⟩
    · rcases g with g | ⟨rfl, _⟩
      · exact .inl (by omega)
      · exact .inl h
    · rcases g with g | ⟨rfl, g⟩
      · exact .inl g
      · exact .inr ⟨rfl, lex_trans h g⟩
def tupO (vs : List Value) (n : Nat) : Obj := ⟨.type "tuple", none, .seq vs.toArray n, #[]⟩
abbrev nats (l : List Nat) : List Int := l.map fun c : Nat => (c : Int)
/-- a tuple of numbers lies here -/
def WayAt (h : Heap) (v : Value) (l : List Nat) : Prop := ∃ a vs n, v = .ref a ∧ h.get? a = some (tupO vs n) ∧ IntsAre vs (nats l)
section
variable {prog : Program} {w : World} {A : Around} {E : Value → Shared → Prop} {s : Shared}
theorem tuple_lt_tree {a b : Addr} {xs ys : List Value} {n k : Nat} {x y : List Nat} {P : Fin → Shared → Prop} (ha : s.heap.get? a = some (tupO xs n)) (hb : s.heap.get? b = some (tupO ys k)) (hx : IntsAre xs (nats x)) (hy : IntsAre ys (nats y))
    (h : P (.done (.ret (.bool (lexLt x y)))) s) :
    wpAny (model prog w) A (Builtin.«tuple.__lt__» ⟨[.ref a, .ref b], []⟩) P E s := by
  have hTb : s.TypeIs (.ref b) "tuple" := ⟨_, hb, rfl⟩
  show wpAny _ _ (isInstance (.ref b) (.type "tuple") >>= _) _ _ s
  refine wpAny_bind (wpAny_isInstance hTb isSubtype_tuple_tuple ?_)
  simp only [Bool.not_true, Bool.false_eq_true, if_false]
  refine wpAny_bind (wpAny_tupleItemsOf ha rfl ?_)
  refine wpAny_bind (wpAny_tupleItemsOf hb rfl ?_)
  refine wpAny_bind ?_
  refine wpAny_forIn_list _
    (fun rest r s' => r.1 = none ∧ s' = s ∧ ∃ x' y' xs' ys', rest = List.zip xs' ys' ∧ IntsAre xs' (nats x') ∧ IntsAre ys' (nats y') ∧ lexLt x' y' = lexLt x y ∧ (xs'.length + ys.length = ys'.length + xs.length))
    _ ?_ ?_ _ _ ⟨rfl, rfl, x, y, xs, ys, rfl, hx, hy, rfl, by omega⟩
  · rintro ⟨u, v⟩ rest r s' ⟨hr, rfl, x', y', xs', ys', hz, hx', hy', hdec, hlen⟩
    cases x' with
    | nil => cases hx'; simp at hz
    | cons c x'' =>
      cases y' with
      | nil => cases hy'; simp at hz
      | cons d y'' =>
        cases hx' with
        | cons _ t1 hx'' =>
        cases hy' with
        | cons _ t2 hy'' =>
        rename_i xs'' ys''
        simp only [List.zip_cons_cons, List.cons.injEq, Prod.mk.injEq] at hz
        obtain ⟨⟨rfl, rfl⟩, rfl⟩ := hz
        refine wpAny_bind (wpAny_eqBool_int ?_)
        by_cases hk : c = d
        · subst hk
          simp only [beq_self_eq_true, Bool.not_true, Bool.false_eq_true, if_false]
          refine wpAny_pure ⟨rfl, rfl, x'', y'', _, _, rfl, hx'', hy'', ?_, by simp only [List.length_cons] at hlen; omega⟩
          rw [← hdec, lexLt, if_pos rfl]
        · have e0 : ((c : Int) == (d : Int)) = false := by
            rw [beq_eq_false_iff_ne]; omega
          rw [e0]
          simp only [Bool.not_false, if_true]
          rw [← hdec, lexLt, if_neg hk] at h
          refine wpAny_bind (wpAny_rule (wpAny_bind ?_))
          refine richCompare_gives (op := .Lt) (typeIs_int _ _ t1) (typeIs_int _ _ t2) F.slot_int_lt F.entry_int_lt (F.args_int_lt_2 _ _) (gives_int_lt _ _ t1 t2) (fun x => nomatch x) ?_
          have e1 : (decide ((c : Int) < (d : Int))) = decide (c < d) := by
            by_cases q : c < d
            · rw [decide_eq_true q, decide_eq_true (by omega)]
            · rw [decide_eq_false q, decide_eq_false (by omega)]
          show wpAny _ _ _ _ _ _
          rw [e1]
          exact wpAny_bind (wpAny_pure (wpAny_pure (wpAny_pure h)))
  · rintro ⟨r1, r2⟩ s' ⟨hr, rfl, x', y', xs', ys', hz, hx', hy', hdec, hlen⟩
    simp only at hr
    subst hr
    refine wpAny_pure ?_
    have hfin : decide (xs.toArray.size < ys.toArray.size) = lexLt x y := by
      rw [← hdec, List.size_toArray, List.size_toArray]
      cases x' with
      | nil =>
        cases hx'
        cases y' with
        | nil => cases hy'; simp at hlen; simp [lexLt]; omega
        | cons d y'' => cases hy'; simp at hlen; simp [lexLt]; omega
      | cons c x'' =>
        cases hx'
        cases y' with
        | nil => cases hy'; simp at hlen; simp [lexLt]; omega
        | cons d y'' => cases hy'; simp at hz
    show P (.done (.ret (.bool (decide (xs.toArray.size < ys.toArray.size))))) s'
    rw [hfin]; exact h
theorem tuple_gt_tree {a b : Addr} {xs ys : List Value} {n k : Nat} {x y : List Nat} {P : Fin → Shared → Prop} (ha : s.heap.get? a = some (tupO xs n)) (hb : s.heap.get? b = some (tupO ys k)) (hx : IntsAre xs (nats x)) (hy : IntsAre ys (nats y))
    (h : P (.done (.ret (.bool (lexLt y x)))) s) :
    wpAny (model prog w) A (Builtin.«tuple.__gt__» ⟨[.ref a, .ref b], []⟩) P E s := by
  have hTb : s.TypeIs (.ref b) "tuple" := ⟨_, hb, rfl⟩
  show wpAny _ _ (isInstance (.ref b) (.type "tuple") >>= _) _ _ s
  refine wpAny_bind (wpAny_isInstance hTb isSubtype_tuple_tuple ?_)
  simp only [Bool.not_true, Bool.false_eq_true, if_false]
  refine wpAny_bind (wpAny_tupleItemsOf ha rfl ?_)
  refine wpAny_bind (wpAny_tupleItemsOf hb rfl ?_)
  refine wpAny_bind ?_
  refine wpAny_forIn_list _
    (fun rest r s' => r.1 = none ∧ s' = s ∧ ∃ x' y' xs' ys', rest = List.zip xs' ys' ∧ IntsAre xs' (nats x') ∧ IntsAre ys' (nats y') ∧ lexLt y' x' = lexLt y x ∧ (xs'.length + ys.length = ys'.length + xs.length))
    _ ?_ ?_ _ _ ⟨rfl, rfl, x, y, xs, ys, rfl, hx, hy, rfl, by omega⟩
  · rintro ⟨u, v⟩ rest r s' ⟨hr, rfl, x', y', xs', ys', hz, hx', hy', hdec, hlen⟩
    cases x' with
    | nil => cases hx'; simp at hz
    | cons c x'' =>
      cases y' with
      | nil => cases hy'; simp at hz
      | cons d y'' =>
        cases hx' with
        | cons _ t1 hx'' =>
        cases hy' with
        | cons _ t2 hy'' =>
        rename_i xs'' ys''
        simp only [List.zip_cons_cons, List.cons.injEq, Prod.mk.injEq] at hz
        obtain ⟨⟨rfl, rfl⟩, rfl⟩ := hz
        refine wpAny_bind (wpAny_eqBool_int ?_)
        by_cases hk : d = c
        · subst hk
          simp only [beq_self_eq_true, Bool.not_true, Bool.false_eq_true, if_false]
          refine wpAny_pure ⟨rfl, rfl, x'', y'', _, _, rfl, hx'', hy'', ?_, by simp only [List.length_cons] at hlen; omega⟩
          rw [← hdec, lexLt, if_pos rfl]
        · have e0 : ((c : Int) == (d : Int)) = false := by
            rw [beq_eq_false_iff_ne]; omega
          rw [e0]
          simp only [Bool.not_false, if_true]
          rw [← hdec, lexLt, if_neg hk] at h
          refine wpAny_bind (wpAny_rule (wpAny_bind ?_))
          refine richCompare_gives (op := .Gt) (typeIs_int _ _ t1) (typeIs_int _ _ t2) F.slot_int_gt F.entry_int_gt (F.args_int_gt_2 _ _) (gives_int_gt _ _ t1 t2) (fun x => nomatch x) ?_
          have e1 : (decide ((c : Int) > (d : Int))) = decide (d < c) := by
            by_cases q : d < c
            · rw [decide_eq_true q, decide_eq_true (by omega)]
            · rw [decide_eq_false q, decide_eq_false (by omega)]
          show wpAny _ _ _ _ _ _
          rw [e1]
          exact wpAny_bind (wpAny_pure (wpAny_pure (wpAny_pure h)))
  · rintro ⟨r1, r2⟩ s' ⟨hr, rfl, x', y', xs', ys', hz, hx', hy', hdec, hlen⟩
    simp only at hr
    subst hr
    refine wpAny_pure ?_
    have hfin : decide (xs.toArray.size > ys.toArray.size) = lexLt y x := by
      rw [← hdec, List.size_toArray, List.size_toArray]
      cases x' with
      | nil =>
        cases hx'
        cases y' with
        | nil => cases hy'; simp at hlen; simp [lexLt]; omega
        | cons d y'' => cases hy'; simp at hlen; simp [lexLt]; omega
      | cons c x'' =>
        cases hx'
        cases y' with
        | nil => cases hy'; simp at hlen; simp [lexLt]; omega
        | cons d y'' => cases hy'; simp at hz
    show P (.done (.ret (.bool (decide (xs.toArray.size > ys.toArray.size))))) s'
    rw [hfin]; exact h
theorem way_lt {v u : Value} {x y : List Nat} {Q : Value → Shared → Prop} (hu : A.units < cLine) (hv : WayAt s.heap v x) (hw : WayAt s.heap u y) (h : Q (.bool (lexLt x y)) s) : wpAny (model prog w) A (richCompare .Lt v u) Q E s := by
  obtain ⟨a, xs, n, rfl, ha, hx⟩ := hv
  obtain ⟨b, ys, k, rfl, hb, hy⟩ := hw
  exact wpAny_richCompare_same_room (op := .Lt) (T := "tuple") ⟨_, ha, rfl⟩ ⟨_, hb, rfl⟩ F.slot_tuple_lt
      (wpAny_call_entry F.slot_tuple_lt ⟨_, ha, rfl⟩ F.entry_tuple_lt (tuple_lt_tree ha hb hx hy ⟨_, rfl, (fun e => nomatch e), h⟩) (F.args_tuple_lt_2 _ _)) hu
theorem way_gt {v u : Value} {x y : List Nat} {Q : Value → Shared → Prop} (hu : A.units < cLine) (hv : WayAt s.heap v x) (hw : WayAt s.heap u y) (h : Q (.bool (lexLt y x)) s) : wpAny (model prog w) A (richCompare .Gt v u) Q E s := by
  obtain ⟨a, xs, n, rfl, ha, hx⟩ := hv
  obtain ⟨b, ys, k, rfl, hb, hy⟩ := hw
  exact wpAny_richCompare_same_room (op := .Gt) (T := "tuple") ⟨_, ha, rfl⟩ ⟨_, hb, rfl⟩ F.slot_tuple_gt
      (wpAny_call_entry F.slot_tuple_gt ⟨_, ha, rfl⟩ F.entry_tuple_gt (tuple_gt_tree ha hb hx hy ⟨_, rfl, (fun e => nomatch e), h⟩) (F.args_tuple_gt_2 _ _)) hu
end
end Mine
end
section
theorem Mine.fresh_M2 : True := by
  w_top off
  trivial
open PySem PySem.W PyProof.Rows PySem.Spec PySem.Calls
set_option Elab.async false
set_option maxRecDepth 100000
set_option maxHeartbeats 4000000
namespace Mine
def WaysAt (h : Heap) (vs : List Value) (ls : List (List Nat)) : Prop := vs.length = ls.length ∧ ∀ (i : Nat) (v : Value), vs[i]? = some v → ∃ l, ls[i]? = some l ∧ WayAt h v l
theorem WayAt.keeps {h h' : Heap} {v : Value} {l : List Nat} (x : WayAt h v l) (k : ∀ b o, h.get? b = some o → h'.get? b = some o) : WayAt h' v l := by
  obtain ⟨a, vs, n, rfl, e, i⟩ := x
  exact ⟨a, vs, n, rfl, k _ _ e, i⟩
theorem a_units (A : Around) : A.in1.units = A.units + 1 ∨ A.in1.units = A.units := by
  first | exact .inl rfl | exact .inr rfl

section
variable {prog : Program} {w : World} {A : Around} {R : Result → Shared → Prop} {I S : Addr} {fp wr : List Addr} {n : Nat} {St : Nat → Heap → Prop} {h00 : Heap} {vs : List Value} {ls : List (List Nat)}
/-- the turns of min: the least of those seen so far -/
theorem min_turns (W : Walks prog w A.in1 I fp wr n (fun i v => vs.toArray[i]? = some v) St) (hwr : ∀ b ∈ wr, h00.objs.size ≤ b) (hS0 : h00.objs.size ≤ S) (hSf : S ∉ fp) (hw : WaysAt h00 vs ls) (hu : A.in1.units < cLine) (hn : n = ls.length) :
    ∀ (k j : Nat) (s : Shared) (vb : Value) (c i0 : Nat) (x : List Nat), n - (j + 1) = k → j + 1 ≤ n → St (j + 1) s.heap → (∀ b o, h00.get? b = some o → s.heap.get? b = some o) →
    vs[i0]? = some vb → ls[i0]? = some x → (∀ i l, i ≤ j → ls[i]? = some l → lexLe x l) →
    s.heap.get? S = some { cls := .type "list", dict := none, data := .seq #[vb, vb] c, slots := #[] } →
    (∀ v (i : Nat) y h' tk, vs[i]? = some v → ls[i]? = some y → (∀ l ∈ ls, lexLe y l) → (∀ b o, b ∉ wr → b ≠ S → s.heap.get? b = some o → h'.get? b = some o) → R (.ok (.ret v)) { s with heap := h', toks := tk }) →
    codeAny (model prog w) A (.builtin "min.loop" ⟨[.ref I, .none, .ref S], []⟩) R s := by
  have hname : (toString "min" ++ toString ".loop" : String) = "min.loop" := by decide
  have hSw : S ∉ wr := fun h => hSf (W.sub _ h)
  intro k
  induction k with
  | zero =>
    intro j s vb c i0 x hk hj hst hkeep hv hx hmin hS hR
    have hin : j + 1 = n := by omega
    refine codeAny_builtin F.entry_min_loop ?_
    rw [Around.under_plainId F.plain_min_loop _]
    show wpAny _ A.in1 (seqItems? (.ref S) >>= _) _ _ s
    refine wpAny_bind (wpAny_seqItems hS rfl ?_)
    show wpAny _ A.in1 (tryCatch (pyNext (.ref I)) _ >>= _) _ _ s
    refine wpAny_bind (wpAny_tryCatch (W.done s _ _ (hin ▸ hst) fun h' tk hk' => ?_))
    refine wpAny_bind (wpAny_updateSeq (hk' S _ hSw hS) rfl (wpAny_bind (wpAny_letGo (wpAny_pure ?_))))
    refine hR vb i0 x _ tk hv hx (fun l hl => ?_) fun b o hbw hbS e => (Heap.get?_update_other _ _ (Ne.symm hbS)).trans (hk' b o hbw e)
    obtain ⟨i, hi⟩ := List.getElem?_of_mem hl
    have : i < ls.length := (List.getElem?_eq_some_iff.mp hi).1
    exact hmin i l (by omega) hi
  | succ k ih =>
    intro j s vb c i0 x hk hj hst hkeep hv hx hmin hS hR
    have hlt : j + 1 < n := by omega
    refine codeAny_builtin F.entry_min_loop ?_
    rw [Around.under_plainId F.plain_min_loop _]
    show wpAny _ A.in1 (seqItems? (.ref S) >>= _) _ _ s
    refine wpAny_bind (wpAny_seqItems hS rfl ?_)
    show wpAny _ A.in1 (tryCatch (pyNext (.ref I)) _ >>= _) _ _ s
    refine wpAny_bind (wpAny_tryCatch (W.item (j + 1) s _ _ hlt hst fun v h' tk hP hst' hk' => ?_))
    have hS' := hk' S _ hSw hS
    have hold : ∀ b o, h00.get? b = some o → h'.get? b = some o := fun b o e => hk' b o (fun hm => absurd (Heap.lt_size e) (Nat.not_lt.mpr (hwr b hm))) (hkeep b o e)
    have hvj : vs[j + 1]? = some v := by simpa using hP
    obtain ⟨y, hy, wy⟩ := hw.2 _ _ hvj
    obtain ⟨x', hx', wx⟩ := hw.2 _ _ hv
    obtain rfl : x = x' := Option.some.inj (hx.symm.trans hx')
    show wpAny _ A.in1 (tryCatch (holding [v, v] (richCompare .Lt v vb >>= _)) _ >>= _) _ _ _
    refine wpAny_bind (wpAny_tryCatch (wpAny_holding (wpAny_bind (way_lt hu (wy.keeps hold) (wx.keeps hold) ?_))))
    refine wpAny_bind (wpAny_holding (wpAny_truthy_bool ?_))
    refine wpAny_bind (wpAny_letGo (wpAny_pure ?_))
    cases hb : lexLt y x with
    | true =>
      simp only [if_true]
      refine wpAny_bind (wpAny_updateSeq hS' rfl (wpAny_bind (wpAny_letGo ?_)))
      rw [hname]
      refine wpAny_pure ⟨plainId_quiet F.plain_min_loop _, ih (j + 1) _ v _ (j + 1) y (by omega) hlt (W.frame _ _ _ hst' fun b hbf o e => ?_) (fun b o e => ?_) hvj hy (fun i l hi hl => ?_) (Heap.get?_update_self _ hS' rfl)
        fun v' i' y' h'' tk'' e1 e2 e3 hk'' => ?_⟩
      · exact (Heap.get?_update_other _ _ (fun h : S = b => hSf (by rw [h]; exact hbf))).trans e
      · exact (Heap.get?_update_other _ _ (fun h : S = b => absurd (Heap.lt_size e) (Nat.not_lt.mpr (h ▸ hS0)))).trans (hold b o e)
      · rcases Nat.lt_or_ge j i with q | q
        · obtain rfl : i = j + 1 := by omega
          rw [hy] at hl; cases hl
          exact lex_refl _
        · exact lex_trans (lex_lt' hb) (hmin i l q hl)
      · exact hR v' i' y' h'' tk'' e1 e2 e3 fun b o hbw hbS e => hk'' b o hbw hbS ((Heap.get?_update_other _ _ (Ne.symm hbS)).trans (hk' b o hbw e))
    | false =>
      simp only [Bool.false_eq_true, if_false]
      refine wpAny_bind (wpAny_letGo ?_)
      rw [hname]
      refine wpAny_pure ⟨plainId_quiet F.plain_min_loop _, ih (j + 1) _ vb c i0 x (by omega) hlt hst' hold hv hx (fun i l hi hl => ?_) hS' fun v' i' y' h'' tk'' e1 e2 e3 hk'' => ?_⟩
      · rcases Nat.lt_or_ge j i with q | q
        · obtain rfl : i = j + 1 := by omega
          rw [hy] at hl; cases hl
          exact lex_lt hb
        · exact hmin i l q hl
      · exact hR v' i' y' h'' tk'' e1 e2 e3 fun b o hbw hbS e => hk'' b o hbw hbS (hk' b o hbw e)
theorem min_start (W : Walks prog w A.in1 I fp wr n (fun i v => vs.toArray[i]? = some v) St) (hwr : ∀ b ∈ wr, h00.objs.size ≤ b) (hS0 : h00.objs.size ≤ S) (hSf : S ∉ fp) (hw : WaysAt h00 vs ls) (hu : A.in1.units < cLine) (hn : n = ls.length) (hn0 : 0 < n)
    {s : Shared} {c : Nat} (hst : St 0 s.heap) (hkeep : ∀ b o, h00.get? b = some o → s.heap.get? b = some o) (hS : s.heap.get? S = some { cls := .type "list", dict := none, data := .seq #[] c, slots := #[] })
    (hR : ∀ v (i : Nat) y h' tk, vs[i]? = some v → ls[i]? = some y → (∀ l ∈ ls, lexLe y l) → (∀ b o, b ∉ wr → b ≠ S → s.heap.get? b = some o → h'.get? b = some o) → R (.ok (.ret v)) { s with heap := h', toks := tk }) :
    codeAny (model prog w) A (.builtin "min.loop" ⟨[.ref I, .none, .ref S], []⟩) R s := by
  have hname : (toString "min" ++ toString ".loop" : String) = "min.loop" := by decide
  have hSw : S ∉ wr := fun h => hSf (W.sub _ h)
  refine codeAny_builtin F.entry_min_loop ?_
  rw [Around.under_plainId F.plain_min_loop _]
  show wpAny _ A.in1 (seqItems? (.ref S) >>= _) _ _ s
  refine wpAny_bind (wpAny_seqItems hS rfl ?_)
  show wpAny _ A.in1 (tryCatch (pyNext (.ref I)) _ >>= _) _ _ s
  refine wpAny_bind (wpAny_tryCatch (W.item 0 s _ _ hn0 hst fun v h' tk hP hst' hk' => ?_))
  have hS' := hk' S _ hSw hS
  have hv0 : vs[0]? = some v := by simpa using hP
  obtain ⟨y, hy, _⟩ := hw.2 _ _ hv0
  show wpAny _ A.in1 (updateSeq S (fun _ => #[v, v]) >>= _) _ _ _
  refine wpAny_bind ?_
  refine wpAny_updateSeq hS' rfl ?_
  rw [hname]
  refine wpAny_pure ⟨plainId_quiet F.plain_min_loop _, min_turns W hwr hS0 hSf hw hu hn _ 0 _ v _ 0 y rfl hn0 (W.frame _ _ _ hst' fun b hbf o e => ?_) (fun b o e => ?_) hv0 hy (fun i l hi hl => ?_) (Heap.get?_update_self _ hS' rfl) fun v' i' y' h'' tk'' e1 e2 e3 hk'' => ?_⟩
  · exact (Heap.get?_update_other _ _ (fun h : S = b => hSf (by rw [h]; exact hbf))).trans e
  · exact (Heap.get?_update_other _ _ (fun h : S = b => absurd (Heap.lt_size e) (Nat.not_lt.mpr (h ▸ hS0)))).trans (hk' b o (fun hm => absurd (Heap.lt_size e) (Nat.not_lt.mpr (hwr b hm))) (hkeep b o e))
  · obtain rfl : i = 0 := by omega
    rw [hy] at hl; cases hl
    exact lex_refl _
  · exact hR v' i' y' h'' tk'' e1 e2 e3 fun b o hbw hbS e => hk'' b o hbw hbS ((Heap.get?_update_other _ _ (Ne.symm hbS)).trans (hk' b o hbw e))
end
section
variable {prog : Program} {w : World} {A : Around} {E : Value → Shared → Prop} {s : Shared} {h₀ : Heap} {L : Addr} {m : Str → Option Value} {news : List (Addr × Obj)} {vs : List Value} {ls : List (List Nat)} {D : Addr}
/-- the least of a list of tuples -/
theorem min_ways {Q : Value → Shared → Prop} (hh : A.handled = none) (hu : A.units + 9 < cLine) (FF : Fr h₀ L s.heap m) (N : News h₀ L s.heap news) (hl : s.heap.IsList D vs.toArray) (hw : WaysAt s.heap vs ls) (hne : 0 < ls.length)
    (k : ∀ (i : Nat) v x h' tk, vs[i]? = some v → ls[i]? = some x → (∀ l ∈ ls, lexLe x l) → Fr h₀ L h' m → News h₀ L h' news → Q v { s with heap := h', toks := tk }) :
    wpAny (model prog w) A (call (.builtin "min") [.ref D]) Q E s := by
  have hname : (toString "min" ++ toString ".loop" : String) = "min.loop" := by decide
  have hu1 : A.in1.in1.units < cLine := by
    rcases a_units A with e | e <;> rcases a_units A.in1 with g | g <;> omega
  have hu2 : A.in1.units < cLine := by
    rcases a_units A with e | e <;> omega
  have hlt : D < s.heap.objs.size := by obtain ⟨_, e, _⟩ := hl; exact Heap.lt_size e
  refine call_function_tree F.kind_min F.plain_min F.entry_min (F.args_min1 _) ?_
  show wpAny _ A.in1 (Builtin.Builtins.bindParams "min" ["key", "default"] 0 ⟨[], []⟩ >>= _) _ _ s
  refine wpAny_bind (wpAny_of_eq (show Builtin.Builtins.bindParams "min" ["key", "default"] 0 ⟨[], []⟩ = pure [none, none] from rfl) ?_)
  refine wpAny_bind (wpAny_pure ?_)
  refine wpAny_bind (wpAny_pyIter_list hl ?_)
  refine wpAny_bind (wpAny_newObj_type ?_)
  have up2 : ∀ (o1 o2 : Obj) b o, s.heap.get? b = some o → (((s.heap.push o1).push o2).get? b = some o) := fun o1 o2 b o e => Heap.get?_push_of_some _ (Heap.get?_push_of_some _ e)
  rw [hname]
  have W : Walks prog w A.in1 s.heap.objs.size [s.heap.objs.size, D] [s.heap.objs.size] vs.toArray.size (fun i v => vs.toArray[i]? = some v) _ := Walks.list (A := A.in1) hh s.heap.objs.size D (Nat.ne_of_lt hlt) vs.toArray
  refine wpAny_pure ⟨plainId_quiet F.plain_min_loop _, ?_⟩
  have hge : s.heap.objs.size ≤ (s.heap.push { cls := .type "list_iterator", data := .fields #[.ref D, .int 0 0] }).objs.size := by rw [Heap.size_push]; exact Nat.le_succ _
  have hne1 : (s.heap.push { cls := .type "list_iterator", data := .fields #[.ref D, .int 0 0] }).objs.size ≠ s.heap.objs.size := by rw [Heap.size_push]; exact Nat.succ_ne_self _
  have hne2 : (s.heap.push { cls := .type "list_iterator", data := .fields #[.ref D, .int 0 0] }).objs.size ≠ D := by rw [Heap.size_push]; exact Nat.ne_of_gt (Nat.lt_succ_of_lt hlt)
  refine min_start (h00 := s.heap) (ls := ls) W (fun b hb => ?_) hge ?_ hw hu2 (by rw [List.size_toArray]; exact hw.1) (by rw [List.size_toArray, hw.1]; exact hne) ?_ (fun b o e => up2 _ _ b o e) (Heap.get?_push_size _ rfl) (fun v i x h' tk e1 e2 e3 hk => ?_)
  · rw [List.mem_singleton.mp hb]; exact Nat.le_refl _
  · intro hm
    rcases List.mem_cons.mp hm with e | hm
    · exact hne1 e
    · exact hne2 (List.mem_singleton.mp hm)
  · exact ⟨⟨_, Heap.get?_push_of_some _ (Heap.get?_push_size _ rfl), rfl, rfl⟩, (hl.push _).push _⟩
  · have kk : ∀ b o, s.heap.get? b = some o → h'.get? b = some o := fun b o e => hk b o (fun hm => absurd (Heap.lt_size e) ((List.mem_singleton.mp hm) ▸ Nat.lt_irrefl _)) (fun q => absurd (Heap.lt_size e) (Nat.not_lt.mpr (q ▸ hge))) (up2 _ _ b o e)
    exact k i v x h' tk e1 e2 e3 (FF.keeps kk) (N.grown kk)
end

section
variable {prog : Program} {w : World} {A : Around} {R : Result → Shared → Prop} {I S : Addr} {fp wr : List Addr} {n : Nat} {St : Nat → Heap → Prop} {h00 : Heap} {vs : List Value} {ls : List (List Nat)}
/-- the turns of max: the greatest of those seen so far -/
theorem max_turns (W : Walks prog w A.in1 I fp wr n (fun i v => vs.toArray[i]? = some v) St) (hwr : ∀ b ∈ wr, h00.objs.size ≤ b) (hS0 : h00.objs.size ≤ S) (hSf : S ∉ fp) (hw : WaysAt h00 vs ls) (hu : A.in1.units < cLine) (hn : n = ls.length) :
    ∀ (k j : Nat) (s : Shared) (vb : Value) (c i0 : Nat) (x : List Nat), n - (j + 1) = k → j + 1 ≤ n → St (j + 1) s.heap → (∀ b o, h00.get? b = some o → s.heap.get? b = some o) →
    vs[i0]? = some vb → ls[i0]? = some x → (∀ i l, i ≤ j → ls[i]? = some l → lexLe l x) →
    s.heap.get? S = some { cls := .type "list", dict := none, data := .seq #[vb, vb] c, slots := #[] } →
    (∀ v (i : Nat) y h' tk, vs[i]? = some v → ls[i]? = some y → (∀ l ∈ ls, lexLe l y) → (∀ b o, b ∉ wr → b ≠ S → s.heap.get? b = some o → h'.get? b = some o) → R (.ok (.ret v)) { s with heap := h', toks := tk }) →
    codeAny (model prog w) A (.builtin "max.loop" ⟨[.ref I, .none, .ref S], []⟩) R s := by
  have hname : (toString "max" ++ toString ".loop" : String) = "max.loop" := by decide
  have hSw : S ∉ wr := fun h => hSf (W.sub _ h)
  intro k
  induction k with
  | zero =>
    intro j s vb c i0 x hk hj hst hkeep hv hx hmin hS hR
    have hin : j + 1 = n := by omega
    refine codeAny_builtin F.entry_max_loop ?_
    rw [Around.under_plainId F.plain_max_loop _]
    show wpAny _ A.in1 (seqItems? (.ref S) >>= _) _ _ s
    refine wpAny_bind (wpAny_seqItems hS rfl ?_)
    show wpAny _ A.in1 (tryCatch (pyNext (.ref I)) _ >>= _) _ _ s
    refine wpAny_bind (wpAny_tryCatch (W.done s _ _ (hin ▸ hst) fun h' tk hk' => ?_))
    refine wpAny_bind (wpAny_updateSeq (hk' S _ hSw hS) rfl (wpAny_bind (wpAny_letGo (wpAny_pure ?_))))
    refine hR vb i0 x _ tk hv hx (fun l hl => ?_) fun b o hbw hbS e => (Heap.get?_update_other _ _ (Ne.symm hbS)).trans (hk' b o hbw e)
    obtain ⟨i, hi⟩ := List.getElem?_of_mem hl
    have : i < ls.length := (List.getElem?_eq_some_iff.mp hi).1
    exact hmin i l (by omega) hi
  | succ k ih =>
    intro j s vb c i0 x hk hj hst hkeep hv hx hmin hS hR
    have hlt : j + 1 < n := by omega
    refine codeAny_builtin F.entry_max_loop ?_
    rw [Around.under_plainId F.plain_max_loop _]
    show wpAny _ A.in1 (seqItems? (.ref S) >>= _) _ _ s
    refine wpAny_bind (wpAny_seqItems hS rfl ?_)
    show wpAny _ A.in1 (tryCatch (pyNext (.ref I)) _ >>= _) _ _ s
    refine wpAny_bind (wpAny_tryCatch (W.item (j + 1) s _ _ hlt hst fun v h' tk hP hst' hk' => ?_))
    have hS' := hk' S _ hSw hS
    have hold : ∀ b o, h00.get? b = some o → h'.get? b = some o := fun b o e => hk' b o (fun hm => absurd (Heap.lt_size e) (Nat.not_lt.mpr (hwr b hm))) (hkeep b o e)
    have hvj : vs[j + 1]? = some v := by simpa using hP
    obtain ⟨y, hy, wy⟩ := hw.2 _ _ hvj
    obtain ⟨x', hx', wx⟩ := hw.2 _ _ hv
    obtain rfl : x = x' := Option.some.inj (hx.symm.trans hx')
    show wpAny _ A.in1 (tryCatch (holding [v, v] (richCompare .Gt v vb >>= _)) _ >>= _) _ _ _
    refine wpAny_bind (wpAny_tryCatch (wpAny_holding (wpAny_bind (way_gt hu (wy.keeps hold) (wx.keeps hold) ?_))))
    refine wpAny_bind (wpAny_holding (wpAny_truthy_bool ?_))
    refine wpAny_bind (wpAny_letGo (wpAny_pure ?_))
    cases hb : lexLt x y with
    | true =>
      simp only [if_true]
      refine wpAny_bind (wpAny_updateSeq hS' rfl (wpAny_bind (wpAny_letGo ?_)))
      rw [hname]
      refine wpAny_pure ⟨plainId_quiet F.plain_max_loop _, ih (j + 1) _ v _ (j + 1) y (by omega) hlt (W.frame _ _ _ hst' fun b hbf o e => ?_) (fun b o e => ?_) hvj hy (fun i l hi hl => ?_) (Heap.get?_update_self _ hS' rfl)
        fun v' i' y' h'' tk'' e1 e2 e3 hk'' => ?_⟩
      · exact (Heap.get?_update_other _ _ (fun h : S = b => hSf (by rw [h]; exact hbf))).trans e
      · exact (Heap.get?_update_other _ _ (fun h : S = b => absurd (Heap.lt_size e) (Nat.not_lt.mpr (h ▸ hS0)))).trans (hold b o e)
      · rcases Nat.lt_or_ge j i with q | q
        · obtain rfl : i = j + 1 := by omega
          rw [hy] at hl; cases hl
          exact lex_refl _
        · exact lex_trans (hmin i l q hl) (lex_lt' hb)
      · exact hR v' i' y' h'' tk'' e1 e2 e3 fun b o hbw hbS e => hk'' b o hbw hbS ((Heap.get?_update_other _ _ (Ne.symm hbS)).trans (hk' b o hbw e))
    | false =>
      simp only [Bool.false_eq_true, if_false]
      refine wpAny_bind (wpAny_letGo ?_)
      rw [hname]
      refine wpAny_pure ⟨plainId_quiet F.plain_max_loop _, ih (j + 1) _ vb c i0 x (by omega) hlt hst' hold hv hx (fun i l hi hl => ?_) hS' fun v' i' y' h'' tk'' e1 e2 e3 hk'' => ?_⟩
      · rcases Nat.lt_or_ge j i with q | q
        · obtain rfl : i = j + 1 := by omega
          rw [hy] at hl; cases hl
          exact lex_lt hb
        · exact hmin i l q hl
      · exact hR v' i' y' h'' tk'' e1 e2 e3 fun b o hbw hbS e => hk'' b o hbw hbS (hk' b o hbw e)
theorem max_start (W : Walks prog w A.in1 I fp wr n (fun i v => vs.toArray[i]? = some v) St) (hwr : ∀ b ∈ wr, h00.objs.size ≤ b) (hS0 : h00.objs.size ≤ S) (hSf : S ∉ fp) (hw : WaysAt h00 vs ls) (hu : A.in1.units < cLine) (hn : n = ls.length) (hn0 : 0 < n)
    {s : Shared} {c : Nat} (hst : St 0 s.heap) (hkeep : ∀ b o, h00.get? b = some o → s.heap.get? b = some o) (hS : s.heap.get? S = some { cls := .type "list", dict := none, data := .seq #[] c, slots := #[] })
    (hR : ∀ v (i : Nat) y h' tk, vs[i]? = some v → ls[i]? = some y → (∀ l ∈ ls, lexLe l y) → (∀ b o, b ∉ wr → b ≠ S → s.heap.get? b = some o → h'.get? b = some o) → R (.ok (.ret v)) { s with heap := h', toks := tk }) :
    codeAny (model prog w) A (.builtin "max.loop" ⟨[.ref I, .none, .ref S], []⟩) R s := by
  have hname : (toString "max" ++ toString ".loop" : String) = "max.loop" := by decide
  have hSw : S ∉ wr := fun h => hSf (W.sub _ h)
  refine codeAny_builtin F.entry_max_loop ?_
  rw [Around.under_plainId F.plain_max_loop _]
  show wpAny _ A.in1 (seqItems? (.ref S) >>= _) _ _ s
  refine wpAny_bind (wpAny_seqItems hS rfl ?_)
  show wpAny _ A.in1 (tryCatch (pyNext (.ref I)) _ >>= _) _ _ s
  refine wpAny_bind (wpAny_tryCatch (W.item 0 s _ _ hn0 hst fun v h' tk hP hst' hk' => ?_))
  have hS' := hk' S _ hSw hS
  have hv0 : vs[0]? = some v := by simpa using hP
  obtain ⟨y, hy, _⟩ := hw.2 _ _ hv0
  show wpAny _ A.in1 (updateSeq S (fun _ => #[v, v]) >>= _) _ _ _
  refine wpAny_bind ?_
  refine wpAny_updateSeq hS' rfl ?_
  rw [hname]
  refine wpAny_pure ⟨plainId_quiet F.plain_max_loop _, max_turns W hwr hS0 hSf hw hu hn _ 0 _ v _ 0 y rfl hn0 (W.frame _ _ _ hst' fun b hbf o e => ?_) (fun b o e => ?_) hv0 hy (fun i l hi hl => ?_) (Heap.get?_update_self _ hS' rfl) fun v' i' y' h'' tk'' e1 e2 e3 hk'' => ?_⟩
  · exact (Heap.get?_update_other _ _ (fun h : S = b => hSf (by rw [h]; exact hbf))).trans e
  · exact (Heap.get?_update_other _ _ (fun h : S = b => absurd (Heap.lt_size e) (Nat.not_lt.mpr (h ▸ hS0)))).trans (hk' b o (fun hm => absurd (Heap.lt_size e) (Nat.not_lt.mpr (hwr b hm))) (hkeep b o e))
  · obtain rfl : i = 0 := by omega
    rw [hy] at hl; cases hl
    exact lex_refl _
  · exact hR v' i' y' h'' tk'' e1 e2 e3 fun b o hbw hbS e => hk'' b o hbw hbS ((Heap.get?_update_other _ _ (Ne.symm hbS)).trans (hk' b o hbw e))
end
section
variable {prog : Program} {w : World} {A : Around} {E : Value → Shared → Prop} {s : Shared} {h₀ : Heap} {L : Addr} {m : Str → Option Value} {news : List (Addr × Obj)} {vs : List Value} {ls : List (List Nat)} {D : Addr}
/-- the greatest of a list of tuples -/
theorem max_ways {Q : Value → Shared → Prop} (hh : A.handled = none) (hu : A.units + 9 < cLine) (FF : Fr h₀ L s.heap m) (N : News h₀ L s.heap news) (hl : s.heap.IsList D vs.toArray) (hw : WaysAt s.heap vs ls) (hne : 0 < ls.length)
    (k : ∀ (i : Nat) v x h' tk, vs[i]? = some v → ls[i]? = some x → (∀ l ∈ ls, lexLe l x) → Fr h₀ L h' m → News h₀ L h' news → Q v { s with heap := h', toks := tk }) :
    wpAny (model prog w) A (call (.builtin "max") [.ref D]) Q E s := by
  have hname : (toString "max" ++ toString ".loop" : String) = "max.loop" := by decide
  have hu1 : A.in1.in1.units < cLine := by
    rcases a_units A with e | e <;> rcases a_units A.in1 with g | g <;> omega
  have hu2 : A.in1.units < cLine := by
    rcases a_units A with e | e <;> omega
  have hlt : D < s.heap.objs.size := by obtain ⟨_, e, _⟩ := hl; exact Heap.lt_size e
  refine call_function_tree F.kind_max F.plain_max F.entry_max (F.args_max1 _) ?_
  show wpAny _ A.in1 (Builtin.Builtins.bindParams "max" ["key", "default"] 0 ⟨[], []⟩ >>= _) _ _ s
  refine wpAny_bind (wpAny_of_eq (show Builtin.Builtins.bindParams "max" ["key", "default"] 0 ⟨[], []⟩ = pure [none, none] from rfl) ?_)
  refine wpAny_bind (wpAny_pure ?_)
  refine wpAny_bind (wpAny_pyIter_list hl ?_)
  refine wpAny_bind (wpAny_newObj_type ?_)
  have up2 : ∀ (o1 o2 : Obj) b o, s.heap.get? b = some o → (((s.heap.push o1).push o2).get? b = some o) := fun o1 o2 b o e => Heap.get?_push_of_some _ (Heap.get?_push_of_some _ e)
  rw [hname]
  have W : Walks prog w A.in1 s.heap.objs.size [s.heap.objs.size, D] [s.heap.objs.size] vs.toArray.size (fun i v => vs.toArray[i]? = some v) _ := Walks.list (A := A.in1) hh s.heap.objs.size D (Nat.ne_of_lt hlt) vs.toArray
  refine wpAny_pure ⟨plainId_quiet F.plain_max_loop _, ?_⟩
  have hge : s.heap.objs.size ≤ (s.heap.push { cls := .type "list_iterator", data := .fields #[.ref D, .int 0 0] }).objs.size := by rw [Heap.size_push]; exact Nat.le_succ _
  have hne1 : (s.heap.push { cls := .type "list_iterator", data := .fields #[.ref D, .int 0 0] }).objs.size ≠ s.heap.objs.size := by rw [Heap.size_push]; exact Nat.succ_ne_self _
  have hne2 : (s.heap.push { cls := .type "list_iterator", data := .fields #[.ref D, .int 0 0] }).objs.size ≠ D := by rw [Heap.size_push]; exact Nat.ne_of_gt (Nat.lt_succ_of_lt hlt)
  refine max_start (h00 := s.heap) (ls := ls) W (fun b hb => ?_) hge ?_ hw hu2 (by rw [List.size_toArray]; exact hw.1) (by rw [List.size_toArray, hw.1]; exact hne) ?_ (fun b o e => up2 _ _ b o e) (Heap.get?_push_size _ rfl) (fun v i x h' tk e1 e2 e3 hk => ?_)
  · rw [List.mem_singleton.mp hb]; exact Nat.le_refl _
  · intro hm
    rcases List.mem_cons.mp hm with e | hm
    · exact hne1 e
    · exact hne2 (List.mem_singleton.mp hm)
  · exact ⟨⟨_, Heap.get?_push_of_some _ (Heap.get?_push_size _ rfl), rfl, rfl⟩, (hl.push _).push _⟩
  · have kk : ∀ b o, s.heap.get? b = some o → h'.get? b = some o := fun b o e => hk b o (fun hm => absurd (Heap.lt_size e) ((List.mem_singleton.mp hm) ▸ Nat.lt_irrefl _)) (fun q => absurd (Heap.lt_size e) (Nat.not_lt.mpr (q ▸ hge))) (up2 _ _ b o e)
    exact k i v x h' tk e1 e2 e3 (FF.keeps kk) (N.grown kk)
end
end Mine
end
section
theorem Mine.fresh_M3 : True := by
  w_top off
  trivial
open PySem PySem.W PyProof.Rows PySem.Spec PySem.Calls
set_option Elab.async false
set_option maxRecDepth 100000
set_option maxHeartbeats 4000000
namespace Mine
/-- a tuple of numbers stands in the ledger -/
def WayIn (nw : List (Addr × Obj)) (v : Value) (l : List Nat) : Prop := ∃ a vs n, v = .ref a ∧ (a, tupO vs n) ∈ nw ∧ IntsAre vs (nats l)
/-- tuples of numbers stand in the ledger -/
def WaysIn (nw : List (Addr × Obj)) (vs : List Value) (ls : List (List Nat)) : Prop := vs.length = ls.length ∧ ∀ (i : Nat) (v : Value), vs[i]? = some v → ∃ l, ls[i]? = some l ∧ WayIn nw v l
/-- a list of such tuples stands in the ledger -/
def ListIn (nw : List (Addr × Obj)) (v : Value) (ls : List (List Nat)) : Prop := ∃ D vs n, v = .ref D ∧ (D, W.listOf vs.toArray n) ∈ nw ∧ WaysIn nw vs ls
theorem WayIn.mono {nw nw' : List (Addr × Obj)} {v : Value} {l : List Nat} (h : ∀ p ∈ nw, p ∈ nw') (x : WayIn nw v l) : WayIn nw' v l := by
  obtain ⟨a, vs, n, e, hm, i⟩ := x; exact ⟨a, vs, n, e, h _ hm, i⟩
theorem WaysIn.mono {nw nw' : List (Addr × Obj)} {vs : List Value} {ls : List (List Nat)} (h : ∀ p ∈ nw, p ∈ nw') (x : WaysIn nw vs ls) : WaysIn nw' vs ls :=
  ⟨x.1, fun i v e => let ⟨l, e', q⟩ := x.2 i v e; ⟨l, e', q.mono h⟩⟩
theorem ListIn.mono {nw nw' : List (Addr × Obj)} {v : Value} {ls : List (List Nat)} (h : ∀ p ∈ nw, p ∈ nw') (x : ListIn nw v ls) : ListIn nw' v ls := by
  obtain ⟨D, vs, n, e, hm, i⟩ := x; exact ⟨D, vs, n, e, h _ hm, i.mono h⟩
theorem WayIn.at {h₀ h : Heap} {L : Addr} {nw : List (Addr × Obj)} {v : Value} {l : List Nat} (N : News h₀ L h nw) (x : WayIn nw v l) : WayAt h v l := by
  obtain ⟨a, vs, n, e, hm, i⟩ := x; exact ⟨a, vs, n, e, (N _ hm).1, i⟩
theorem WaysIn.at {h₀ h : Heap} {L : Addr} {nw : List (Addr × Obj)} {vs : List Value} {ls : List (List Nat)} (N : News h₀ L h nw) (x : WaysIn nw vs ls) : WaysAt h vs ls :=
  ⟨x.1, fun i v e => let ⟨l, e', q⟩ := x.2 i v e; ⟨l, e', q.at N⟩⟩
theorem WaysIn.app {nw : List (Addr × Obj)} {vs ws : List Value} {ls rs : List (List Nat)} (x : WaysIn nw vs ls) (y : WaysIn nw ws rs) : WaysIn nw (vs ++ ws) (ls ++ rs) := by
  refine ⟨by rw [List.length_append, List.length_append, x.1, y.1], fun i v e => ?_⟩
  rcases Nat.lt_or_ge i vs.length with h | h
  · rw [List.getElem?_append_left h] at e
    obtain ⟨l, e', q⟩ := x.2 i v e
    exact ⟨l, by rw [List.getElem?_append_left (by rw [← x.1]; exact h)]; exact e', q⟩
  · rw [List.getElem?_append_right h] at e
    obtain ⟨l, e', q⟩ := y.2 _ v e
    exact ⟨l, by rw [List.getElem?_append_right (by rw [← x.1]; exact h), ← x.1]; exact e', q⟩
theorem WaysIn.snoc {nw : List (Addr × Obj)} {vs : List Value} {ls : List (List Nat)} {v : Value} {l : List Nat} (x : WaysIn nw vs ls) (y : WayIn nw v l) : WaysIn nw (vs ++ [v]) (ls ++ [l]) :=
  x.app ⟨rfl, fun i u e => by
    cases i with
    | zero => obtain rfl : v = u := by simpa using e
              exact ⟨l, rfl, y⟩
    | succ i => simp at e⟩
theorem WaysIn.nil {nw : List (Addr × Obj)} : WaysIn nw [] [] := ⟨rfl, fun i v e => by simp at e⟩
/-- all addresses differ -/
abbrev Apart2 (as bs : List (Addr × Obj)) : Prop := ∀ p ∈ as, ∀ q ∈ bs, p.1 ≠ q.1
theorem off1_of {D : Addr} {l : List (Addr × Obj)} (h : LCg.Off1 D l) : ∀ p ∈ l, p.1 ≠ D := by
  induction l with
  | nil => exact fun p hp => nomatch hp
  | cons q r ih =>
    intro p hp
    rcases List.mem_cons.mp hp with e | hp
    · rw [e]; exact h.1
    · exact ih h.2 p hp
theorem allLt_ne {d : Addr} {l : List (Addr × Obj)} (h : AllLt d l) : ∀ p ∈ l, d ≠ p.1 := by
  induction l with
  | nil => exact fun p hp => nomatch hp
  | cons q r ih =>
    intro p hp
    rcases List.mem_cons.mp hp with e | hp
    · rw [e]; exact Ne.symm (Nat.ne_of_lt h.1)
    · exact ih h.2 p hp
theorem off3_mk {I C D : Addr} {l : List (Addr × Obj)} (h : ∀ p ∈ l, p.1 ≠ I ∧ p.1 ≠ C ∧ p.1 ≠ D) : LCg.Off3 I C D l := by
  induction l with
  | nil => exact trivial
  | cons q r ih => exact ⟨h q (.head _), ih fun p hp => h p (.tail _ hp)⟩
end Mine
end
section
theorem Mine.fresh_B13 : True := by
  w_top off
  trivial
open PySem PySem.W PyProof.Rows PySem.Spec PySem.Calls
set_option Elab.async false
set_option maxRecDepth 100000
set_option maxHeartbeats 4000000
namespace Mine
open Sem (wp)
section
variable {M : Model} {A : Around} {E : Value → Shared → Prop} {s : Shared} {env : Env}
/-- a call by a name that holds a built-in type -/
theorem CallT_type {ty : String} {x : Str} {px pos : Pos} {es : List Expr} {Q : Value → Shared → Prop} (n : Nat) (hst : (starEach es env).map (·.1) = List.replicate n false)
    (h : wpAny M A (eval (.Name x px) env) (fun f s₁ => f = .type ty ∧ wpT M A (spliced (starEach es env)) (fun vs s₂ => wpT M A (call (.type ty) vs) Q E s₂) E s₁) E s) :
    wpT M A (eval (.Call (.Name x px) es [] pos) env) Q E s := by
  show wpT M A (do callWith pos (← eval (.Name x px) env) [] (backTo pos (starEach es env)) (backToKw pos (keywordEach [] env))) Q E s
  refine wpT_leaf (wpAny_mono h (fun f s₁ h₁ => ?_) fun _ _ x => x)
  obtain ⟨rfl, h₁⟩ := h₁
  rw [backF hst]
  unfold callWith
  refine wpT_bind (wpT_holding (evalArgsT hst (wpT_mono h₁ (fun vs s₂ h₂ => ?_) fun _ _ x => x)))
  refine wpT_leaf (wpAny_standAt ?_)
  refine wpT_leaf (wpAny_of_eq (a := Keeper.machine) rfl ?_)
  have e0 : ((starEach es env).any (·.1) || (backToKw pos (keywordEach [] env)).any (·.1.isNone)) = false := by
    rw [allF hst]; rfl
  rw [e0]
  dsimp only
  refine wpT_bind ?_
  exact wpT_mono h₂ (fun v s₄ h₄ => wpT_leaf (wpAny_holding (wpAny_point (wpT_pure h₄)))) fun _ _ x => x
end
section
variable {prog : Program} {w : World} {A A₀ : Around} {s : Shared} {R : Result → Shared → Prop} {base h₀ : Heap} {outer : List Env} {L : Addr} {m : Str → Option Value} {env : Env} {news : List (Addr × Obj)} {K : Frag}
  {name qual : Str} {params : Arguments} {body : List Stmt} {scope : Scope} {dV kV doc pm cdv ct oc : Value} {an od : Option Addr} {osl : Array (Option Value)} {f : Addr} {args : Args} {binds : List (Str × Value)}
theorem codeT_K (B : Below A₀ base outer h₀) (F : Fr h₀ L s.heap m) (X₀ : K.In h₀) (N : News h₀ L s.heap news) (hlim : h₀.NoLimit) (hA : A.frames = some (env :: outer)) (hf : env.frame = some L) (hke : env.scope.kind = .function)
    (ho : K.lookup f = some ⟨oc, od, .func (fnOf name qual params body scope dV kV doc pm an cdv ct), osl⟩) (hcd : codeIn K cdv qual = true) (hroom : A.depth < recursionLimit)
    (hbind : BindsTo s (fnOf name qual params body scope dV kV doc pm an cdv ct) args binds) (hloc : ∀ y ∈ binds, scope.names.lookup y.1 = some .local)
    (h : ∀ g L' h₁, Fr h₀ L g m → Fr g L' h₁ (fun y => binds.reverse.lookup y) → News g L' h₁ news → Below A base (env :: outer) g → h₀.StaysIn g →
      wpT (model prog w) (A.deeper (envOf qual scope L' f cdv)) (execs body (envOf qual scope L' f cdv))
        (fun fl s' => LeaveK h₀ L m g R (match fl with | .ret v => v | _ => .none) s')
        (fun e s' => wpT (model prog w) (A.deeper (envOf qual scope L' f cdv)) (leaving (envOf qual scope L' f cdv) e) (fun _ s'' => R (.error e) s'') (fun e' s'' => R (.error e') s'') s')
        { s with heap := h₁, toks := s.toks + binds.length })
    (hcell : ∀ x ∈ scope.names, x.2 ≠ .cell) (hco : scope.isCoroutine = false) (hgen : scope.isGenerator = false) (hk : scope.kind = .function) : codeT (model prog w) A (.call (.ref f) args) R s :=
  callT_plain (cl := []) B F N hlim hA hf hke ((X₀.keeps F.keep) _ _ ho) rfl (codeRec_of (X₀.keeps F.keep) hcd) hroom hbind hloc h hcell hco hgen hk
theorem codeT_top_K (X : K.In s.heap) (hlim : s.heap.NoLimit)
    (ho : K.lookup f = some ⟨oc, od, .func (fnOf name qual params body scope dV kV doc pm an cdv ct), osl⟩) (hcd : codeIn K cdv qual = true) (hroom : A.depth < recursionLimit)
    (hbind : BindsTo s (fnOf name qual params body scope dV kV doc pm an cdv ct) args binds)
    (hkind : ∀ n, ∀ x ∈ binds, scope.names.lookup x.1 = some .local ∨ (scope.names.lookup x.1 = some .cell ∧ ((cellsFrom n scope.names []).lookup x.1).isSome = true))
    (hb1 : ∃ x v, binds = [(x, v)] ∧ scope.names.lookup x = some .local)
    (hnd : ((cellsFrom 0 scope.names []).map (·.1)).Nodup)
    (h : ∀ L' h₁ tk cells, 1 ≤ tk → Fr s.heap L' h₁ (bindL (envOfC qual scope L' f cdv).kindOf binds fun _ => none) → News s.heap L' h₁ cells →
      CellsAre (bindC (envOfC qual scope L' f cdv).kindOf binds fun _ => none) (cellsFrom (L' + 1) scope.names []) cells →
      wpT (model prog w) (A.deeper (envOfC qual scope L' f cdv)) (execs body (envOfC qual scope L' f cdv))
        (fun fl s' => R (.ok (.ret (match fl with | .ret v => v | _ => .none))) s')
        (fun e s' => wpT (model prog w) (A.deeper (envOfC qual scope L' f cdv)) (leaving (envOfC qual scope L' f cdv) e) (fun _ s'' => R (.error e) s'') (fun e' s'' => R (.error e') s'') s')
        { s with heap := h₁, toks := tk })
    (hco : scope.isCoroutine = false) (hgen : scope.isGenerator = false) (hk : scope.kind = .function) : codeT (model prog w) A (.call (.ref f) args) R s :=
  callT_top hlim (X _ _ ho) rfl (codeRec_of X hcd) hroom hbind hkind hb1 hnd h hco hgen hk
end
end Mine
end
section
theorem Mine.fresh_B14 : True := by
  w_top off
  trivial
open PySem PySem.W PyProof.Rows PySem.Spec PySem.Calls
set_option Elab.async false
set_option maxRecDepth 100000
set_option maxHeartbeats 4000000
namespace Mine
open Sem (wp)
section
variable {prog : Program} {w : World} {A : Around} {E : Value → Shared → Prop} {s : Shared} {env : Env} {h₀ : Heap} {x : Str} {body : List Stmt} {Q : Flow → Shared → Prop}

def Apart (own news : List (Addr × Obj)) : Prop := ∀ p ∈ own, ∀ q ∈ news, p.1 ≠ q.1
/-- the end of a turn of a loop that only goes on -/
def Turn (h₀ : Heap) (L : Addr) (own : List (Addr × Obj)) (J : (Str → Option Value) → List (Addr × Obj) → Prop) (s : Shared) (f : Flow) (s₂ : Shared) : Prop :=
  f = .next ∧ ∃ h' tk m₂ news₂, s₂ = { s with heap := h', toks := tk } ∧ Fr h₀ L h' m₂ ∧ News h₀ L h' (own ++ news₂) ∧ Apart own news₂ ∧ J m₂ news₂
theorem Turn.mk {L : Addr} {own news₂ : List (Addr × Obj)} {J : (Str → Option Value) → List (Addr × Obj) → Prop} {m₂ : Str → Option Value} {h' : Heap} {tk : Nat}
    (F : Fr h₀ L h' m₂) (N : News h₀ L h' (own ++ news₂)) (ap : Apart own news₂) (j : J m₂ news₂) : Turn h₀ L own J s .next { s with heap := h', toks := tk } := ⟨rfl, h', tk, m₂, news₂, rfl, F, N, ap, j⟩

theorem loopU_range {r : Addr} {a b c : Int} {t₀ u₀ v₀ : Tok} {n : Nat} {m₀ : Str → Option Value} {news : List (Addr × Obj)} (J : Nat → (Str → Option Value) → List (Addr × Obj) → Prop)
    (hh : A.handled = none) (hr : IsRange s.heap r a b c t₀ u₀ v₀) (hsmall : Builtin.Range.small a b c = true) (hn : Builtin.Range.rangeSize a b c = (n : Int)) (F : Fr h₀ env.locals s.heap m₀) (N : News h₀ env.locals s.heap news) (h0 : J 0 m₀ news)
    (step : ∀ (i : Nat) m₁ news₁ s₁ t own, i < n → J i m₁ news₁ → Apart own news₁ → Fr h₀ env.locals s₁.heap (fun y => if y = x then some (.int (a + i * c) t) else m₁ y) → News h₀ env.locals s₁.heap (own ++ news₁) →
      wpAny (model prog w) A (execs body env) (Turn h₀ env.locals own (J (i + 1)) s₁) E s₁)
    (done : ∀ h' tk m' news', Fr h₀ env.locals h' m' → News h₀ env.locals h' news' → J n m' news' → Q .next { s with heap := h', toks := tk }) :
    wpAny (model prog w) A (pyIter (.ref r)) (fun it s₂ => LoopAtU prog w A h₀ env x body Q E it s₂) E s := by
  refine wpAny_pyIter_range hr hsmall ?_
  have hnew := next_is_new F
  refine ⟨_, _, _, n, _, _, m₀, news, J, rfl, Walks.range hh s.heap.objs.size a c n, ?_, ?_, ?_, (by show IsRangeIter _ _ _ _ _; rw [hn]; simpa using Heap.get?_push_size _ rfl), F.push _, (fun p hp => ⟨Heap.get?_push_of_some _ (N p hp).1, (N p hp).2⟩), h0, ?_, ?_⟩
  · intro hm
    exact absurd F.ns.lt ((List.mem_singleton.mp hm) ▸ Nat.lt_irrefl _)
  · intro b hb
    rw [List.mem_singleton.mp hb]
    exact hnew
  · intro p hp hI
    exact absurd (Heap.lt_size (N p hp).1) ((List.mem_singleton.mp hI) ▸ Nat.lt_irrefl _)
  · rintro i v m₁ news₁ s₁ own hi ⟨t, rfl⟩ hJ hoff hown hget hall hst F₁ N₁
    have hst' : s₁.heap.get? s.heap.objs.size = some _ := hst
    have hmem := hall s.heap.objs.size (List.mem_singleton.mpr rfl) hnew _ hst'
    refine wpAny_mono (step i m₁ news₁ s₁ t own hi hJ (fun p hp q hq e => hoff q hq (by rw [← e]; exact hown p hp)) F₁ N₁) (fun f s₂ h => ?_) fun _ _ e => e
    obtain ⟨rfl, h', tk, m₂, news₂, rfl, F₂, N₂, ap, j⟩ := h
    exact LoopStepU.intro F₂ N₂ (fun p hp hI => ap _ hmem p hp (List.mem_singleton.mp hI).symm) j
  · intro h' tk m' news' F' N' _ hJ
    exact done h' tk m' news' F' N' hJ
end
end Mine
end
section
theorem Mine.fresh_T1 : True := by
  w_top off
  trivial
open PySem PySem.W PyProof.Rows PySem.Spec PySem.Calls
set_option Elab.async false
set_option maxRecDepth 100000
set_option maxHeartbeats 4000000
namespace Mine
section
variable {M : Model} {A : Around} {E : Value → Shared → Prop} {s : Shared} {α : Type}
theorem wpT_toks {t : Sem α} {Q : α → Shared → Prop} (n : Nat) (hn : n ≤ s.toks) (h : wpT M A t (fun a s' => n ≤ s'.toks → Q a s') E s) : wpT M A t Q E s :=
  ⟨fun Γ p hΓ ht hb => Sem.wp_mono M Γ t (fun _ _ _ x => x.2 x.1) (fun _ _ _ x => x.2) p s (wp_toks M Γ t n _ _ p s hn (h.out Γ p hΓ ht hb))⟩
theorem execs_tok {env : Env} {st rest} {Q : Flow → Shared → Prop} (n : Nat) (hn : n ≤ s.toks)
    (h : wpAny M A (exec st env) (fun f s' => n ≤ s'.toks → match f with | .next => wpAny M A (execs rest env) Q E s' | f => Q f s') E s) : wpAny M A (execs (st :: rest) env) Q E s :=
  wpAny_execs_cons (wpAny_toks n hn h)
theorem execsT_tok {env : Env} {st rest} {Q : Flow → Shared → Prop} (n : Nat) (hn : n ≤ s.toks)
    (h : wpT M A (exec st env) (fun f s' => n ≤ s'.toks → match f with | .next => wpT M A (execs rest env) Q E s' | f => Q f s') E s) : wpT M A (execs (st :: rest) env) Q E s :=
  execsT_cons (wpT_toks n hn h)
end
end Mine
end
section
theorem Mine.fresh_X8 : True := by
  w_top off
  trivial
open PySem PySem.W PyProof.Rows PySem.Spec PySem.Calls PySem.Builtin PySem.Builtin.Str
set_option Elab.async false
set_option maxRecDepth 100000
set_option maxHeartbeats 4000000
namespace Mine
/-- a text from its end -/
def revS (x : PySem.Str) : PySem.Str := ⟨x.cps.toList.reverse.toArray⟩
theorem revS_cps (x : PySem.Str) : (revS x).cps.toList = x.cps.toList.reverse := rfl
theorem revS_len (x : PySem.Str) : (revS x).length = x.length := by simp [revS, PySem.Str.length]
theorem rev_indices (n : Nat) : strSliceIndices none none (-1) n = (List.range n).map fun k => n - 1 - k := by
  unfold strSliceIndices sliceRange
  have e : (if (-1 : Int) > 0 then (if (0 : Int) < -1 then ((-1 : Int) - 0 + -1 - 1) / -1 else 0) else 0) = 0 := by decide
  simp only [show ¬ ((-1 : Int) > 0) by decide, if_false]
  have hc : ((if ((n : Int) - 1) > -1 then ((n : Int) - 1 - (-1) - (-1) - 1) / (-(-1)) else 0) : Int).toNat = n := by
    by_cases h : ((n : Int) - 1) > -1
    · rw [if_pos h, show (-(-1) : Int) = 1 by decide, Int.ediv_one]; omega
    · rw [if_neg h]; have : n = 0 := by omega
      rw [this]; rfl
  rw [hc]
  refine List.map_congr_left fun k hk => ?_
  have := List.mem_range.mp hk
  omega
theorem fm_congr {f g : Nat → Option Nat} : ∀ {l : List Nat}, (∀ k ∈ l, f k = g k) → l.filterMap f = l.filterMap g
  | [], _ => rfl
  | a :: l, h => by rw [List.filterMap_cons, List.filterMap_cons, h a (.head _), fm_congr fun k hk => h k (.tail _ hk)]
theorem rev_pick (x : PySem.Str) : ((strSliceIndices none none (-1) x.length).filterMap (x.cps[·]?)) = x.cps.toList.reverse := by
  rw [rev_indices, List.filterMap_map]
  have hn : x.length = x.cps.toList.length := by simp [PySem.Str.length]
  rw [hn]
  have e2 : ∀ k ∈ List.range x.cps.toList.length, ((fun i => x.cps[i]?) ∘ fun k => x.cps.toList.length - 1 - k) k = x.cps.toList.reverse[k]? := fun k hk => by
    have hk := List.mem_range.mp hk
    rw [List.getElem?_reverse hk]
    simp
  rw [fm_congr e2]
  apply List.ext_getElem?
  intro i
  have : ∀ (l : List Nat) (n : Nat), n ≤ l.length → (List.range n).filterMap (fun k => l[k]?) = l.take n := by
    intro l n
    induction n with
    | zero => intro _; simp
    | succ n ih =>
      intro h
      rw [List.range_succ, List.filterMap_append, ih (by omega), List.take_add_one]
      congr 1
  rw [this _ _ (by simp), List.take_of_length_le (by simp)]
theorem rev_made (x : PySem.Str) (t u : Tok) : sliceMade x t none none (some (-1, u)) = .str (revS x) := by
  unfold sliceMade
  rw [if_neg (by simp)]
  show Made.str ⟨((strSliceIndices none none (-1) x.length).filterMap (x.cps[·]?)).toArray⟩ = _
  rw [rev_pick]; rfl
section
variable {prog : Program} {w : World} {A : Around} {E : Value → Shared → Prop} {s : Shared} {value slice : Expr} {x : PySem.Str} {t u : Tok} {h₀ : Heap} {L : Addr} {m : PySem.Str → Option Value} {news : List (Addr × Obj)} {Q : Value → Shared → Prop}
theorem slice_rev (F : Fr h₀ L s.heap m) (N : News h₀ L s.heap news) (hz : x.length ≤ 1000) (h : ∀ h', Fr h₀ L h' m → News h₀ L h' news → Q (.str (revS x) s.toks) { s with heap := h', toks := s.toks + 1 })
    (hs : subscripted slice false (.str x t) (.ref s.heap.objs.size) = operate [.ref s.heap.objs.size, .str x t] (getItem (.str x t) (.ref s.heap.objs.size)) := by with_unfolding_all rfl)
    (ht : ∀ r, letTemporaryGo value (.str x t) r = pure () := by intro _; with_unfolding_all rfl) :
    wpAny (model prog w) A (subscriptTail value slice (.str x t) (.ref s.heap.objs.size)) Q E { s with heap := s.heap.push { cls := .type "slice", data := .fields #[.none, .none, .int (-1) u] } } := by
  refine tail_of_ItemOn ⟨"str", _, PySem.F.slot_str_getitem.lookup, typeIs_str _ _ _, wpAny_getItem_str_slice (l := none) (u := none) (st := some (-1, u)) ⟨_, Heap.get?_push_size _ rfl, rfl, rfl⟩ rfl ?_⟩ hs ht
  rw [rev_made]
  exact ⟨by rw [revS_len, sizeLine_eq]; omega, h _ (F.push _) (N.pushKeep _)⟩
end
end Mine
end
section
theorem Mine.fresh_J03 : True := by
  w_top off
  trivial
open PySem PySem.W PyProof.Rows PySem.Spec PySem.Calls
set_option Elab.async false
set_option maxRecDepth 100000
set_option maxHeartbeats 8000000
namespace Mine
section
variable {w : World} {s : Shared} {h₀ : Heap} {L : Addr} {m : Str → Option Value} {news : List (Addr × Obj)} {p : Program} {loose : List Str} {mean : ExcName → Option Value} {mg mb : Str → Option Value}
  {name qual : Str} {params : Arguments} {body : List Stmt} {scope : Scope} {dV kV doc pm cdv ct oc : Value} {an od : Option Addr} {osl : Array (Option Value)} {oW oR oV oK oZ : Obj}
local macro_rules | `(tactic| walk_at "eval Name") => `(tactic| (k_here; (with_reducible show wpAny _ _ (eval (Expr.Name _ _) (envOfC _ _ _ _ _)) _ _ _); name_kind "local"; k_dflt (refine' nameX_L ?k1 ?k2 ?_; (case k1 => k_asm); (case k2 => first | exact rfl | (repeat (first | assumption | exact if_pos rfl | refine (if_neg (by decide)).trans ?_))); k_whole)))
local macro_rules | `(tactic| walk_at "eval ListComp") => `(tactic| (k_here; k_dflt (refine ListComp_X (_F₀ := by k_asm) (by with_unfolding_all rfl) (by decide) (by rfl) (by decide) (by rfl) ?_)))
local macro_rules | `(tactic| walk_at "pyIter") => `(tactic| fail "stop here")
/-- the keys -/
def keyL : List Str := [Str.ofString "x", Str.ofString "xx", Str.ofString "xxx", Str.ofString "xy", Str.ofString "xyx", Str.ofString "yx", Str.ofString "xxy", Str.ofString "yxy"]
def valL : List Str := [Str.ofString "o", Str.ofString "()", Str.ofString "(-)"]
theorem j3 {st : Stmt} {total : Int} {tt : Tok} {v0 : Option Value} {Q : Flow → Shared → Prop} {E : Value → Shared → Prop}
    (KX : (hd03.heap_39 w.params).In h₀) (T : Top p loose mean mg mb h₀)
    (hl : (hd03.heap_39 w.params).lookup 68 = some ⟨oc, od, .func (fnOf name qual params body scope dV kV doc pm an cdv ct), osl⟩) (hb : body[3]? = some st)
    (F : Fr h₀ L s.heap m) (N : News h₀ L s.heap ((L + 1 + 1 + 1 + 1 + 1, oW) :: (L + 1 + 1 + 1 + 1, oR) :: (L + 1 + 1 + 1, oV) :: (L + 1 + 1, oK) :: (L + 1, oZ) :: news)) (dK : oK.data = .cell v0) (ap : ∀ q ∈ news, q.1 ≠ L + 1 + 1 + 1 + 1 + 1 ∧ q.1 ≠ L + 1 + 1 + 1 + 1 ∧ q.1 ≠ L + 1 + 1 + 1 ∧ q.1 ≠ L + 1 + 1 ∧ q.1 ≠ L + 1) (ht : 1 ≤ s.toks)
    (mt : m (Str.ofString "total") = some (.int total tt))
    (k : ∀ h' tk oK' key (t : Nat), key ∈ keyL → 1 ≤ t → t < tk → Fr h₀ L h' m → News h₀ L h' ((L + 1 + 1 + 1 + 1 + 1, oW) :: (L + 1 + 1 + 1 + 1, oR) :: (L + 1 + 1 + 1, oV) :: (L + 1 + 1, oK') :: (L + 1, oZ) :: news) → oK'.data = .cell (some (.str key t)) → Q .next { s with heap := h', toks := tk }) :
    wpAny (model PySem.Challenge.rw_kt0002_03.row.prog w) (callerA.deeper (envOfC (Str.ofString "law") scope L 68 cdv)) (exec st (envOfC (Str.ofString "law") scope L 68 cdv)) Q E s := by
  revert KX; k_fill; intro KX
  have e := hl.symm.trans (by k_is)
  cases e
  cases hb
  repeat (first | walk1 | (dsimp only; walk1))
  rename News _ _ _ _ => N2
  rename Fr _ _ _ _ => F2
  rename_i D2 _ lt2
  obtain ⟨j, hj, ej⟩ : ∃ j : Nat, j < 8 ∧ (total.fdiv 4).fmod 8 = (j : Int) := by
    have : 0 ≤ (total.fdiv 4).fmod 8 ∧ (total.fdiv 4).fmod 8 < 8 := by rw [Int.fmod_eq_emod_of_nonneg _ (by decide)]; omega
    exact ⟨((total.fdiv 4).fmod 8).toNat, by omega, by omega⟩
  rw [ej]
  obtain ⟨key, t, hx, hk, h1, h2⟩ : ∃ (key : Str) (t : Nat), [Value.str (Str.ofString "x") s.toks, Value.str (Str.ofString "xx") (s.toks + 1), Value.str (Str.ofString "xxx") (s.toks + 1 + 1), Value.str (Str.ofString "xy") (s.toks + 1 + 1 + 1), Value.str (Str.ofString "xyx") (s.toks + 1 + 1 + 1 + 1), Value.str (Str.ofString "yx") (s.toks + 1 + 1 + 1 + 1 + 1), Value.str (Str.ofString "xxy") (s.toks + 1 + 1 + 1 + 1 + 1 + 1), Value.str (Str.ofString "yxy") (s.toks + 1 + 1 + 1 + 1 + 1 + 1 + 1)][(j : Int).toNat]? = some (.str key t) ∧ key ∈ keyL ∧ 1 ≤ t ∧ t < s.toks + 8 := by
    rw [Int.toNat_natCast]
    have : j = 0 ∨ j = 1 ∨ j = 2 ∨ j = 3 ∨ j = 4 ∨ j = 5 ∨ j = 6 ∨ j = 7 := by omega
    rcases this with rfl | rfl | rfl | rfl | rfl | rfl | rfl | rfl
    · exact ⟨_, _, rfl, by simp [keyL], by omega, by omega⟩
    · exact ⟨_, _, rfl, by simp [keyL], by omega, by omega⟩
    · exact ⟨_, _, rfl, by simp [keyL], by omega, by omega⟩
    · exact ⟨_, _, rfl, by simp [keyL], by omega, by omega⟩
    · exact ⟨_, _, rfl, by simp [keyL], by omega, by omega⟩
    · exact ⟨_, _, rfl, by simp [keyL], by omega, by omega⟩
    · exact ⟨_, _, rfl, by simp [keyL], by omega, by omega⟩
    · exact ⟨_, _, rfl, by simp [keyL], by omega, by omega⟩
  refine item_listL ⟨_, (N2 _ (.head _)).1, rfl, _, rfl⟩ (by omega) (by omega) hx ?_
  dsimp only
  repeat (first | walk1 | (dsimp only; walk1))
  refine storeX_C (c := L + 1 + 1) F2 N2 rfl (.tail ?u1 (.tail ?u2 (.tail ?u3 (.tail ?u4 (.head fun q hq => ?u5))))) dK (fun h3 oK' F3 N3 d3 => ?_)
  case u1 => exact Ne.symm (Nat.ne_of_lt lt2.2.2.2.1)
  case u2 => show @Ne Nat _ _; omega
  case u3 => show @Ne Nat _ _; omega
  case u4 => show @Ne Nat _ _; omega
  case u5 =>
    rcases List.mem_cons.mp hq with rfl | hq
    · show @Ne Nat _ _; omega
    · exact (ap q hq).2.2.2.1
  exact k h3 _ oK' key t hk h1 (by dsimp only; omega) F3 (fun q hq => N3 q (.tail _ hq)) d3
end
end Mine
end
section
theorem Mine.fresh_J04 : True := by
  w_top off
  trivial
open PySem PySem.W PyProof.Rows PySem.Spec PySem.Calls
set_option Elab.async false
set_option maxRecDepth 100000
set_option maxHeartbeats 8000000
namespace Mine
section
variable {w : World} {s : Shared} {h₀ : Heap} {L : Addr} {m : Str → Option Value} {news : List (Addr × Obj)} {p : Program} {loose : List Str} {mean : ExcName → Option Value} {mg mb : Str → Option Value}
  {name qual : Str} {params : Arguments} {body : List Stmt} {scope : Scope} {dV kV doc pm cdv ct oc : Value} {an od : Option Addr} {osl : Array (Option Value)} {oW oR oV oK oZ : Obj}
local macro_rules | `(tactic| walk_at "eval Name") => `(tactic| (k_here; (with_reducible show wpAny _ _ (eval (Expr.Name _ _) (envOfC _ _ _ _ _)) _ _ _); name_kind "local"; k_dflt (refine' nameX_L ?k1 ?k2 ?_; (case k1 => k_asm); (case k2 => first | exact rfl | (repeat (first | assumption | exact if_pos rfl | refine (if_neg (by decide)).trans ?_))); k_whole)))
local macro_rules | `(tactic| walk_at "eval ListComp") => `(tactic| (k_here; k_dflt (refine ListComp_X (_F₀ := by k_asm) (by with_unfolding_all rfl) (by decide) (by rfl) (by decide) (by rfl) ?_)))
local macro_rules | `(tactic| walk_at "pyIter") => `(tactic| fail "stop here")
theorem j4 {st : Stmt} {key : Str} {tK : Nat} {v0 : Option Value} {Q : Flow → Shared → Prop} {E : Value → Shared → Prop}
    (KX : (hd03.heap_39 w.params).In h₀) (T : Top p loose mean mg mb h₀)
    (hl : (hd03.heap_39 w.params).lookup 68 = some ⟨oc, od, .func (fnOf name qual params body scope dV kV doc pm an cdv ct), osl⟩) (hb : body[4]? = some st)
    (F : Fr h₀ L s.heap m) (N : News h₀ L s.heap ((L + 1 + 1 + 1 + 1 + 1, oW) :: (L + 1 + 1 + 1 + 1, oR) :: (L + 1 + 1 + 1, oV) :: (L + 1 + 1, oK) :: (L + 1, oZ) :: news)) (dV' : oV.data = .cell v0) (dK : oK.data = .cell (some (.str key tK))) (ap : ∀ q ∈ news, q.1 ≠ L + 1 + 1 + 1 + 1 + 1 ∧ q.1 ≠ L + 1 + 1 + 1 + 1 ∧ q.1 ≠ L + 1 + 1 + 1 ∧ q.1 ≠ L + 1 + 1 ∧ q.1 ≠ L + 1) (hk : key ∈ keyL) (ht : tK < s.toks)
    (k : ∀ h' tk oV' (t : Nat) val, val = valL.getD (key.length - 1) (Str.ofString "") → tK < t → Fr h₀ L h' m → News h₀ L h' ((L + 1 + 1 + 1 + 1 + 1, oW) :: (L + 1 + 1 + 1 + 1, oR) :: (L + 1 + 1 + 1, oV') :: (L + 1 + 1, oK) :: (L + 1, oZ) :: news) → oV'.data = .cell (some (.str val t)) → Q .next { s with heap := h', toks := tk }) :
    wpAny (model PySem.Challenge.rw_kt0002_03.row.prog w) (callerA.deeper (envOfC (Str.ofString "law") scope L 68 cdv)) (exec st (envOfC (Str.ofString "law") scope L 68 cdv)) Q E s := by
  revert KX; k_fill; intro KX
  have e := hl.symm.trans (by k_is)
  cases e
  cases hb
  have hlen : key.length = 1 ∨ key.length = 2 ∨ key.length = 3 := by
    have : ∀ x ∈ keyL, x.length = 1 ∨ x.length = 2 ∨ x.length = 3 := by decide
    exact this key hk
  have hl1 : 1 ≤ key.length := by omega
  have hl3 : key.length ≤ 3 := by omega
  have hlen' : Unit → key.length = 1 ∨ key.length = 2 ∨ key.length = 3 := fun _ => hlen
  clear hlen hk
  repeat (first | walk1 | (dsimp only; walk1))
  rename News _ _ _ _ => N2
  rename Fr _ _ _ _ => F2
  rename_i D2 _ lt2
  obtain ⟨j, hj, ej⟩ : ∃ j : Nat, j < 3 ∧ key.length = j + 1 := ⟨key.length - 1, by omega, by omega⟩
  obtain ⟨t, hx, h1⟩ : ∃ (t : Nat), [Value.str (Str.ofString "o") s.toks, Value.str (Str.ofString "()") (s.toks + 1), Value.str (Str.ofString "(-)") (s.toks + 1 + 1)][((key.length : Int) - 1).toNat]? = some (.str (valL.getD (key.length - 1) (Str.ofString "")) t) ∧ tK < t := by
    have e2 : ((key.length : Int) - 1).toNat = j := by omega
    rw [e2, ej, Nat.add_sub_cancel]
    have : j = 0 ∨ j = 1 ∨ j = 2 := by omega
    rcases this with rfl | rfl | rfl
    · exact ⟨_, rfl, by omega⟩
    · exact ⟨_, rfl, by omega⟩
    · exact ⟨_, rfl, by omega⟩
  refine item_listL ⟨_, (N2 _ (.head _)).1, rfl, _, rfl⟩ (by omega) (by omega) hx ?_
  dsimp only
  generalize hv : valL.getD (key.length - 1) (Str.ofString "") = val at *
  repeat (first | walk1 | (dsimp only; walk1))
  refine storeX_C (c := L + 1 + 1 + 1) F2 N2 rfl (.tail ?u1 (.tail ?u2 (.tail ?u3 (.head fun q hq => ?u5)))) dV' (fun h3 oK' F3 N3 d3 => ?_)
  case u1 => exact Ne.symm (Nat.ne_of_lt lt2.2.2.1)
  case u2 => show @Ne Nat _ _; omega
  case u3 => show @Ne Nat _ _; omega
  case u5 =>
    rcases List.mem_cons.mp hq with rfl | hq
    · show @Ne Nat _ _; omega
    rcases List.mem_cons.mp hq with rfl | hq
    · show @Ne Nat _ _; omega
    · exact (ap q hq).2.2.1
  exact k h3 _ oK' t val rfl h1 F3 (fun q hq => N3 q (.tail _ hq)) d3
end
end Mine
end
section
theorem Mine.fresh_C3 : True := by
  w_top off
  trivial
open PySem PySem.W PyProof.Rows PyProof.V PySem.Spec PySem.Calls
set_option Elab.async false
namespace Mine
theorem mod8 (a : Int) : 0 ≤ a.fmod 8 ∧ a.fmod 8 < 8 := by
  rw [Int.fmod_eq_emod_of_nonneg _ (by decide)]; omega
section
variable {prog : Program} {w : World} {A : Around} {E : Value → Shared → Prop} {s : Shared} {x : Str} {t u : Tok} {value slice : Expr} {Q : Value → Shared → Prop}
end
end Mine
end
section
theorem Mine.fresh_C5 : True := by
  w_top off
  trivial
open PySem PySem.W PyProof.Rows PySem.Spec PySem.Calls
set_option Elab.async false
set_option maxRecDepth 100000
set_option maxHeartbeats 4000000
namespace Mine
section
variable {prog : Program} {w : World} {A : Around} {E : Value → Shared → Prop} {s : Shared} {h₀ : Heap} {L : Addr} {m : Str → Option Value} {news : List (Addr × Obj)}
/-- a tuple and a tuple of one more -/
theorem way_more {l b : Addr} {vs : List Value} {v : Value} {n n2 : Nat} {Q : Value → Shared → Prop} (F : Fr h₀ L s.heap m) (N : News h₀ L s.heap news) (hl : (l, tupO vs n) ∈ news) (hb : (b, tupO [v] n2) ∈ news) (hz : vs.length ≤ 1000)
    (h : ∀ h' a n' add, Fr h₀ L h' m → News h₀ L h' (add ++ news) → Apart2 add news → (a, tupO (vs ++ [v]) n') ∈ add ++ [(b, tupO [v] n2)] → Q (.ref a) { s with heap := h' }) :
    wpAny (model prog w) A (binaryOp .Add (.ref l) (.ref b)) Q E s := by
  have ho := (N _ hl).1
  have ho2 := (N _ hb).1
  cases vs with
  | nil =>
    exact concat_meets ⟨_, ho, rfl⟩ ⟨_, ho2, rfl⟩ noFill_tuple_add seq_tuple_add PySem.F.slot_tuple_add PySem.F.entry_tuple_add (PySem.F.args_tuple_add_2 _ _) (tuple_addW0 l b _ _ _ _ _ _ _ _ rfl) ⟨ho, ho2, h _ b n2 [] F N (fun _ h => nomatch h) (.head _)⟩
  | cons u vs =>
    refine concat_meets ⟨_, ho, rfl⟩ ⟨_, ho2, rfl⟩ noFill_tuple_add seq_tuple_add PySem.F.slot_tuple_add PySem.F.entry_tuple_add (PySem.F.args_tuple_add_2 _ _) (tuple_addW2 l b _ _ _ _ _ _ _ _ (by simp) (by simp) (by rw [sizeLine_eq]; simp at hz ⊢; omega)) ⟨ho, ho2, ?_⟩
    have e : (u :: vs).toArray ++ [v].toArray = ((u :: vs) ++ [v]).toArray := by simp
    rw [e]
    refine h _ s.heap.objs.size _ [_] (F.push _) (News.push F N _) (fun p hp q hq => ?_) (.head _)
    rw [List.mem_singleton.mp hp]
    exact Ne.symm (Nat.ne_of_lt (Heap.lt_size (N _ hq).1))
/-- two lists laid together -/
theorem add_listsA {l b : Addr} {vs ws : List Value} {Q : Value → Shared → Prop} (F : Fr h₀ L s.heap m) (N : News h₀ L s.heap news) (hl : s.heap.IsList l vs.toArray) (hb : s.heap.IsList b ws.toArray) (hsz : vs.length + ws.length ≤ 1000)
    (h : ∀ h' a n, Fr h₀ L h' m → News h₀ L h' ((a, W.listOf (vs ++ ws).toArray n) :: news) → (∀ p ∈ news, p.1 ≠ a) → Q (.ref a) { s with heap := h' }) :
    wpAny (model prog w) A (binaryOp .Add (.ref l) (.ref b)) Q E s :=
  add_lists F N hl hb (fun h' F' N' => h h' _ _ F' N' fun p hp => Nat.ne_of_lt (Heap.lt_size (N p hp).1)) (by rw [sizeLine_eq]; omega)
end
end Mine
end
section
theorem Mine.fresh_P9 : True := by
  w_top off
  trivial
open PySem PyProof.Rows PySem.Spec
set_option Elab.async false
set_option maxRecDepth 100000
namespace Mine
def noX (old x : List Nat) : Bool := (List.range x.length).all fun k => !((x.drop k).isPrefixOf old && decide ((x.drop k).length < old.length))
theorem noX_at {old x : List Nat} (h : noX old x = true) {k : Nat} (hk : k < x.length) : ¬ (x.drop k <+: old ∧ (x.drop k).length < old.length) := by
  intro ⟨h1, h2⟩
  have := List.all_eq_true.mp h k (List.mem_range.mpr hk)
  rw [List.isPrefixOf_iff_prefix.mpr h1, decide_eq_true h2] at this
  cases this
/-- nothing is found across the border -/
theorem rep_app {old new : List Nat} (ho : 1 ≤ old.length) : ∀ (n : Nat) (x v : List Nat), x.length ≤ n → (∀ k, k < x.length → ¬ (x.drop k <+: old ∧ (x.drop k).length < old.length)) → rep old new 0 (x ++ v) = rep old new 0 x ++ rep old new 0 v
  | _, [], _, _, _ => by simp [rep]
  | 0, _ :: _, _, h, _ => by simp at h
  | n + 1, c :: r, v, hn, hx => by
    rw [List.cons_append, rep, rep]
    by_cases hp : old <+: c :: r
    · have hp2 : old <+: c :: (r ++ v) := by rw [← List.cons_append]; exact hp.trans (List.prefix_append _ _)
      rw [if_pos (List.isPrefixOf_iff_prefix.mpr hp), if_pos (List.isPrefixOf_iff_prefix.mpr hp2), rep_skip, rep_skip _ _ _ r]
      have hl := hp.length_le
      rw [List.length_cons] at hl
      rw [List.drop_append_of_le_length (by omega)]
      rw [rep_app ho n (r.drop (old.length - 1)) v (by rw [List.length_drop]; simp at hn; omega) (fun k hk => ?_), List.append_assoc]
      have := hx (k + old.length) (by rw [List.length_drop] at hk; rw [List.length_cons]; omega)
      rw [show k + old.length = (old.length - 1 + k) + 1 by omega, List.drop_succ_cons] at this
      rwa [List.drop_drop]
    · have hp2 : ¬ old <+: c :: (r ++ v) := by
        rw [← List.cons_append]
        intro h2
        rcases Nat.lt_or_ge (c :: r).length old.length with hlt | hge
        · exact hx 0 (by simp) ⟨List.prefix_of_prefix_length_le (List.prefix_append _ _) h2 (Nat.le_of_lt hlt), by simpa using hlt⟩
        · exact hp (List.prefix_of_prefix_length_le h2 (List.prefix_append _ _) hge)
      rw [if_neg (fun q => hp (List.isPrefixOf_iff_prefix.mp q)), if_neg (fun q => hp2 (List.isPrefixOf_iff_prefix.mp q)), rep_app ho n r v (by simpa using hn) (fun k hk => by simpa using hx (k + 1) (by simpa using hk)), List.cons_append]
def chain : List (List Nat × List Nat) → List Nat → List Nat
  | [], l => l
  | s :: r, l => chain r (rep s.1 s.2 0 l)
def okS : List (List Nat × List Nat) → List Nat → Bool
  | [], _ => true
  | s :: r, x => noX s.1 x && decide (1 ≤ s.1.length) && okS r (rep s.1 s.2 0 x)
theorem chain_app : ∀ (ss : List (List Nat × List Nat)) (x v : List Nat), okS ss x = true → chain ss (x ++ v) = chain ss x ++ chain ss v
  | [], _, _, _ => rfl
  | s :: r, x, v, h => by
    simp only [okS, Bool.and_eq_true, decide_eq_true_eq] at h
    show chain r (rep s.1 s.2 0 (x ++ v)) = chain r (rep s.1 s.2 0 x) ++ chain r (rep s.1 s.2 0 v)
    rw [rep_app h.1.2 x.length x v (Nat.le_refl _) (fun k hk => noX_at h.1.1 hk), chain_app r _ _ h.2]
theorem chain_nil : ∀ ss : List (List Nat × List Nat), chain ss [] = []
  | [] => rfl
  | s :: r => by
    show chain r (rep s.1 s.2 0 []) = []
    rw [rep]; exact chain_nil r
end Mine
end
section
theorem Mine.fresh_X5 : True := by
  w_top off
  trivial
open PySem PySem.W PyProof.Rows PySem.Spec PySem.Calls
set_option Elab.async false
set_option maxRecDepth 100000
set_option maxHeartbeats 4000000
namespace Mine
section
variable {prog : Program} {w : World} {A : Around} {E : Value → Shared → Prop} {s : Shared}
end
end Mine
end
section
theorem Mine.fresh_J05 : True := by
  w_top off
  trivial
open PySem PySem.W PyProof.Rows PySem.Spec PySem.Calls
set_option Elab.async false
set_option maxRecDepth 100000
set_option maxHeartbeats 8000000
namespace Mine
section
variable {w : World} {s : Shared} {h₀ : Heap} {L : Addr} {m : Str → Option Value} {news : List (Addr × Obj)} {p : Program} {loose : List Str} {mean : ExcName → Option Value} {mg mb : Str → Option Value}
  {name qual : Str} {params : Arguments} {body : List Stmt} {scope : Scope} {dV kV doc pm cdv ct oc : Value} {an od : Option Addr} {osl : Array (Option Value)} {oW oR oV oK oZ : Obj}
local macro_rules | `(tactic| walk_at "eval Name") => `(tactic| (k_here; (with_reducible show wpAny _ _ (eval (Expr.Name _ _) (envOfC _ _ _ _ _)) _ _ _); name_kind "local"; k_dflt (refine' nameX_L ?k1 ?k2 ?_; (case k1 => k_asm); (case k2 => first | exact rfl | (repeat (first | assumption | exact if_pos rfl | refine (if_neg (by decide)).trans ?_))); k_whole)))
local macro_rules | `(tactic| walk_at "pyIter") => `(tactic| fail "stop here")
local macro_rules | `(tactic| walk_at "eval ListComp") => `(tactic| fail "stop here")
local macro_rules | `(tactic| walk_at "binaryOp FloorDiv int int") => `(tactic| (k_here; refine floordiv_int (by assumption) ?_ (Or.inl (PyProof.noPylong_small (by assumption)))))
/-- the signs of a row -/
def sgR (c : Nat) : Prop := c = 120 ∨ c = 121 ∨ c = 38 ∨ c = 60
theorem item_row {a : Int} (h0 : 0 ≤ a) (h8 : a < 8) : ∃ c, Txt.item (Str.ofString "xyxxyx&<") a = ⟨#[c]⟩ ∧ sgR c := by
  have h : a = 0 ∨ a = 1 ∨ a = 2 ∨ a = 3 ∨ a = 4 ∨ a = 5 ∨ a = 6 ∨ a = 7 := by omega
  rcases h with rfl | rfl | rfl | rfl | rfl | rfl | rfl | rfl
  · exact ⟨120, by decide, .inl rfl⟩
  · exact ⟨121, by decide, .inr (.inl rfl)⟩
  · exact ⟨120, by decide, .inl rfl⟩
  · exact ⟨120, by decide, .inl rfl⟩
  · exact ⟨121, by decide, .inr (.inl rfl)⟩
  · exact ⟨120, by decide, .inl rfl⟩
  · exact ⟨38, by decide, .inr (.inr (.inl rfl))⟩
  · exact ⟨60, by decide, .inr (.inr (.inr rfl))⟩
theorem row_of : ∀ {ys : List Value}, (∀ (i : Nat) (v : Value), ys[i]? = some v → ∃ c t, v = Value.str { cps := #[c] } t ∧ sgR c) →
    ∃ ss : List Str, StrsAre ys ss ∧ (ss.map (·.length)).sum = ys.length ∧ ∀ c ∈ (Txt.join (Str.ofString "") ss).cps.toList, sgR c
  | [], _ => ⟨[], .nil, rfl, by rw [join_list_eq]; simp⟩
  | v :: r, h => by
    obtain ⟨c, t, rfl, hc⟩ := h 0 v rfl
    obtain ⟨ss, h1, h2, h3⟩ := row_of (ys := r) fun i v e => h (i + 1) v e
    refine ⟨⟨#[c]⟩ :: ss, .cons _ _ h1, ?_, ?_⟩
    · rw [List.map_cons, List.sum_cons, h2, List.length_cons, Nat.add_comm]; rfl
    · rw [join_list_eq] at h3 ⊢
      intro d hd
      rw [List.map_cons, List.flatten_cons] at hd
      rcases List.mem_append.mp hd with hd | hd
      · obtain rfl : d = c := by simpa using hd
        exact hc
      · exact h3 d hd
theorem strs_all {P : Str → Prop} : ∀ {ys : List Value}, (∀ (i : Nat) (v : Value), ys[i]? = some v → ∃ r t, v = Value.str r t ∧ P r) → ∃ ss : List Str, StrsAre ys ss ∧ ∀ r ∈ ss, P r
  | [], _ => ⟨[], .nil, by simp⟩
  | v :: r, h => by
    obtain ⟨x, t, rfl, hx⟩ := h 0 v rfl
    obtain ⟨ss, h1, h2⟩ := strs_all (ys := r) fun i v e => h (i + 1) v e
    refine ⟨x :: ss, .cons _ _ h1, fun y hy => ?_⟩
    rcases List.mem_cons.mp hy with rfl | hy
    · exact hx
    · exact h2 y hy
theorem j5 {st : Stmt} {w1 : Nat} {tz : Tok} {v0 : Option Value} {Sa Dp : Addr} {xs ys : List Value} {ns ps : List Int} {Q : Flow → Shared → Prop} {E : Value → Shared → Prop}
    (KX : (hd03.heap_39 w.params).In h₀) (T : Top p loose mean mg mb h₀)
    (hl : (hd03.heap_39 w.params).lookup 68 = some ⟨oc, od, .func (fnOf name qual params body scope dV kV doc pm an cdv ct), osl⟩) (hb : body[5]? = some st)
    (F : Fr h₀ L s.heap m) (N : News h₀ L s.heap ((L + 1 + 1 + 1 + 1 + 1, oW) :: (L + 1 + 1 + 1 + 1, oR) :: (L + 1 + 1 + 1, oV) :: (L + 1 + 1, oK) :: (L + 1, oZ) :: (Dp, LCg.lst ys) :: news)) (dR : oR.data = .cell v0) (dZ : oZ.data = .cell (some (.int (w1 : Int) tz)))
    (ap : ∀ q ∈ (Dp, LCg.lst ys) :: news, q.1 ≠ L + 1 + 1 + 1 + 1 + 1 ∧ q.1 ≠ L + 1 + 1 + 1 + 1 ∧ q.1 ≠ L + 1 + 1 + 1 ∧ q.1 ≠ L + 1 + 1 ∧ q.1 ≠ L + 1) (hw1 : 4 ≤ w1) (hw7 : w1 ≤ 7)
    (hs : m (Str.ofString "script") = some (.ref Sa)) (hp : m (Str.ofString "parts") = some (.ref Dp)) (hLa : h₀.IsList Sa xs.toArray) (hn : xs.length ≤ 63) (hi : IntsAre ys ps) (hz : ps.length ≤ 10)
    (k : ∀ h' tk oR' D zs (rows : List Str), StrsAre zs rows → rows.length = 1 + ps.length → (∀ r ∈ rows, r.length = w1 ∧ ∀ c ∈ r.cps.toList, sgR c) → D ≠ L + 1 + 1 + 1 + 1 + 1 → Fr h₀ L h' m → News h₀ L h' ((L + 1 + 1 + 1 + 1 + 1, oW) :: (L + 1 + 1 + 1 + 1, oR') :: (L + 1 + 1 + 1, oV) :: (L + 1 + 1, oK) :: (L + 1, oZ) :: [(D, LCg.lst zs)]) → oR'.data = .cell (some (.ref D)) → Q .next { s with heap := h', toks := tk }) :
    wpAny (model PySem.Challenge.rw_kt0002_03.row.prog w) (callerA.deeper (envOfC (Str.ofString "law") scope L 68 cdv)) (exec st (envOfC (Str.ofString "law") scope L 68 cdv)) Q E s := by
  revert KX; k_fill; intro KX
  have e := hl.symm.trans (by k_is)
  cases e
  cases hb
  repeat (first | walk1 | (dsimp only; walk1))
  refine ListComp_cell (_F₀ := F) (by with_unfolding_all rfl) rfl rfl (by decide) rfl (fun C X => rfl) ?_
  repeat (first | walk1 | (dsimp only; walk1))
  refine PyProof.Rows.len_list (hLa.at fun o e => F.keep _ o e) (by rw [List.size_toArray]; omega) ?_
  rw [List.size_toArray]
  repeat (first | walk1 | (dsimp only; walk1))
  rename_i D1 _ lt1 D2 ws h2 F2 N2 hI2 lt2
  have hwl : ws.length = 1 + ps.length := by rw [hI2.length, List.length_append]; rfl
  refine ⟨D2, ws.toArray, _, fun i y => ∃ (r : Str) (t : Tok), y = .str r t ∧ r.length = w1 ∧ ∀ c ∈ r.cps.toList, sgR c, rfl, rfl, F2, N2, Or.inr ⟨_, .head _, rfl, _, rfl⟩, by rw [List.size_toArray]; omega, ?step, ?fin⟩
  case step =>
    intro i v X oX I oI C oC D ys2 h tk E' hi8 hP dX F3 N3 apX
    obtain ⟨a, ta, rfl⟩ : ∃ (a : Int) (ta : Tok), v = .int a ta := by
      obtain ⟨n, t, rfl, hn⟩ := hI2.at i v (by simpa using hP)
      exact ⟨n, t, rfl⟩
    dsimp only
    iterate 6 walk1
    refine ListComp_X (_F₀ := F3) (by with_unfolding_all rfl) (by decide) (by rfl) (by decide) (by rfl) ?_
    repeat (first | walk1 | (dsimp only; walk1))
    rename IsRange _ _ _ _ _ _ _ _ => hr
    refine' go_range (n := w1) (R := fun _ y => ∃ c t, y = .str ⟨#[c]⟩ t ∧ sgR c) rfl ?F ?N hr ?small ?rs ?sz ?step2 ?fin2
    case F => k_asm
    case N => k_asm
    case small => exact small_one (by decide) (by decide) (by omega) (by omega)
    case rs => rw [rangeSize_nat]; simp
    case sz => rw [sizeLine_eq]; omega
    case step2 =>
      intro i2 v2 I2 oI2 C2 oC2 Dc ys3 m₂ h5 tk5 E5 hi9 hP2 hoC2 hv2 F5 N5 off hne
      obtain ⟨t2, rfl⟩ := hP2
      have h8 : (8 : Int) ^ (0 + (i2 : Int)).toNat ≠ 0 := by
        have := Int.pow_pos (n := (8 : Int)) (m := (0 + (i2 : Int)).toNat) (by decide)
        omega
      have h9 : ((8 : Int) ^ (0 + (i2 : Int)).toNat).natAbs < 1073741824 := by
        have hi' : i2 = 0 ∨ i2 = 1 ∨ i2 = 2 ∨ i2 = 3 ∨ i2 = 4 ∨ i2 = 5 ∨ i2 = 6 := by omega
        rcases hi' with rfl | rfl | rfl | rfl | rfl | rfl | rfl <;> decide
      have g8 := mod8 (a.fdiv ((8 : Int) ^ (0 + (i2 : Int)).toNat))
      dsimp only
      repeat (first | walk1 | (dsimp only; walk1))
      · k_asm
      · refine ⟨by k_asm, ?_⟩
        obtain ⟨c, hc, hc8⟩ := item_row g8.1 g8.2
        exact ⟨c, _, by rw [hc], hc8⟩
    case fin2 =>
      intro g6 ys6 hyl6 hys6
      obtain ⟨ss, hss, hsl, hs8⟩ := row_of hys6
      unfold LCg.FinE
      intro D7 h7 tk7 F7 N7 o7
      repeat (first | walk1 | (dsimp only; walk1))
      refine' join_listW (lst_at N7 (.head _)) (by simpa using hss) (by decide) ?wt ?_
      case wt => have := hss.len_eq; rw [hsl]; omega
      intro t8 k8
      exact ⟨_, _, rfl, F7, fun q hq => N7 q (.tail _ hq), _, t8, rfl, by rw [join_len, hsl]; exact hyl6, hs8⟩
  case fin =>
    intro ys2 g hyl hys
    unfold LCg.FinE
    intro D3 h3 tk3 F3 N3 o3
    have o4 := off1_of o3
    repeat (first | walk1 | (dsimp only; walk1))
    obtain ⟨rows, hr1, hr2⟩ := strs_all hys
    refine storeX_C (c := L + 1 + 1 + 1 + 1) F3 N3 rfl (.tail (o4 _ (.tail _ (.tail _ (.tail _ (.head _))))).symm (.tail ?u1 (.tail ?u2 (.tail ?u3 (.head fun q hq => ?u5))))) dR (fun h4 oR' F4 N4 d4 => ?_)
    case u1 => exact Ne.symm (Nat.ne_of_lt lt2.2.2.1)
    case u2 => exact Ne.symm (Nat.ne_of_lt lt1.2.1)
    case u3 => show @Ne Nat _ _; omega
    case u5 =>
      rcases List.mem_cons.mp hq with rfl | hq
      · show @Ne Nat _ _; omega
      rcases List.mem_cons.mp hq with rfl | hq
      · show @Ne Nat _ _; omega
      rcases List.mem_cons.mp hq with rfl | hq
      · show @Ne Nat _ _; omega
      · exact (ap q hq).2.1
    refine k _ _ oR' D3 ys2 rows hr1 (by rw [← hr1.len_eq, hyl, List.size_toArray, hwl]) hr2 (o4 _ (.tail _ (.tail _ (.head _)))).symm F4 (fun q hq => N4 q ?_) d4
    simp only [List.mem_cons, List.not_mem_nil, or_false] at hq ⊢; grind
end
end Mine
end
section
theorem Mine.fresh_P22 : True := by
  w_top off
  trivial
open PySem PySem.W PyProof.Rows PySem.Spec PySem.Calls
set_option Elab.async false
set_option maxRecDepth 100000
set_option maxHeartbeats 4000000
namespace Mine
theorem strs_at {vs : List Value} {ss : List Str} (h : StrsAre vs ss) : ∀ {i : Nat} {v : Value}, vs[i]? = some v → ∃ r t, ss[i]? = some r ∧ v = .str r t := by
  induction h with
  | nil => intro i v e; simp at e
  | cons y t _ ih =>
    intro i v e
    cases i with
    | zero => obtain rfl : Value.str y t = v := by simpa using e
              exact ⟨y, t, rfl, rfl⟩
    | succ i => exact ih (by simpa using e)
theorem strs_mapS (f : Str → Str) : ∀ {rows : List Str} {ys : List Value}, ys.length = rows.length → (∀ (i : Nat) (v : Value), ys[i]? = some v → ∃ r t, rows[i]? = some r ∧ v = Value.str (f r) t) → StrsAre ys (rows.map f)
  | [], [], _, _ => .nil
  | r :: rows, v :: ys, hl, h => by
    obtain ⟨q, t, hq, rfl⟩ := h 0 v rfl
    obtain rfl : r = q := by simpa using hq
    exact .cons _ _ (strs_mapS f (by simpa using hl) fun i v e => h (i + 1) v e)
theorem join_flat (f : Str → Str) (g : List Nat → List Nat) (hf : ∀ r, (f r).cps.toList = g r.cps.toList) (rows : List Str) : (Txt.join (Str.ofString "") (rows.map f)).cps.toList = (rows.map fun r => r.cps.toList).flatMap g := by
  rw [join_list_eq, List.map_map]
  induction rows with
  | nil => rfl
  | cons r rows ih => rw [List.map_cons, List.map_cons, List.flatten_cons, List.flatMap_cons, ih, ← hf]; rfl
theorem sum_len (f : Str → Str) (n : Nat) : ∀ {rows : List Str}, (∀ r ∈ rows, (f r).length ≤ n) → ((rows.map f).map (·.length)).sum ≤ rows.length * n
  | [], _ => by simp
  | r :: rows, h => by
    have h1 := h r (.head _)
    have h2 := sum_len f n (rows := rows) fun q hq => h q (.tail _ hq)
    rw [List.map_cons, List.map_cons, List.sum_cons, List.length_cons, Nat.succ_mul]
    omega
end Mine
end
section
theorem Mine.fresh_J06 : True := by
  w_top off
  trivial
open PySem PySem.W PyProof.Rows PySem.Spec PySem.Calls
set_option Elab.async false
set_option maxRecDepth 100000
set_option maxHeartbeats 8000000
namespace Mine
section
variable {w : World} {s : Shared} {h₀ : Heap} {L : Addr} {m : Str → Option Value} {news : List (Addr × Obj)} {p : Program} {loose : List Str} {mean : ExcName → Option Value} {mg mb : Str → Option Value}
  {name qual : Str} {params : Arguments} {body : List Stmt} {scope : Scope} {dV kV doc pm cdv ct oc : Value} {an od : Option Addr} {osl : Array (Option Value)} {oW oR oV oK oZ : Obj}
local macro_rules | `(tactic| walk_at "eval Name") => `(tactic| (k_here; (with_reducible show wpAny _ _ (eval (Expr.Name _ _) (envOfC _ _ _ _ _)) _ _ _); name_kind "local"; k_dflt (refine' nameX_L ?k1 ?k2 ?_; (case k1 => k_asm); (case k2 => first | exact rfl | (repeat (first | assumption | exact if_pos rfl | refine (if_neg (by decide)).trans ?_))); k_whole)))
local macro_rules | `(tactic| walk_at "eval ListComp") => `(tactic| (k_here; k_dflt (refine ListComp_X (_F₀ := by k_asm) (by with_unfolding_all rfl) (by decide) (by rfl) (by decide) (by rfl) ?_)))
local macro_rules | `(tactic| walk_at "pyIter") => `(tactic| fail "stop here")
theorem j6 {st : Stmt} {w1 : Nat} {D : Addr} {zs : List Value} {rows : List Str} {Q : Flow → Shared → Prop} {E : Value → Shared → Prop}
    (KX : (hd03.heap_39 w.params).In h₀) (T : Top p loose mean mg mb h₀)
    (hl : (hd03.heap_39 w.params).lookup 68 = some ⟨oc, od, .func (fnOf name qual params body scope dV kV doc pm an cdv ct), osl⟩) (hb : body[6]? = some st)
    (F : Fr h₀ L s.heap m) (N : News h₀ L s.heap ((L + 1 + 1 + 1 + 1, oR) :: (D, LCg.lst zs) :: news)) (dR : oR.data = .cell (some (.ref D))) (hz : StrsAre zs rows) (hn : rows.length ≤ 11) (hr : ∀ r ∈ rows, r.length = w1 ∧ ∀ c ∈ r.cps.toList, sgR c) (hw7 : w1 ≤ 7)
    (k : ∀ h' tk x t, x.cps.toList = (rows.map fun r => r.cps.toList).flatMap (fun r => r ++ [124]) → Fr h₀ L h' (fun y => if y = Str.ofString "text" then some (.str x t) else m y) → News h₀ L h' ((L + 1 + 1 + 1 + 1, oR) :: (D, LCg.lst zs) :: news) → Q .next { s with heap := h', toks := tk }) :
    wpAny (model PySem.Challenge.rw_kt0002_03.row.prog w) (callerA.deeper (envOfC (Str.ofString "law") scope L 68 cdv)) (exec st (envOfC (Str.ofString "law") scope L 68 cdv)) Q E s := by
  revert KX; k_fill; intro KX
  have e := hl.symm.trans (by k_is)
  cases e
  cases hb
  repeat (first | walk1 | (dsimp only; walk1))
  have hzl := hz.len_eq
  refine' go_list (its := zs.toArray) (R := fun i y => ∃ (r : Str) (t : Tok), rows[i]? = some r ∧ y = Value.str (r ++ Str.ofString "|") t) rfl ?F ?N (Or.inr ⟨LCg.lst zs, .tail _ (.head _), rfl, _, rfl⟩) ?sz ?step ?fin
  case F => k_asm
  case N => k_asm
  case sz => rw [sizeLine_eq, List.size_toArray]; omega
  case step =>
    intro i v I oI C oC Dc ys m₂ h tk E' hi8 hP hoC hv F N off hne
    obtain ⟨r, t, hri, rfl⟩ := strs_at hz (by simpa using hP)
    have hrl := (hr r (List.mem_of_getElem? hri)).1
    have hr9 : r.length ≤ 7 := by omega
    dsimp only
    repeat (first | walk1 | (dsimp only; walk1))
    · k_asm
    · exact ⟨by k_asm, r, _, hri, rfl⟩
  case fin =>
    intro g5 ys hyl hys
    have hss := strs_mapS (fun r => r ++ Str.ofString "|") (rows := rows) (by rw [hyl, List.size_toArray, hzl]) hys
    have hj := join_flat (fun r => r ++ Str.ofString "|") (fun r => r ++ [124]) (fun r => by rw [Str.cps_append, Array.toList_append]; rfl) rows
    have hsl := sum_len (fun r => r ++ Str.ofString "|") 8 (rows := rows) (fun r hr9 => by
      have := (hr r hr9).1
      show (r ++ Str.ofString "|").cps.size ≤ 8
      rw [Str.cps_append, Array.size_append]
      have e : (Str.ofString "|").cps.size = 1 := by decide
      have e2 : r.cps.size = r.length := rfl
      omega)
    unfold LCg.FinE
    intro D2 h2 tk2 F2 N2 o2
    repeat (first | walk1 | (dsimp only; walk1))
    refine' join_listW (lst_at N2 (.head _)) (by simpa using hss) (by decide) ?wt ?_
    case wt => rw [List.length_map]; omega
    intro t7 k7
    generalize Txt.join (Str.ofString "") (rows.map fun r => r ++ Str.ofString "|") = x at *
    repeat (first | walk1 | (dsimp only; walk1))
    rename News _ _ _ _ => N9
    exact k _ _ x _ hj (by k_asm) (fun q hq => N9 q (.tail _ hq))
end
end Mine
end
section
theorem Mine.fresh_P1 : True := by
  w_top off
  trivial
open PySem PySem.W PyProof.Rows PySem.Spec PySem.Calls
set_option Elab.async false
set_option maxRecDepth 100000
namespace Mine
def swapAt (w p : Nat) : Nat := p / w * w + (w - 1 - p % w)
def swapB (d : Array UInt8) (w : Nat) : Array UInt8 := ((List.range d.size).map fun p => d.getD (swapAt w p) 0).toArray
theorem swapB_size (d : Array UInt8) (w : Nat) : (swapB d w).size = d.size := by simp [swapB]
def SwOk (d : Array UInt8) (w k : Nat) (b : Array UInt8) : Prop := b.size = d.size ∧ ∀ p, p < k * w → b.getD p 0 = d.getD (swapAt w p) 0
def SwIn (d : Array UInt8) (w i j : Nat) (b : Array UInt8) : Prop := SwOk d w i b ∧ ∀ j', j' < j → b.getD (i * w + (w - 1 - j')) 0 = d.getD (i * w + j') 0
theorem SwOk.start (d : Array UInt8) (w : Nat) : SwOk d w 0 (Array.replicate d.size 0) := ⟨by simp, fun p h => by omega⟩
theorem getD_set {b : Array UInt8} {k p : Nat} {x : UInt8} (hk : k < b.size) : (b.setIfInBounds k x).getD p 0 = if p = k then x else b.getD p 0 := by
  simp only [Array.getD_eq_getD_getElem?, Array.getElem?_setIfInBounds]
  by_cases h : p = k
  · subst h; simp [hk]
  · have : ¬ k = p := fun e => h e.symm
    simp [h, this]
theorem SwIn.step {d b : Array UInt8} {w i j : Nat} (h : SwIn d w i j b) (hj : j < w) (hs : (i + 1) * w ≤ d.size) : SwIn d w i (j + 1) (b.setIfInBounds (i * w + (w - 1 - j)) (d.getD (i * w + j) 0)) := by
  obtain ⟨⟨h1, h2⟩, h3⟩ := h
  have hb : (i + 1) * w = i * w + w := Nat.succ_mul i w
  have hk : i * w + (w - 1 - j) < b.size := by omega
  refine ⟨⟨by simpa using h1, fun p hp => ?_⟩, fun j' hj' => ?_⟩
  · rw [getD_set hk, if_neg (by omega)]; exact h2 p hp
  · rw [getD_set hk]
    by_cases e : j' = j
    · subst e; simp
    · rw [if_neg (by omega)]; exact h3 j' (by omega)
theorem SwIn.done {d b : Array UInt8} {w i : Nat} (h : SwIn d w i w b) (hw : 0 < w) : SwOk d w (i + 1) b := by
  obtain ⟨⟨h1, h2⟩, h3⟩ := h
  refine ⟨h1, fun p hp => ?_⟩
  have hb : (i + 1) * w = i * w + w := Nat.succ_mul i w
  by_cases hp' : p < i * w
  · exact h2 p hp'
  · have hr : p - i * w < w := by omega
    have hd : p / w = i := by
      refine Nat.div_eq_of_lt_le (by omega) (by omega)
    have hm : p % w = p - i * w := by
      have := Nat.div_add_mod p w
      rw [hd, Nat.mul_comm] at this
      omega
    have := h3 (w - 1 - (p - i * w)) (by omega)
    rw [show i * w + (w - 1 - (w - 1 - (p - i * w))) = p by omega] at this
    rw [this]
    unfold swapAt
    rw [hd, hm]
theorem SwOk.fin {d b : Array UInt8} {w n : Nat} (h : SwOk d w n b) (hn : d.size = n * w) : b = swapB d w := by
  obtain ⟨h1, h2⟩ := h
  apply Array.ext
  · rw [swapB_size]; exact h1
  · intro p hp hp'
    have h3 := h2 p (by rw [← hn, ← h1]; exact hp)
    rw [Array.getD_eq_getD_getElem?, Array.getElem?_eq_getElem hp] at h3
    simp only [swapB, List.getElem_toArray, List.getElem_map, List.getElem_range]
    simpa using h3
theorem bInts_get (b : Array UInt8) (k : Nat) : ((KBw.bInts b).getD k 0).toNat.toUInt8 = b.getD k 0 := by
  have e : (KBw.bInts b).getD k 0 = ((b.getD k 0).toNat : Int) := by
    obtain ⟨l⟩ := b
    rw [KBw.ints_list]
    simp only [List.getD_eq_getElem?_getD, List.getElem?_map, Array.getD_eq_getD_getElem?, List.getElem?_toArray]
    cases l[k]? <;> simp
  rw [e]; simp
theorem rangeSize_step {n w : Nat} (hw : 0 < w) : Builtin.Range.rangeSize 0 ((n * w : Nat) : Int) (w : Int) = (n : Int) := by
  unfold Builtin.Range.rangeSize
  have h1 : (w : Int) > 0 := by omega
  rw [if_pos h1]
  cases n with
  | zero => simp
  | succ n =>
    have hp : 0 < (n + 1) * w := Nat.mul_pos (by omega) hw
    have h2 : (0 : Int) < (((n + 1) * w : Nat) : Int) := by exact_mod_cast hp
    rw [if_pos h2]
    have e : ((((n + 1) * w : Nat) : Int) - 0 - 1) / (w : Int) = (n : Int) := by
      have e1 : ((((n + 1) * w : Nat) : Int) - 0 - 1) = (((n + 1) * w - 1 : Nat) : Int) := by omega
      rw [e1]
      have e2 : ((n + 1) * w - 1) / w = n := by
        refine Nat.div_eq_of_lt_le ?_ ?_
        · rw [Nat.succ_mul]; omega
        · omega
      exact_mod_cast e2
    rw [e]; omega
theorem small_step {n w : Nat} (hw : 0 < w) (hz : n * w ≤ 4096) (hwz : w ≤ 4096) : Builtin.Range.small 0 ((n * w : Nat) : Int) (w : Int) = true := by
  unfold Builtin.Range.small
  rw [rangeSize_step hw]
  have hn : n ≤ 4096 := Nat.le_trans (Nat.le_mul_of_pos_right n hw) hz
  have h1 : (w : Int) > 0 := by omega
  rw [if_pos h1]
  have h2 : ((n * w : Nat) : Int) ≤ 4096 := by exact_mod_cast hz
  have h3 : (0 : Int) ≤ ((n * w : Nat) : Int) := Int.natCast_nonneg _
  generalize ((n * w : Nat) : Int) = N at h2 h3
  simp only [Builtin.Range.rangeFitsLong, Bool.and_eq_true, Bool.or_eq_true, decide_eq_true_eq, beq_iff_eq]
  omega
end Mine
end
section
theorem Mine.fresh_S03a : True := by
  w_top off
  trivial
open PySem PySem.W PyProof.Rows PySem.Spec PySem.Calls
set_option Elab.async false
set_option maxRecDepth 100000
set_option maxHeartbeats 8000000
namespace Mine
section
variable {w : World} {A A₀ : Around} {s : Shared} {base h₀ : Heap} {outer : List Env} {L : Addr} {m : Str → Option Value} {env : Env} {news : List (Addr × Obj)} {p : Program} {loose : List Str} {mean : ExcName → Option Value} {mg mb : Str → Option Value}
local macro_rules | `(tactic| walk_at "eval Name") => `(tactic| (k_here; k_dflt (refine' ld ?k1 ?k2 ?_; (case k1 => k_asm); (case k2 => first | exact rfl | (repeat (first | assumption | exact if_pos rfl | refine (if_neg (by decide)).trans ?_))); k_whole)))
theorem byteswap03 {data : Array UInt8} {t u : Tok} {wd : Int} {Q E : Value → Shared → Prop}
    (B : Below A₀ base outer h₀) (F : Fr h₀ L s.heap m) (KX : (hd03.heap_39 w.params).In h₀) (N : News h₀ L s.heap news) (T : Top p loose mean mg mb h₀) (hA : A.frames = some (env :: outer)) (hf : env.frame = some L) (hke : env.scope.kind = .function)
    (hz : data.size ≤ 4096) (n wd' : Nat) (hwz : wd' ≤ 4096) (hw0 : 0 < wd') (hwd : wd = (wd' : Int)) (hsz : data.size = n * wd')
    (hroom : A.depth < recursionLimit) (hg : A.guards = some []) (hh : A.handled = none)
    (k : ∀ t' h' tk, Fr h₀ L h' m → News h₀ L h' news → Q (.bytes (swapB data wd') t') { s with heap := h', toks := tk }) :
    wpT (model PySem.Challenge.rw_kt0002_03.row.prog w) A (call (.ref 46) [.bytes data t, .int wd u]) Q E s := by
  revert KX; k_fill; intro KX
  refine wpT_call ?_
  refine' codeT_K B F KX N T.nolimit hA hf hke ?k6 ?k7 hroom ?k9 ?kB ?_ ?c5 ?c2 ?c3 ?c4
  case k6 => k_is
  case k7 => k_is
  case k9 => exact BindsTo.of_eq rfl
  case kB => exact locs rfl
  case c5 => decide
  case c2 => exact rfl
  case c3 => exact rfl
  case c4 => exact rfl
  k_whole
  intro g L' h₁ FG F' N' B' st
  have KX' := KX.keeps st
  have T' := T.keeps st
  refine execsT_cons (AssignT (CallT_type (ty := "bytearray") 1 rfl ?_))
  walk1
  refine ⟨rfl, splicedT_cons (wpT_any ?_)⟩
  repeat (first | walk1 | (dsimp only; walk1))
  refine splicedT_nil (ba_callT hg (by k_asm) (by k_asm) (by omega) (by omega) ?_)
  intro D h₂ F₂ N₂ hlt
  refine storeX_L F₂ N₂ (fun h₃ F₃ N₃ => ?_)
  refine wpT_mono (E := fun _ _ => False) (wpT_any ?_) (fun _ _ x => x) (fun _ _ x => x.elim)
  clear F₂ N₂
  refine wpAny_execs_cons (For_invU g (by rfl) (by rfl) ?_)
  repeat (first | walk1 | (dsimp only; walk1))
  rename IsRange _ _ _ _ _ _ _ _ => hr
  rename Fr _ _ _ _ => F₄
  rename News _ _ _ _ => N₄
  have hD₀ : g.get? D = none := (N₄ _ (.head _)).2.2
  have hDL : D ≠ L' := (N₄ _ (.head _)).2.1
  have hnD : ∀ q ∈ news, q.1 ≠ D := fun q hq => Nat.ne_of_lt (hlt q hq)
  refine loopU_range (n := n) (fun i m' nw => m' (Str.ofString "swapped_data") = some (.ref D) ∧ m' (Str.ofString "data") = some (.bytes data t) ∧ m' (Str.ofString "width") = some (.int wd u) ∧ ∃ b, nw = (D, ba b) :: news ∧ SwOk data wd' i b)
    hh hr ?small (by rw [hwd, hsz]; exact rangeSize_step hw0) F₄ N₄ ⟨rfl, rfl, rfl, _, rfl, by rw [Int.toNat_natCast]; exact SwOk.start _ _⟩ ?step ?done
  case small => rw [hwd, hsz]; exact small_step hw0 (by omega) hwz
  case step =>
    intro i m₁ news₁ s₁ t' own hi hJ ap F₁ N₁
    obtain ⟨e1, e2, e3, b, rfl, hb⟩ := hJ
    clear F₄ N₄ hr
    refine wpAny_execs_cons (For_invU g (by rfl) (by rfl) ?_)
    repeat (first | walk1 | (dsimp only; walk1))
    rename IsRange _ _ _ _ _ _ _ _ => hr2
    rename Fr _ _ _ _ => F₂
    rename News _ _ _ _ => N₂
    refine loopU_range (n := wd') (fun j m' nw => (∃ ti, m' (Str.ofString "i") = some (.int (0 + (i : Int) * wd) ti)) ∧ m' (Str.ofString "swapped_data") = some (.ref D) ∧ m' (Str.ofString "data") = some (.bytes data t) ∧ m' (Str.ofString "width") = some (.int wd u) ∧ ∃ b own', nw = own' ++ (D, ba b) :: news ∧ own' = own ∧ SwIn data wd' i j b)
      hh hr2 (small_one (by omega) (by omega) (by omega) (by omega)) (by rw [rangeSize_nat]; omega) F₂ N₂
      ⟨⟨_, if_pos rfl⟩, (if_neg (by decide)).trans e1, (if_neg (by decide)).trans e2, (if_neg (by decide)).trans e3, b, _, rfl, rfl, hb, fun _ h => by omega⟩ ?step2 ?done2
    case step2 =>
      clear F₂ N₂ hr2 hb e1 e2 e3
      intro j m₂ news₂ s₂ tj own₂ hj hJ ap₂ F₂ N₂
      obtain ⟨⟨ti, ei⟩, e1, e2, e3, b, own', rfl, rfl, hb⟩ := hJ
      have hle : (i + 1) * wd' ≤ n * wd' := Nat.mul_le_mul_right wd' hi
      have hsu : (i + 1) * wd' = i * wd' + wd' := Nat.succ_mul i wd'
      have hidx : (0 + (i : Int) * wd + (0 + (j : Int) * 1)) = ((i * wd' + j : Nat) : Int) := by rw [hwd]; push_cast; omega
      repeat (first | walk1 | (dsimp only; walk1))
      refine KBw.item_K (ks := KBw.bInts data) rfl (by rw [KBw.ints_length]; omega) (by rw [hidx]; omega) (by rw [hidx, KBw.ints_length]; omega) (fun t' k' b0 b1 => ?_)
      repeat (first | walk1 | (dsimp only; walk1))
      have hkk : (0 + (i : Int) * wd + wd - 1 - (0 + (j : Int) * 1)) = ((i * wd' + (wd' - 1 - j) : Nat) : Int) := by rw [hwd]; push_cast; omega
      have hbs : b.size = data.size := hb.1.1
      have apD : ∀ q ∈ own₂ ++ own', q.1 ≠ D := fun q hq => by
        rcases List.mem_append.mp hq with hq | hq
        · exact ap₂ q hq (D, ba b) (List.mem_append_right _ (.head _))
        · exact ap q hq (D, ba _) (.head _)
      rw [← List.append_assoc] at N₂
      refine ba_setItem (b := b) (N₂ _ (List.mem_append_right _ (.head _))).1 (by omega) (by rw [hkk]; omega) (by rw [hkk]; omega) b0 b1 (fun h' e' hs => ?_)
      repeat (first | walk1 | (dsimp only; walk1))
      have ex : (0 + (i : Int) * wd + (0 + (j : Int) * 1)).toNat = i * wd' + j := by rw [hidx]; exact Int.toNat_natCast _
      have ek : (0 + (i : Int) * wd + wd - 1 - (0 + (j : Int) * 1)).toNat = i * wd' + (wd' - 1 - j) := by rw [hkk]; exact Int.toNat_natCast _
      rw [ex, bInts_get, ek] at e'
      exact Turn.mk (news₂ := own' ++ (D, ba _) :: news) (F₂.change hs hDL hD₀) (by rw [← List.append_assoc]; exact N₂.setAt apD hnD hs e')
        (fun p hp q hq => by
          rcases List.mem_append.mp hq with hq | hq
          · exact ap₂ p hp q (List.mem_append_left _ hq)
          · rcases List.mem_cons.mp hq with rfl | hq
            · exact ap₂ p hp (D, ba b) (List.mem_append_right _ (.head _))
            · exact ap₂ p hp q (List.mem_append_right _ (.tail _ hq)))
        ⟨⟨ti, (if_neg (by decide)).trans ei⟩, (if_neg (by decide)).trans e1, (if_neg (by decide)).trans e2, (if_neg (by decide)).trans e3, _, _, rfl, rfl, hb.step hj (by omega)⟩
    case done2 =>
      intro h' tk' m' nw F₃ N₃ hJ
      obtain ⟨⟨ti, ei⟩, e1, e2, e3, b', own', rfl, rfl, hb'⟩ := hJ
      repeat (first | walk1 | (dsimp only; walk1))
      exact Turn.mk (news₂ := (D, ba _) :: news) F₃ N₃ (fun p hp q hq => by
          rcases List.mem_cons.mp hq with rfl | hq
          · exact ap p hp (D, ba b) (.head _)
          · exact ap p hp q (.tail _ hq)) ⟨e1, e2, e3, _, rfl, hb'.done hw0⟩
  case done =>
    intro h' tk' m' nw F₃ N₃ hJ
    obtain ⟨e1, e2, e3, b', rfl, hb'⟩ := hJ
    repeat (first | walk1 | (dsimp only; walk1))
    refine ba_bytes (N₃ _ (.head _)).1 (by rw [hb'.1]; omega) (fun tb kb => ?_)
    rw [hb'.fin hsz]
    exact leaveK_ F₃ (fun q hq => N₃ q (.tail _ hq)) (fun Fk Nk => k _ _ _ Fk Nk)
end
end Mine
end
section
theorem Mine.fresh_W03 : True := by
  w_top off
  trivial
open PySem PySem.W PyProof.Rows PySem.Spec PySem.Calls
set_option Elab.async false
set_option maxRecDepth 100000
set_option maxHeartbeats 8000000
namespace Mine
theorem ints_of_signs : ∀ {l : List Nat} {ys : List Value}, ys.length = l.length → (∀ (i : Nat) (v : Value), ys[i]? = some v → ∃ (c : Nat) (t : Tok), l[i]? = some c ∧ v = Value.int (c : Int) t) → IntsAre ys (l.map fun c : Nat => (c : Int))
  | [], [], _, _ => .nil
  | c :: l, v :: ys, hl, h => by
    obtain ⟨d, t, hd, rfl⟩ := h 0 v rfl
    obtain rfl : c = d := by simpa using hd
    exact .cons _ _ (ints_of_signs (by simpa using hl) fun i v e => h (i + 1) v e)
theorem low_bytes {l : List Nat} (h : ∀ c ∈ l, c < 128) : (((l.map fun c : Nat => (c : Int)).map fun n => n.toNat.toUInt8).toArray).toList.map UInt8.toNat = l := by
  rw [List.map_map, List.map_map]
  conv => rhs; rw [← List.map_id l]
  refine List.map_congr_left fun c hc => ?_
  have := h c hc
  show (((c : Int).toNat).toUInt8).toNat = c
  rw [Int.toNat_natCast]
  show (UInt8.ofNat c).toNat = c
  rw [UInt8.toNat_ofNat']
  omega
theorem strs_of_bytes : ∀ {l : List UInt8} {ys : List Value}, ys.length = l.length → (∀ (i : Nat) (v : Value), ys[i]? = some v → ∃ (c : UInt8) (t : Tok), l[i]? = some c ∧ v = Value.str { cps := #[c.toNat] } t) →
    StrsAre ys (l.map fun c => (⟨#[c.toNat]⟩ : Str))
  | [], [], _, _ => .nil
  | c :: l, v :: ys, hl, h => by
    obtain ⟨d, t, hd, rfl⟩ := h 0 v rfl
    obtain rfl : c = d := by simpa using hd
    exact .cons _ _ (strs_of_bytes (by simpa using hl) fun i v e => h (i + 1) v e)
theorem one_lens : ∀ l : List UInt8, ((l.map fun c => (⟨#[c.toNat]⟩ : Str)).map (·.length)).sum = l.length
  | [] => rfl
  | c :: l => by
    rw [List.map_cons, List.map_cons, List.sum_cons, one_lens l, List.length_cons, Nat.add_comm]; rfl
theorem one_join (l : List UInt8) : (Txt.join (Str.ofString "") (l.map fun c => (⟨#[c.toNat]⟩ : Str))).cps.toList = l.map UInt8.toNat := by
  rw [join_list_eq, List.map_map]
  induction l with
  | nil => rfl
  | cons c l ih => rw [List.map_cons, List.flatten_cons, ih]; rfl
/-- turning by words, on lists -/
def swapL (l : List Nat) (w : Nat) : List Nat := (List.range l.length).map fun p => l.getD (swapAt w p) 0
theorem swapB_list (d : Array UInt8) (w : Nat) : (swapB d w).toList.map UInt8.toNat = swapL (d.toList.map UInt8.toNat) w := by
  have hl : (d.toList.map UInt8.toNat).length = d.size := by simp
  unfold swapB swapL
  rw [hl, List.map_map]
  refine List.map_congr_left fun p _ => ?_
  show (d.getD (swapAt w p) 0).toNat = _
  rw [Array.getD_eq_getD_getElem?, List.getD_eq_getElem?_getD, List.getElem?_map, Array.getElem?_toList]
  cases d[swapAt w p]? <;> rfl
section
variable {w : World} {A A₀ : Around} {s : Shared} {base h₀ : Heap} {outer : List Env} {L : Addr} {env : Env} {m : Str → Option Value} {news : List (Addr × Obj)} {p : Program} {loose : List Str} {mean : ExcName → Option Value} {mg mb : Str → Option Value}
local macro_rules | `(tactic| walk_at "eval Name") => `(tactic| (k_here; k_dflt (refine' ld ?k1 ?k2 ?_; (case k1 => k_asm); (case k2 => first | exact rfl | (repeat (first | assumption | exact if_pos rfl | refine (if_neg (by decide)).trans ?_))); k_whole)))
local macro_rules | `(tactic| walk_at "eval ListComp") => `(tactic| (k_here; k_dflt (refine ListComp_X (_F₀ := by k_asm) (by with_unfolding_all rfl) (by decide) (by rfl) (by decide) (by rfl) ?_)))
local macro_rules | `(tactic| walk_at "pyIter") => `(tactic| fail "stop here")
theorem words03 {x : Str} {t u : Tok} {n wd : Nat} {Q E : Value → Shared → Prop}
    (B : Below A₀ base outer h₀) (F : Fr h₀ L s.heap m) (KX : (hd03.heap_39 w.params).In h₀) (N : News h₀ L s.heap news) (T : Top p loose mean mg mb h₀) (hA : A.frames = some (env :: outer)) (hf : env.frame = some L) (hke : env.scope.kind = .function)
    (hz : x.length ≤ 1000) (hlow : ∀ c ∈ x.cps.toList, c < 128) (hw0 : 0 < wd) (hwz : wd ≤ 1000) (hsz : x.length = n * wd) (hroom : A.depth + 1 < recursionLimit) (hg : A.guards = some []) (hh : A.handled = none)
    (k : ∀ y t' h' tk, y.cps.toList = swapL x.cps.toList wd → Fr h₀ L h' m → News h₀ L h' news → Q (.str y t') { s with heap := h', toks := tk }) :
    wpT (model PySem.Challenge.rw_kt0002_03.row.prog w) A (call (.ref 51) [.str x t, .int (wd : Int) u]) Q E s := by
  revert KX; k_fill; intro KX
  refine wpT_call ?_
  refine' codeT_K (binds := [(Str.ofString "text", .str x t), (Str.ofString "width", .int (wd : Int) u)]) B F KX N T.nolimit hA hf hke ?k6 ?k7 (by omega) ?k9 ?kB ?_ ?c5 ?c2 ?c3 ?c4
  case k6 => k_is
  case k7 => k_is
  case k9 => exact BindsTo.of_eq rfl
  case kB => exact locs rfl
  case c5 => decide
  case c2 => exact rfl
  case c3 => exact rfl
  case c4 => exact rfl
  k_whole
  intro g L' h₁ FG F' N' B' st
  have KX' := KX.keeps st
  have T' := T.keeps st
  have hzz : x.cps.size ≤ 1000 := hz
  clear N F
  refine wpT_mono (E := fun _ _ => False) ?_ (fun _ _ x => x) (fun _ _ x => x.elim)
  refine execsT_cons (AssignT (CallT (a := 46) 2 rfl (Nat.le_of_ble_eq_true rfl) ?_))
  walk1
  refine ⟨rfl, splicedT_cons (wpT_any ?_)⟩
  repeat (first | walk1 | (dsimp only; walk1))
  refine' go_str (R := fun i y => ∃ (c : Nat) (t : Tok), x.cps.toList[i]? = some c ∧ y = Value.int (c : Int) t) hh ?F ?N ?sz ?step ?fin
  case F => k_asm
  case N => k_asm
  case sz => rw [sizeLine_eq]; omega
  case step =>
    intro i v I oI C oC D ys m₂ h tk E' hi hP hoC hv F N off hne
    obtain ⟨c, t2, hc, rfl⟩ := hP
    dsimp only
    repeat (first | walk1 | (dsimp only; walk1))
    · k_asm
    · exact ⟨by k_asm, c, _, by rw [← hc]; simp, rfl⟩
  case fin =>
    intro g5 ys hyl hys
    unfold LCg.FinE
    intro D h2 tk2 F2 N2 o2
    repeat (first | walk1 | (dsimp only; walk1))
    have hi := ints_of_signs (by simpa using hyl) hys
    refine' bytes_K F2 N2 (lst_at N2 (List.mem_cons_self ..)) hi ?hr ?hz2 hh ?_
    case hr =>
      intro n hn
      obtain ⟨c, hc, rfl⟩ := List.mem_map.mp hn
      have := hlow c hc
      omega
    case hz2 => rw [sizeLine_eq]; omega
    intro h3 t3 k3 F3 N3 hB
    have hb := low_bytes hlow
    generalize ((x.cps.toList.map fun c : Nat => (c : Int)).map fun n => n.toNat.toUInt8).toArray = b at *
    have hbs : b.size = x.length := by
      have := congrArg List.length hb
      simpa [Str.length] using this
    repeat (first | walk1 | (dsimp only; walk1))
    clear hys hB hi
    refine splicedT_cons (wpT_any ?_)
    repeat (first | walk1 | (dsimp only; walk1))
    refine splicedT_nil ⟨⟨_, _, (KX'.keeps F3.keep) _ _ (by k_is), rfl⟩, ?_⟩
    refine' byteswap03 B' F3 KX' N3 T' ?kA ?kf ?kk (by omega) n wd (by omega) hw0 rfl (by omega) ?kr hg hh ?_
    case kA => exact congrArg (Option.map (_ :: ·)) hA
    case kf => exact rfl
    case kk => exact rfl
    case kr => exact hroom
    intro t4 h4 k4 F4 N4
    have hs : (swapB b wd).toList.map UInt8.toNat = swapL x.cps.toList wd := by rw [swapB_list, hb]
    have hss : (swapB b wd).size ≤ 1000 := by rw [swapB_size]; omega
    clear F3 N3
    generalize swapB b wd = bb at *
    refine storeX_L F4 N4 (fun h5 F5 N5 => ?_)
    clear F4 N4
    refine wpT_any ?_
    dsimp only
    repeat (first | walk1 | (dsimp only; walk1))
    refine' go_bytes (R := fun i y => ∃ (c : UInt8) (t : Tok), bb.toList[i]? = some c ∧ y = Value.str { cps := #[c.toNat] } t) hh ?F ?N ?sz ?step ?fin
    case F => k_asm
    case N => k_asm
    case sz => rw [sizeLine_eq]; omega
    case step =>
      intro i v I oI C oC D ys m₂ h tk E' hi hP hoC hv F N off hne
      obtain ⟨c, t2, hc, rfl⟩ := hP
      dsimp only
      have hc8 : (c.toNat : Int) < 256 := by have := c.toNat_lt; omega
      have hc0 : (0 : Int) ≤ (c.toNat : Int) := by omega
      repeat (first | walk1 | (dsimp only; walk1))
      · k_asm
      · refine ⟨by k_asm, c, _, ?_, by rw [Int.toNat_natCast]⟩
        rw [← hc]; simp
    case fin =>
      intro g6 ys6 hyl6 hys6
      have hss := strs_of_bytes (by simpa using hyl6) hys6
      unfold LCg.FinE
      intro D6 h6 tk6 F6 N6 o6
      repeat (first | walk1 | (dsimp only; walk1))
      refine' join_listW (lst_at N6 (List.mem_cons_self ..)) (by simpa using hss) (by decide) ?wt ?_
      case wt => rw [one_lens]; simp; omega
      intro t7 k7
      have hj := one_join bb.toList
      rw [hs] at hj
      repeat (first | walk1 | (dsimp only; walk1))
      rename News h₀ _ _ _ => kN
      exact k _ _ _ _ hj (by k_asm) (fun q hq => kN q (by first | exact .tail _ (.tail _ hq) | exact .tail _ (.tail _ (.tail _ hq)) | exact .tail _ hq))
end
end Mine
end
section
theorem Mine.fresh_J07 : True := by
  w_top off
  trivial
open PySem PySem.W PyProof.Rows PySem.Spec PySem.Calls
set_option Elab.async false
set_option maxRecDepth 100000
set_option maxHeartbeats 8000000
namespace Mine
section
variable {w : World} {s : Shared} {h₀ : Heap} {L : Addr} {m : Str → Option Value} {news : List (Addr × Obj)} {p : Program} {loose : List Str} {mean : ExcName → Option Value} {mg mb : Str → Option Value}
  {name qual : Str} {params : Arguments} {body : List Stmt} {scope : Scope} {dV kV doc pm cdv ct oc : Value} {an od : Option Addr} {osl : Array (Option Value)} {oW oR oV oK oZ : Obj}
local macro_rules | `(tactic| walk_at "eval Name") => `(tactic| (k_here; (with_reducible show wpAny _ _ (eval (Expr.Name _ _) (envOfC _ _ _ _ _)) _ _ _); name_kind "local"; k_dflt (refine' nameX_L ?k1 ?k2 ?_; (case k1 => k_asm); (case k2 => first | exact rfl | (repeat (first | assumption | exact if_pos rfl | refine (if_neg (by decide)).trans ?_))); k_whole)))
local macro_rules | `(tactic| walk_at "eval ListComp") => `(tactic| (k_here; k_dflt (refine ListComp_X (_F₀ := by k_asm) (by with_unfolding_all rfl) (by decide) (by rfl) (by decide) (by rfl) ?_)))
local macro_rules | `(tactic| walk_at "pyIter") => `(tactic| fail "stop here")
theorem j7 {st : Stmt} {w1 n : Nat} {x : Str} {t tz : Tok} {Q : Flow → Shared → Prop} {E : Value → Shared → Prop}
    (KX : (hd03.heap_39 w.params).In h₀) (T : Top p loose mean mg mb h₀)
    (hl : (hd03.heap_39 w.params).lookup 68 = some ⟨oc, od, .func (fnOf name qual params body scope dV kV doc pm an cdv ct), osl⟩) (hb : body[7]? = some st)
    (F : Fr h₀ L s.heap m) (N : News h₀ L s.heap ((L + 1, oZ) :: news)) (dZ : oZ.data = .cell (some (.int (w1 : Int) tz))) (mt : m (Str.ofString "text") = some (.str x t)) (hw1 : 4 ≤ w1) (hw7 : w1 ≤ 7)
    (hz : x.length ≤ 1000) (hlow : ∀ c ∈ x.cps.toList, c < 128) (hsz : x.length = n * (w1 + 1))
    (k : ∀ h' tk y t, y.cps.toList = swapL x.cps.toList (w1 + 1) → Fr h₀ L h' (fun z => if z = Str.ofString "turned" then some (.str y t) else m z) → News h₀ L h' ((L + 1, oZ) :: news) → Q .next { s with heap := h', toks := tk }) :
    wpT (model PySem.Challenge.rw_kt0002_03.row.prog w) (callerA.deeper (envOfC (Str.ofString "law") scope L 68 cdv)) (exec st (envOfC (Str.ofString "law") scope L 68 cdv)) Q E s := by
  revert KX; k_fill; intro KX
  have e := hl.symm.trans (by k_is)
  cases e
  cases hb
  refine AssignT ?_
  refine CallT (a := 51) 2 rfl (Nat.le_of_ble_eq_true rfl) ?_
  walk1
  refine ⟨rfl, splicedT_cons (wpT_any ?_)⟩
  refine nameX_L F mt ?_
  refine splicedT_cons (wpT_any ?_)
  repeat (first | walk1 | (dsimp only; walk1))
  refine splicedT_nil ⟨⟨_, _, (KX.keeps F.keep) _ _ (by k_is), rfl⟩, ?_⟩
  dsimp only
  rw [show ((w1 : Int) + 1) = ((w1 + 1 : Nat) : Int) by omega]
  refine' words03 (below_caller h₀) F KX N T ?hA ?hf ?hke hz hlow (by omega) (by omega) hsz ?hr ?hg rfl ?_
  case hA => exact rfl
  case hf => exact rfl
  case hke => exact rfl
  case hr => show (callerA.depth + 1 + 1 : Nat) < recursionLimit; decide
  case hg => exact rfl
  intro y t' h' tk hy F₂ N₂
  refine storeX_L F₂ N₂ (fun h₃ F₃ N₃ => ?_)
  exact k _ _ y t' hy F₃ N₃
end
end Mine
end
section
theorem Mine.fresh_P2 : True := by
  w_top off
  trivial
open PySem PySem.W PyProof.Rows PyProof.V PySem.Spec PySem.Calls
set_option Elab.async false
namespace Mine
def escT (x : Str) : Str := Txt.replace (Txt.replace (Txt.replace x (Str.ofString "&") (Str.ofString "&amp;")) (Str.ofString ">") (Str.ofString "&gt;")) (Str.ofString "<") (Str.ofString "&lt;")
def unT (x : Str) : Str := Txt.replace (Txt.replace x (Str.ofString "&lt;") (Str.ofString "<")) (Str.ofString "&gt;") (Str.ofString ">")
def ampT (x : Str) : Str := Txt.replace x (Str.ofString "&amp;") (Str.ofString "&")
end Mine
end
section
theorem Mine.fresh_P4 : True := by
  w_top off
  trivial
open PySem PyProof.Rows PySem.Spec
set_option Elab.async false
namespace Mine
def oLt : List Nat := [38, 108, 116, 59]
def oGt : List Nat := [38, 103, 116, 59]
def oAm : List Nat := [38, 97, 109, 112, 59]
theorem rep_one (c : Nat) (z : List Nat) : ∀ l : List Nat, rep [c] z 0 l = l.flatMap fun d => if d = c then z else [d]
  | [] => rfl
  | d :: r => by
    rw [List.flatMap_cons, ← rep_one c z r, rep]
    by_cases h : d = c
    · subst h; simp [List.isPrefixOf]
    · simp [List.isPrefixOf, h, Ne.symm h]
end Mine
end
section
theorem Mine.fresh_P5 : True := by
  w_top off
  trivial
open PySem PyProof.Rows PySem.Spec
set_option Elab.async false
namespace Mine
end Mine
end
section
theorem Mine.fresh_E1 : True := by
  w_top off
  trivial
open PySem PySem.W PyProof.Rows PyProof.V PySem.Spec PySem.Calls
set_option Elab.async false
set_option maxRecDepth 100000
set_option maxHeartbeats 8000000
namespace Mine

/-- what is stored of the pairs that a display writes down -/
def xEs (w : World) (l : List (Str × Tok × Value)) : List DictEntry := l.map fun p => ⟨(hashStr w p.1 : Int), .str p.1 p.2.1, p.2.2⟩
/-- the dict itself, with its very keys -/
abbrev xd (w : World) (l : List (Str × Tok × Value)) (n : Nat) : Obj := { cls := .type "dict", data := .dict (xEs w l).toArray n }
def xKV (l : List (Str × Tok × Value)) : List (Str × Value) := l.map fun p => (p.1, p.2.2)
def xVals (l : List (Str × Tok × Value)) : List (Value × Value) := l.map fun p => (.str p.1 p.2.1, p.2.2)

section
variable {prog : Program} {w : World} {A : Around} {E : Value → Shared → Prop} {s : Shared}

theorem xEs_keys (l : List (Str × Tok × Value)) : KeysOf (PySem.strKind prog w) (xEs w l).toArray := fun e he => by
  obtain ⟨p, _, rfl⟩ := List.mem_map.mp (List.mem_toArray.mp he)
  exact ⟨p.1, PySem.strKind_is prog w p.1 p.2.1, rfl⟩
theorem xEs_pairs : ∀ l : List (Str × Tok × Value), Pairs (PySem.strKind prog w) (xEs w l) (xKV l)
  | [] => Pairs.nil
  | p :: r => Pairs.cons (PySem.strKind_is prog w p.1 p.2.1) rfl (xEs_pairs r)
theorem xd_isDict {l : List (Str × Tok × Value)} (n : Nat) (hn : (l.map (·.1)).Nodup) : (xd w l n).IsDictOf (PySem.strKind prog w) (xKV l) :=
  ⟨_, n, ⟨rfl, rfl, rfl⟩, rfl, xEs_keys l, xEs_pairs l, by simpa [xKV, Function.comp_def] using hn⟩

theorem x_dictSet {d : Addr} {l : List (Str × Tok × Value)} {n : Nat} {x : Str} {t : Tok} {v : Value} {Q : Unit → Shared → Prop} (ho : s.heap.get? d = some (xd w l n)) (hx : x ∉ l.map (·.1)) (hz : l.length ≤ 100)
    (hQ : ∀ h', h'.get? d = some (xd w (l ++ [(x, t, v)]) (n + 1)) → Heap.SameBut d s.heap h' → Q () { s with heap := h', toks := s.toks + 1 }) :
    wpAny (model prog w) A (dictSet d (.str x t) v) Q E s := by
  unfold dictSet
  try with_reducible refine wpAny_holding ?_
  refine wpAny_bind ((PySem.strKind prog w).pyHash (PySem.strKind_is prog w x t) ?_)
  unfold dictSetHashed
  try with_reducible refine wpAny_holding ?_
  refine wpAny_bind (wpAny_dictFind_of (s := { s with toks := s.toks + 1 }) (PySem.strKind_is prog w x t) ho rfl (xEs_keys l) ?_)
  have hi : ((xEs w l).toArray.findIdx? fun e => (PySem.strKind prog w).is x e.key) = none := by
    refine Array.findIdx?_eq_none_iff.mpr fun e he => ?_
    obtain ⟨p, hp, rfl⟩ := List.mem_map.mp (List.mem_toArray.mp he)
    have : p.1 ≠ x := fun e => hx (List.mem_map.mpr ⟨p, hp, e⟩)
    exact (KeyKind.is_eq_decide (PySem.strKind_is prog w p.1 p.2.1) x).trans (decide_eq_false (Ne.symm this)) 
  rw [hi]
  have hs : (xEs w l).toArray.size ≤ sizeLine := by rw [sizeLine_eq]; simp [xEs]; omega
  refine wpAny_bind (wpAny_rule (wpAny_updateDictKeys (hz := hs) (s := { s with toks := s.toks + 1 }) ho rfl (hQ _ ?_ (Heap.SameBut.update ..))))
  have e := Heap.get?_update_self (a := d) (Obj.mapDictKeys (·.push ⟨(PySem.strKind prog w).hash x, .str x t, v⟩)) ho rfl
  rw [e]
  simp [xd, xEs, Obj.mapDictKeys]
  rfl

theorem x_storeAll {d : Addr} : ∀ (more l : List (Str × Tok × Value)) (n : Nat) (s : Shared) (Q : PUnit → Shared → Prop), s.heap.get? d = some (xd w l n) → ((l ++ more).map (·.1)).Nodup → (l ++ more).length ≤ 100 →
    (∀ h', h'.get? d = some (xd w (l ++ more) (n + more.length)) → Heap.SameBut d s.heap h' → Q PUnit.unit { s with heap := h', toks := s.toks + more.length }) →
    wpAny (model prog w) A (storeAll d (xVals more)) Q E s
  | [], l, n, s, Q, ho, _, _, hQ => by
    unfold storeAll
    show wpAny _ _ (forIn [] PUnit.unit _) Q E s
    rw [List.forIn_nil]
    exact wpAny_pure (by simpa using hQ s.heap (by simpa using ho) (Heap.SameBut.refl _ _))
  | p :: more, l, n, s, Q, ho, hn, hz, hQ => by
    obtain ⟨x, t, v⟩ := p
    unfold storeAll
    show wpAny _ _ (forIn ((.str x t, v) :: xVals more) PUnit.unit _) Q E s
    rw [List.forIn_cons]
    have hx : x ∉ l.map (·.1) := by
      intro h
      rw [List.map_append, List.nodup_append] at hn
      exact hn.2.2 x h x (List.mem_cons_self ..) rfl
    refine wpAny_bind (wpAny_bind (x_dictSet ho hx (by simp at hz; omega) fun h₁ ho₁ hs₁ => wpAny_pure ?_))
    refine x_storeAll more (l ++ [(x, t, v)]) (n + 1) _ Q ho₁ (by simpa using hn) (by simpa using hz) fun h' ho' hs' => ?_
    have := hQ h' (by simpa [Nat.add_assoc, Nat.add_comm 1] using ho') (hs₁.trans hs')
    simpa [Nat.add_assoc, Nat.add_comm 1] using this

end
end Mine
end
section
theorem Mine.fresh_E2 : True := by
  w_top off
  trivial
open PySem PySem.W PyProof.Rows PyProof.V PySem.Spec PySem.Calls
set_option Elab.async false
set_option maxRecDepth 100000
set_option maxHeartbeats 8000000
namespace Mine
section
variable {prog : Program} {w : World} {A : Around} {E : Value → Shared → Prop} {s : Shared}

/-- one item of an items iterator, with the entry's very key -/
theorem x_next {it d : Addr} {i ep : Nat} {es : Array DictEntry} {e : DictEntry} {ok ov : Value} {Q : Option Value → Shared → Prop} (hit : IsItemIter s.heap it d i es.size ep ok ov)
    (ho : s.heap.get? d = some { cls := .type "dict", data := .dict es ep }) (he : es[i]? = some e)
    (hQ : ∀ h', IsItemIterOut h' it d (i + 1) es.size ep e.key e.val s.heap.objs.size →
      h'.get? s.heap.objs.size = some { cls := .type "tuple", data := .seq #[e.key, e.val] } →
      (∀ b o, b ≠ it → s.heap.get? b = some o → h'.get? b = some o) → Q (some (.ref s.heap.objs.size)) { s with heap := h' }) :
    wpAny (model prog w) A (pyNext (.ref it)) Q E s := by
  obtain ⟨hp, g, dr, tk, os⟩ := s
  have hT : Shared.TypeIs ⟨hp, g, dr, tk, os⟩ (.ref it) "dict_itemiterator" := ⟨_, hit, rfl⟩
  have hil : it < hp.objs.size := Heap.lt_size hit
  obtain ⟨hlt, rfl⟩ : ∃ h : i < es.size, es[i] = e := Array.getElem?_eq_some_iff.mp he
  unfold pyNext
  refine wpAny_bind (wpAny_attempt (wpAny_callSpecial?_slot (name := Str.ofString "__next__") hT F.slot_dict_itemiterator_next
    (wpAny_call_entry F.slot_dict_itemiterator_next hT F.entry_dict_itemiterator_next ?_ (F.args_dict_itemiterator_next_1 _))))
  refine wpAny_bind (wpAny_pure ?_)
  refine wpAny_bind ?_
  refine wpAny_bind ?_
  first | refine wpAny_bind (wpAny_typeNameOfWhole_itemiter hT (wpAny_pure ?_)) | refine wpAny_bind (wpAny_typeNameOf_itemiter hT (wpAny_pure ?_))
  refine wpAny_bind (wpAny_fieldsOf hit rfl ?_)
  simp only [show Builtin.Dict_items.ownsTuple "dict_itemiterator" = true by decide, if_true]
  show wpAny _ _ (if (Value.ref d == Value.none) = true then _ else _) _ _ _
  rw [if_neg (show ¬ ((Value.ref d == Value.none) = true) from Bool.false_ne_true)]
  refine wpAny_bind (wpAny_pure ?_)
  refine wpAny_bind (wpAny_dictEntries ho rfl ?_)
  rw [if_neg (by simp)]
  refine wpAny_bind (wpAny_pure ?_)
  refine wpAny_bind (wpAny_dictEpoch ho rfl ?_)
  rw [if_neg (by simp)]
  refine wpAny_pure ?_
  simp only [show ¬ ((i : Int) < 0) from by omega, if_false, Int.toNat_natCast, Array.getElem?_eq_getElem hlt]
  refine wpAny_bind ?_
  first | refine wpAny_bind (wpAny_typeNameOfWhole_itemiter hT (wpAny_pure ?_)) | refine wpAny_bind (wpAny_typeNameOf_itemiter hT (wpAny_pure ?_))
  refine wpAny_bind (wpAny_isOneOf_itemiter hT ?_)
  show wpAny _ _ (setField (.ref it) 3 (rawInt ((i : Int) + 1)) >>= _) _ _ ⟨hp, g, dr, tk, os⟩
  refine wpAny_bind (wpAny_setField_rec hit (by simp) fun h₁ he₁ hs₁ => ?_)
  replace hs₁ : Heap.SameBut it hp h₁ := hs₁
  replace he₁ : IsItemIter h₁ it d (i + 1) es.size ep ok ov := by
    unfold IsItemIter; rw [show ((i + 1 : Nat) : Int) = (i : Int) + 1 by omega]; simpa [rawInt] using he₁
  have hT₁ : Shared.TypeIs ⟨h₁, g, dr, tk, os⟩ (.ref it) "dict_itemiterator" := ⟨_, he₁, rfl⟩
  refine wpAny_bind (wpAny_holding ?_)
  refine wpAny_bind (wpAny_isOneOf_itemiter hT₁ ?_)
  refine wpAny_bind (wpAny_isOneOf_itemiter hT₁ ?_)
  show wpAny _ _ (Builtin.Dict_items.pairFromOwner (.ref it) 6 es[i].key es[i].val) _ _ ⟨h₁, g, dr, tk, os⟩
  unfold Builtin.Dict_items.pairFromOwner
  refine wpAny_bind (wpAny_newTuple ?_)
  have he₂ : IsItemIter (h₁.push { cls := .type "tuple", data := .seq #[es[i].key, es[i].val] }) it d (i + 1) es.size ep ok ov := Heap.get?_push_of_some _ he₁
  have hz₁ : h₁.objs.size = hp.objs.size := hs₁.1
  have ht₂ : (h₁.push { cls := .type "tuple", data := .seq #[es[i].key, es[i].val] }).get? hp.objs.size = some { cls := .type "tuple", data := .seq #[es[i].key, es[i].val] } := by rw [← hz₁]; exact Heap.get?_push_size _ rfl
  have hk₂ : ∀ b o, b ≠ it → hp.get? b = some o → (h₁.push { cls := .type "tuple", data := .seq #[es[i].key, es[i].val] }).get? b = some o := fun b o hb e => Heap.get?_push_of_some _ (hs₁.extBut b o hb e)
  generalize h₁.push { cls := .type "tuple", data := .seq #[es[i].key, es[i].val] } = h₂ at he₂ ht₂ hk₂
  show wpAny _ _ (Builtin.Dict_items.ownedTupleIsFree (.ref it) >>= _) _ _ ⟨h₂, g, dr, tk, os⟩
  rw [hz₁]
  clear he₁ hs₁ hT₁ hz₁ h₁
  refine wpAny_bind ?_
  unfold Builtin.Dict_items.ownedTupleIsFree
  refine wpAny_bind (wpAny_field he₂ rfl (x := .none) rfl (wpAny_pure ?_))
  simp only [if_true]
  refine wpAny_bind (wpAny_field he₂ rfl (x := ok) rfl ?_)
  refine wpAny_bind (wpAny_field he₂ rfl (x := ov) rfl ?_)
  refine wpAny_bind (wpAny_setField_rec he₂ (by simp) fun h₃ he₃ hs₃ => ?_)
  replace hs₃ : Heap.SameBut it h₂ h₃ := hs₃
  replace he₃ : IsItemIter h₃ it d (i + 1) es.size ep es[i].key ov := he₃
  refine wpAny_bind (wpAny_setField_rec he₃ (by simp) fun h₄ he₄ hs₄ => ?_)
  replace hs₄ : Heap.SameBut it h₃ h₄ := hs₄
  replace he₄ : IsItemIter h₄ it d (i + 1) es.size ep es[i].key es[i].val := he₄
  refine wpAny_bind (wpAny_setField_rec he₄ (by simp) fun h₅ he₅ hs₅ => ?_)
  replace hs₅ : Heap.SameBut it h₄ h₅ := hs₅
  replace he₅ : IsItemIterOut h₅ it d (i + 1) es.size ep es[i].key es[i].val hp.objs.size := he₅
  refine wpAny_bind (wpAny_setField_rec he₅ (by simp) fun h₆ he₆ hs₆ => ?_)
  replace hs₆ : Heap.SameBut it h₅ h₆ := hs₆
  replace he₆ : IsItemIterOut h₆ it d (i + 1) es.size ep es[i].key es[i].val hp.objs.size := he₆
  have all : ∀ b o, b ≠ it → h₂.get? b = some o → h₆.get? b = some o := fun b o hb e => hs₆.extBut b o hb (hs₅.extBut b o hb (hs₄.extBut b o hb (hs₃.extBut b o hb e)))
  exact wpAny_bind (wpAny_letGo (wpAny_pure (wpAny_pure ⟨_, rfl, wpAny_pure (hQ h₆ he₆ (all _ _ (Nat.ne_of_gt hil) ht₂) fun b o hb e => all b o hb (hk₂ b o hb e))⟩)))

theorem x_dictAt {h : Heap} {d : Addr} {l : List (Str × Tok × Value)} {n : Nat} (ho : h.get? d = some (xd w l n)) (hn : (l.map (·.1)).Nodup) : h.DictAt (PySem.strKind prog w) d (xKV l) n :=
  ⟨_, _, ho, ⟨rfl, rfl, rfl⟩, rfl, xEs_keys l, xEs_pairs l, by simpa [xKV, Function.comp_def] using hn⟩

/-- the turns over d.items(), with the very keys -/
theorem x_turns {elts : List Expr} {kk : Nat} {pos : Pos} (hh : A.handled = none) (I d : Addr) (hne : d ≠ I) (l : List (Str × Tok × Value)) (ep : Nat) (hn : (l.map (·.1)).Nodup) :
    KTurns prog w A (.Tuple elts kk pos) I [I, d] [I] l.length
      (fun i v h => ∃ T p, v = .ref T ∧ l[i]? = some p ∧ h.IsTuple T #[.str p.1 p.2.1, p.2.2])
      (fun i v h => ∃ T p ok ov, v = .ref T ∧ l[i]? = some p ∧ h.IsTuple T #[.str p.1 p.2.1, p.2.2] ∧ IsItemIterOut h I d (i + 1) l.length ep ok ov T ∧ h.get? d = some (xd w l ep) ∧ T ≠ I)
      (fun i h => (∃ ok ov, IsItemIter h I d i l.length ep ok ov) ∧ h.get? d = some (xd w l ep)) where
  sub := fun b hb => by simp at hb; simp [hb]
  frame := fun i h h' st hk => by
    obtain ⟨⟨ok, ov, he⟩, hm⟩ := st
    exact ⟨⟨ok, ov, hk I (by simp) _ he⟩, hk d (by simp) _ hm⟩
  item := fun i s Q E hi st hQ => by
    obtain ⟨⟨ok, ov, he⟩, hm⟩ := st
    have hsz : (xEs w l).toArray.size = l.length := by simp [xEs]
    refine x_next (es := (xEs w l).toArray) (e := ⟨(hashStr w l[i].1 : Int), .str l[i].1 l[i].2.1, l[i].2.2⟩) (by rw [hsz]; exact he) hm (by simp [xEs, hi]) fun h' ho hT hk => ?_
    rw [hsz] at ho
    exact hQ (.ref s.heap.objs.size) h' s.toks ⟨s.heap.objs.size, l[i], _, _, rfl, by simp [hi], ⟨_, hT, rfl, _, rfl⟩, ho, hk d _ hne hm, Nat.ne_of_gt (Heap.lt_size he)⟩ fun b o hb e => hk b o (fun h => hb (by simp [h])) e
  go := fun i v s Q E hm hQ => by
    obtain ⟨T, p, ok, ov, rfl, hx, hT, ho, hd, hTI⟩ := hm
    refine wpAny_letOwnedTupleGo_items ho fun h' he hs => ?_
    exact hQ h' ⟨T, p, rfl, hx, hT.at fun o e => hs.extBut T o hTI e⟩ ⟨⟨ok, ov, he⟩, hs.extBut d _ hne hd⟩ fun b o hb e => hs.extBut b o (fun h => hb (by simp [h])) e
  done := fun s Q E st hQ => by
    obtain ⟨⟨ok, ov, he⟩, hm⟩ := st
    refine wpAny_pyNext_items_end (knd := PySem.strKind prog w) (kvs := xKV l) hh (by simpa [xKV] using he) (x_dictAt hm hn) (by simp [xKV]) fun h' hx => hQ h' s.toks fun b o hb e => hx b o (fun h => hb (by simp [h])) e

/-- the loop over d.items(): what is left is one turn and the end -/
theorem x_items {env : Env} {h₀ : Heap} {body : List Stmt} {Q : Flow → Shared → Prop} {elts : List Expr} {kk : Nat} {pos : Pos} {d vw : Addr} {l : List (Str × Tok × Value)} {n : Nat} {m₀ : Str → Option Value} {news : List (Addr × Obj)}
    (hh : A.handled = none) (F : Fr h₀ env.locals s.heap m₀) (N : News h₀ env.locals s.heap news) (hvw : ∃ ov, s.heap.get? vw = some ov ∧ ov.cls = .type "dict_items" ∧ ov.data = .fields #[.ref d])
    (ho : s.heap.get? d = some (xd w l n)) (hdL : env.locals ≠ d) (hn : (l.map (·.1)).Nodup) (J : Nat → (Str → Option Value) → List (Addr × Obj) → Prop) (h0 : J 0 m₀ news)
    (step : ∀ I i p m₁ news₁ h₁ tk₁ own T, l[i]? = some p → h₀.get? I = none → I ≠ env.locals → J i m₁ news₁ → (∀ p ∈ news₁, p.1 ∉ [I]) → h₁.IsTuple T #[.str p.1 p.2.1, p.2.2] →
      Fr h₀ env.locals h₁ m₁ → News h₀ env.locals h₁ (own ++ news₁) →
      wpAny (model prog w) A (assign (.Tuple elts kk pos) env (.ref T)) (fun _ s₃ => wpAny (model prog w) A (execs body env)
        (LoopStepV h₀ env.locals [I] own (J (i + 1)) { s with heap := h₁, toks := tk₁ } (fun v s' => Q (.ret v) s') fun s' => Q .next s') E s₃) E { s with heap := h₁, toks := tk₁ })
    (done : ∀ h' tk m' news', Fr h₀ env.locals h' m' → News h₀ env.locals h' news' → J l.length m' news' → Q .next { s with heap := h', toks := tk }) :
    wpAny (model prog w) A (pyIter (.ref vw)) (fun it s₂ => TurnsAt prog w A h₀ env (.Tuple elts kk pos) body Q E it s₂) E s := by
  have hdlt := Heap.lt_size ho
  have hne : d ≠ s.heap.objs.size := Nat.ne_of_lt hdlt
  have hat : s.heap.DictAt (PySem.strKind prog w) d (xKV l) n := x_dictAt ho hn
  refine wpAny_pyIter_items hvw hat ?_
  refine ⟨s.heap.objs.size, [s.heap.objs.size, d], [s.heap.objs.size], l.length, _, _, _, m₀, news, J, rfl, x_turns hh s.heap.objs.size d hne l n hn, ?_, ?_, ?_, ⟨⟨.none, .none, ?_⟩, Heap.get?_push_of_some _ ho⟩, F.push _, (fun p hp => ⟨Heap.get?_push_of_some _ (N p hp).1, (N p hp).2⟩), h0, ?_, ?_⟩
  · intro hI
    have hb' : env.locals = s.heap.objs.size ∨ env.locals = d := by simpa using hI
    rcases hb' with e | e
    · exact absurd F.ns.lt (e ▸ Nat.lt_irrefl _)
    · exact hdL e
  · intro b hb
    rw [List.mem_singleton.mp hb]
    exact next_is_new F
  · intro p hp hI
    exact absurd (Heap.lt_size (N p hp).1) ((List.mem_singleton.mp hI) ▸ Nat.lt_irrefl _)
  · have e : (xKV l).length = l.length := by simp [xKV]
    rw [e]
    exact Heap.get?_push_size _ rfl
  · rintro i v m₁ news₁ h₁ tk₁ own hi ⟨T, p, rfl, hx, hT⟩ hJ ha _ _ _ _ F₁ N₁
    exact step _ i p m₁ news₁ h₁ tk₁ own T hx (next_is_new F) (fun e => absurd F.ns.lt (e ▸ Nat.lt_irrefl _)) hJ ha hT F₁ N₁
  · exact fun h' tk m' news' F' N' _ hJ => done h' tk m' news' F' N' hJ
end
end Mine
end
section
theorem Mine.fresh_E2b : True := by
  w_top off
  trivial
open PySem PySem.W PyProof.Rows PyProof.V PySem.Spec PySem.Calls
set_option Elab.async false
set_option maxRecDepth 100000
set_option maxHeartbeats 8000000
namespace Mine
/-- a pair of a table: what is sought, its token, what is put, its token -/
abbrev Rp := Str × Tok × Str × Tok
abbrev Rp.ent (p : Rp) : Str × Tok × Value := (p.1, p.2.1, .str p.2.2.1 p.2.2.2)
abbrev Rp.rep (x : Str) (p : Rp) : Str := Txt.replace x p.1 p.2.2.1
def RpOk : Str → List Rp → Prop
  | _, [] => True
  | x, p :: r => (p.2.1 ≠ 0 ∧ p.2.2.2 ≠ 0 ∧ p.2.1 ≠ p.2.2.2 ∧ (p.1 == p.2.2.1) = false ∧ x.length + (x.length + 1) * p.2.2.1.length ≤ 16777216) ∧ RpOk (Rp.rep x p) r
theorem RpOk.at : ∀ {l : List Rp} {x : Str} {i : Nat} {p : Rp}, RpOk x l → l[i]? = some p →
    (p.2.1 ≠ 0 ∧ p.2.2.2 ≠ 0 ∧ p.2.1 ≠ p.2.2.2 ∧ (p.1 == p.2.2.1) = false ∧ ((l.take i).foldl Rp.rep x).length + (((l.take i).foldl Rp.rep x).length + 1) * p.2.2.1.length ≤ 16777216)
  | [], _, _, _, _, h => by simp at h
  | q :: r, x, 0, p, ok, h => by
    obtain rfl : q = p := by simpa using h
    exact ok.1
  | q :: r, x, i + 1, p, ok, h => by
    have := RpOk.at ok.2 (i := i) (p := p) (by simpa using h)
    simpa using this
theorem take_rep {l : List Rp} {x : Str} {i : Nat} {p : Rp} (h : l[i]? = some p) : (l.take (i + 1)).foldl Rp.rep x = Rp.rep ((l.take i).foldl Rp.rep x) p := by
  simp [List.take_add_one, h, List.foldl_append]
end Mine
end
section
theorem Mine.fresh_F02p : True := by
  w_top off
  trivial
open PySem PySem.W PyProof.Rows PySem.Spec PySem.Calls PyProof.V
set_option Elab.async false
namespace Mine
end Mine
end
section
theorem Mine.fresh_P6 : True := by
  w_top off
  trivial
open PySem PySem.W PyProof.Rows PySem.Spec PySem.Calls
set_option Elab.async false
set_option maxRecDepth 100000
namespace Mine
theorem slice_from (x : Str) {j : Nat} (h : j ≤ x.length) : (Txt.slice x (some (j : Int)) none).cps.toList = x.cps.toList.drop j := by
  have e := eq_of_beq (slice_closes_fromL (x := x) (i := (j : Int)) (b := x.length) (by omega) (by omega) rfl)
  rw [e]
  show (x.cps.toList.drop (j : Int).toNat).take _ = _
  rw [Int.toNat_natCast]
  refine List.take_of_length_le ?_
  rw [List.length_drop]
  have := toList_len x
  omega
theorem slice_to (x : Str) {j : Nat} (h : j ≤ x.length) : (Txt.slice x none (some (j : Int))).cps.toList = x.cps.toList.take j := by
  have e := eq_of_beq (slice_closes_toL (x := x) (j := (j : Int)) (by omega) (by omega))
  rw [e]
  show (x.cps.toList.drop (0 : Int).toNat).take ((j : Int) - 0).toNat = _
  rw [Int.sub_zero, Int.toNat_natCast]; rfl
end Mine
end
section
theorem Mine.fresh_P21 : True := by
  w_top off
  trivial
open PySem PySem.W PyProof.Rows PySem.Spec PySem.Calls
set_option Elab.async false
set_option maxRecDepth 100000
set_option maxHeartbeats 4000000
namespace Mine
/-- the table of ways, as it lies in the ledger -/
structure Tab (nw : List (Addr × Obj)) (y row : List Nat) (i : Nat) (ws : List Value) (tab : List (List (List Nat))) : Prop where
  wl : ws.length = i + 1
  tl : tab.length = i + 1
  here : ∀ (j : Nat) v, ws[j]? = some v → ∃ l, tab[j]? = some l ∧ l.length ≤ 2 ^ j ∧ 0 < l.length ∧ (∀ x ∈ l, x.length ≤ j) ∧ ListIn nw v l
  best : ∀ j, j ≤ i → Best y row j (tab.getD j [])
theorem Tab.at {nw : List (Addr × Obj)} {y row : List Nat} {i : Nat} {ws : List Value} {tab : List (List (List Nat))} (x : Tab nw y row i ws tab) {j : Nat} (h : j ≤ i) : ∃ v, ws[j]? = some v ∧ (tab.getD j []).length ≤ 2 ^ j ∧ 0 < (tab.getD j []).length ∧ (∀ x ∈ tab.getD j [], x.length ≤ j) ∧ ListIn nw v (tab.getD j []) := by
  have hj : j < ws.length := by rw [x.wl]; omega
  obtain ⟨l, a, b, c, d, f⟩ := x.here j ws[j] (List.getElem?_eq_getElem hj)
  have e : tab.getD j [] = l := by rw [List.getD_eq_getElem?_getD, a]; rfl
  rw [e]
  exact ⟨_, List.getElem?_eq_getElem hj, b, c, d, f⟩
theorem best_zero (y row : List Nat) (hy : 1 ≤ y.length) : Best y row 0 [[]] := by
  intro l
  have e : mx y row 0 = 0 := by unfold mx; rw [List.take_zero]; rfl
  rw [List.mem_singleton, e]
  constructor
  · rintro rfl; exact ⟨trivial, rfl⟩
  · intro h; exact List.length_eq_zero_iff.mp h.2
theorem Tab.start {nw : List (Addr × Obj)} {y row : List Nat} {v : Value} (hy : 1 ≤ y.length) (h : ListIn nw v [[]]) : Tab nw y row 0 [v] [[[]]] :=
  ⟨rfl, rfl, fun j u e => by
    cases j with
    | zero => obtain rfl : v = u := by simpa using e
              exact ⟨[[]], rfl, by decide, by decide, by simp, h⟩
    | succ j => simp at e, fun j hj => by
    obtain rfl : j = 0 := by omega
    exact best_zero y row hy⟩
theorem found_len {y row : List Nat} {tab : List (List (List Nat))} {i : Nat} {nw : List (Addr × Obj)} {ws : List Value} (x : Tab nw y row i ws tab) (hy : 1 ≤ y.length) : (found y row tab (i + 1)).length ≤ 2 ^ (i + 1) ∧ 0 < (found y row tab (i + 1)).length ∧ ∀ l ∈ found y row tab (i + 1), l.length ≤ i + 1 := by
  obtain ⟨_, _, a2, a3, a4, _⟩ := x.at (Nat.le_refl i)
  have ep : 2 ^ (i + 1) = 2 ^ i + 2 ^ i := by rw [Nat.pow_succ]; omega
  unfold found
  rw [Nat.add_sub_cancel]
  by_cases h : y.length ≤ i + 1 ∧ (row.drop (i + 1 - y.length)).take y.length = y
  · rw [if_pos h]
    obtain ⟨_, _, b2, b3, b4, _⟩ := x.at (j := i + 1 - y.length) (by omega)
    have : 2 ^ (i + 1 - y.length) ≤ 2 ^ i := Nat.pow_le_pow_right (by decide) (by omega)
    refine ⟨by rw [List.length_append, List.length_map]; omega, by rw [List.length_append]; omega, fun l hl => ?_⟩
    rcases List.mem_append.mp hl with hl | hl
    · have := a4 l hl; omega
    · obtain ⟨l', hl', rfl⟩ := List.mem_map.mp hl
      have := b4 l' hl'
      rw [List.length_append, List.length_singleton]; omega
  · rw [if_neg h, List.append_nil]
    exact ⟨by omega, a3, fun l hl => by have := a4 l hl; omega⟩
theorem Tab.step {nw nw' : List (Addr × Obj)} {y row : List Nat} {i M : Nat} {ws : List Value} {tab : List (List (List Nat))} {v : Value} (hy : 1 ≤ y.length) (x : Tab nw y row i ws tab) (hs : ∀ p ∈ nw, p ∈ nw') (hm : ∀ l ∈ found y row tab (i + 1), l.length ≤ M) (hm2 : ∃ l ∈ found y row tab (i + 1), l.length = M)
    (h : ListIn nw' v ((found y row tab (i + 1)).filter fun l => l.length == M)) : Tab nw' y row (i + 1) (ws ++ [v]) (tab ++ [(found y row tab (i + 1)).filter fun l => l.length == M]) := by
  obtain ⟨f1, f2, f3⟩ := found_len x hy
  refine ⟨by rw [List.length_append, x.wl]; rfl, by rw [List.length_append, x.tl]; rfl, fun j u e => ?_, fun j hj => ?_⟩
  · rcases Nat.lt_or_ge j (i + 1) with hj | hj
    · rw [List.getElem?_append_left (by rw [x.wl]; exact hj)] at e
      obtain ⟨l, a, b, c, d, f⟩ := x.here j u e
      exact ⟨l, by rw [List.getElem?_append_left (by rw [x.tl]; exact hj)]; exact a, b, c, d, f.mono hs⟩
    · have hj2 : j = i + 1 := by
        have := (List.getElem?_eq_some_iff.mp e).1
        rw [List.length_append, x.wl, List.length_singleton] at this; omega
      subst hj2
      rw [List.getElem?_append_right (by rw [x.wl]; omega), x.wl, Nat.sub_self] at e
      obtain rfl : v = u := by simpa using e
      refine ⟨_, by rw [List.getElem?_append_right (by rw [x.tl]; omega), x.tl, Nat.sub_self]; rfl, Nat.le_trans (List.length_filter_le _ _) f1, ?_, fun l hl => f3 l (List.mem_filter.mp hl).1, h⟩
      obtain ⟨l, hl, hl2⟩ := hm2
      exact List.length_pos_of_mem (List.mem_filter.mpr ⟨hl, by rw [beq_iff_eq]; exact hl2⟩)
  · rcases Nat.lt_or_ge j (i + 1) with hj' | hj'
    · have : (tab ++ [(found y row tab (i + 1)).filter fun l => l.length == M]).getD j [] = tab.getD j [] := by
        rw [List.getD_eq_getElem?_getD, List.getD_eq_getElem?_getD, List.getElem?_append_left (by rw [x.tl]; exact hj')]
      rw [this]; exact x.best j (by omega)
    · obtain rfl : j = i + 1 := by omega
      have : (tab ++ [(found y row tab (i + 1)).filter fun l => l.length == M]).getD (i + 1) [] = (found y row tab (i + 1)).filter fun l => l.length == M := by
        rw [List.getD_eq_getElem?_getD, List.getElem?_append_right (by rw [x.tl]; omega), x.tl, Nat.sub_self]; rfl
      rw [this]; exact best_step hy x.best hm hm2
/-- a cut out of a text -/
theorem slice_mid (x : Str) {a n : Nat} (h : a + n ≤ x.length) : (Txt.slice x (some (a : Int)) (some ((a + n : Nat) : Int))).cps.toList = (x.cps.toList.drop a).take n := by
  have e := eq_of_beq (slice_closesL (x := x) (i := (a : Int)) (j := ((a + n : Nat) : Int)) (by omega) (by omega) (by omega))
  rw [e]
  show (x.cps.toList.drop (a : Int).toNat).take (((a + n : Nat) : Int) - (a : Int)).toNat = _
  rw [Int.toNat_natCast, show (((a + n : Nat) : Int) - (a : Int)) = (n : Int) by omega, Int.toNat_natCast]
theorem str_ext {x y : Str} (h : x.cps.toList = y.cps.toList) : x = y := by
  obtain ⟨x⟩ := x; obtain ⟨y⟩ := y
  simp only at h
  rw [Array.toList_inj.mp h]
theorem cut_eq (x y : Str) {i : Nat} (hi : i + 1 ≤ x.length) : (y.length ≤ i + 1 ∧ Txt.slice x (some (1 + (i : Int) * 1 - (y.length : Int))) (some (1 + (i : Int) * 1)) = y) ↔ (y.cps.toList.length ≤ i + 1 ∧ (x.cps.toList.drop (i + 1 - y.cps.toList.length)).take y.cps.toList.length = y.cps.toList) := by
  have hl : y.cps.toList.length = y.length := by simp [Str.length]
  rw [hl]
  refine and_congr_right fun h => ?_
  have e1 : (1 + (i : Int) * 1 - (y.length : Int)) = ((i + 1 - y.length : Nat) : Int) := by omega
  have e2 : (1 + (i : Int) * 1) = ((i + 1 - y.length + y.length : Nat) : Int) := by omega
  rw [e1, e2]
  have := slice_mid x (a := i + 1 - y.length) (n := y.length) (by omega)
  exact ⟨fun q => by rw [← this, q], fun q => str_ext (by rw [this, q])⟩
end Mine
end
section
theorem Mine.fresh_J08 : True := by
  w_top off
  trivial
open PySem PySem.W PyProof.Rows PySem.Spec PySem.Calls
set_option Elab.async false
set_option maxRecDepth 100000
set_option maxHeartbeats 8000000
namespace Mine
section
variable {w : World} {s : Shared} {h₀ : Heap} {L : Addr} {m : Str → Option Value} {news : List (Addr × Obj)} {p : Program} {loose : List Str} {mean : ExcName → Option Value} {mg mb : Str → Option Value}
  {name qual : Str} {params : Arguments} {body : List Stmt} {scope : Scope} {dV kV doc pm cdv ct oc : Value} {an od : Option Addr} {osl : Array (Option Value)} {oW oR oV oK oZ : Obj}
local macro_rules | `(tactic| walk_at "eval Name") => `(tactic| (k_here; (with_reducible show wpAny _ _ (eval (Expr.Name _ _) (envOfC _ _ _ _ _)) _ _ _); name_kind "local"; k_dflt (refine' nameX_L ?k1 ?k2 ?_; (case k1 => k_asm); (case k2 => first | exact rfl | (repeat (first | assumption | exact if_pos rfl | refine (if_neg (by decide)).trans ?_))); k_whole)))
local macro_rules | `(tactic| walk_at "eval ListComp") => `(tactic| (k_here; k_dflt (refine ListComp_X (_F₀ := by k_asm) (by with_unfolding_all rfl) (by decide) (by rfl) (by decide) (by rfl) ?_)))
local macro_rules | `(tactic| walk_at "pyIter") => `(tactic| fail "stop here")
local macro_rules | `(tactic| walk_at "subscriptTail Name Slice str ref") => `(tactic| (k_here; (refine' slice_rev ?F ?N ?z ?_; (case F => k_asm); (case N => k_asm); (case z => omega)); k_whole; intro h₇ F₇ N₇))
theorem j8 {st : Stmt} {w1 : Nat} {D : Addr} {zs : List Value} {rows : List Str} {y : Str} {t : Tok} {Q : Flow → Shared → Prop} {E : Value → Shared → Prop}
    (KX : (hd03.heap_39 w.params).In h₀) (T : Top p loose mean mg mb h₀)
    (hl : (hd03.heap_39 w.params).lookup 68 = some ⟨oc, od, .func (fnOf name qual params body scope dV kV doc pm an cdv ct), osl⟩) (hb : body[8]? = some st)
    (F : Fr h₀ L s.heap m) (N : News h₀ L s.heap ((L + 1 + 1 + 1 + 1, oR) :: (D, LCg.lst zs) :: news)) (dR : oR.data = .cell (some (.ref D))) (hz : StrsAre zs rows) (hn : rows.length ≤ 11) (hr : ∀ r ∈ rows, r.length = w1 ∧ ∀ c ∈ r.cps.toList, sgR c) (hw7 : w1 ≤ 7)
    (mt : m (Str.ofString "turned") = some (.str y t)) (hy : y.cps.toList = (rows.map fun r => r.cps.toList).flatMap (fun r => 124 :: r.reverse))
    (k : ∀ h' tk, Fr h₀ L h' m → News h₀ L h' ((L + 1 + 1 + 1 + 1, oR) :: (D, LCg.lst zs) :: news) → Q .next { s with heap := h', toks := tk }) :
    wpAny (model PySem.Challenge.rw_kt0002_03.row.prog w) (callerA.deeper (envOfC (Str.ofString "law") scope L 68 cdv)) (exec st (envOfC (Str.ofString "law") scope L 68 cdv)) Q E s := by
  revert KX; k_fill; intro KX
  have e := hl.symm.trans (by k_is)
  cases e
  cases hb
  repeat (first | walk1 | (dsimp only; walk1))
  have hzl := hz.len_eq
  refine' go_list (its := zs.toArray) (R := fun i y => ∃ (r : Str) (t : Tok), rows[i]? = some r ∧ y = Value.str (Str.ofString "|" ++ revS r) t) rfl ?F ?N (Or.inr ⟨LCg.lst zs, .tail _ (.head _), rfl, _, rfl⟩) ?sz ?step ?fin
  case F => k_asm
  case N => k_asm
  case sz => rw [sizeLine_eq, List.size_toArray]; omega
  case step =>
    intro i v I oI C oC Dc ys m₂ h tk E' hi8 hP hoC hv F N off hne
    obtain ⟨r, t, hri, rfl⟩ := strs_at hz (by simpa using hP)
    have hrl := (hr r (List.mem_of_getElem? hri)).1
    have hr9 : r.length ≤ 7 := by omega
    have hv9 : (revS r).length ≤ 7 := by rw [revS_len]; exact hr9
    dsimp only
    repeat (first | walk1 | (dsimp only; walk1))
    · k_asm
    · exact ⟨by k_asm, r, _, hri, rfl⟩
  case fin =>
    intro g5 ys hyl hys
    have hss := strs_mapS (fun r => Str.ofString "|" ++ revS r) (rows := rows) (by rw [hyl, List.size_toArray, hzl]) hys
    have hj := join_flat (fun r => Str.ofString "|" ++ revS r) (fun r => 124 :: r.reverse) (fun r => by rw [Str.cps_append, Array.toList_append]; rfl) rows
    have hsl := sum_len (fun r => Str.ofString "|" ++ revS r) 8 (rows := rows) (fun r hr9 => by
      have := (hr r hr9).1
      show (Str.ofString "|" ++ revS r).cps.size ≤ 8
      rw [Str.cps_append, Array.size_append]
      have e : (Str.ofString "|").cps.size = 1 := by decide
      have e2 : (revS r).cps.size = r.length := revS_len r
      omega)
    unfold LCg.FinE
    intro D2 h2 tk2 F2 N2 o2
    repeat (first | walk1 | (dsimp only; walk1))
    refine' join_listW (lst_at N2 (.head _)) (by simpa using hss) (by decide) ?wt ?_
    case wt => rw [List.length_map]; omega
    intro t7 k7
    have hxy : Txt.join (Str.ofString "") (rows.map fun r => Str.ofString "|" ++ revS r) = y := str_ext (by rw [hj, hy])
    rw [hxy]
    repeat (first | walk1 | (dsimp only; walk1))
    · rename ((_ : Str) != _) = true => hc
      exact absurd hc (by simp)
    · exact wpAny_execs_nil (k _ _ F2 fun q hq => N2 q (.tail _ hq))
end
end Mine
end
section
theorem Mine.fresh_R03 : True := by
  w_top off
  trivial
open PySem PySem.W PyProof.Rows PySem.Spec PySem.Calls
set_option Elab.async false
set_option maxRecDepth 100000
set_option maxHeartbeats 8000000
namespace Mine
section
variable {w : World} {A A₀ : Around} {s : Shared} {base h₀ : Heap} {outer : List Env} {L : Addr} {env : Env} {m : Str → Option Value} {news : List (Addr × Obj)} {p : Program} {loose : List Str} {mean : ExcName → Option Value} {mg mb : Str → Option Value}
local macro_rules | `(tactic| walk_at "eval Name") => `(tactic| (k_here; k_dflt (refine' ld ?k1 ?k2 ?_; (case k1 => k_asm); (case k2 => first | exact rfl | (repeat (first | assumption | exact if_pos rfl | refine (if_neg (by decide)).trans ?_))); k_whole)))
theorem drepl03 {x : Str} {t : Tok} {d : Addr} {l : List Rp} {n : Nat} {Q E : Value → Shared → Prop}
    (B : Below A₀ base outer h₀) (F : Fr h₀ L s.heap m) (KX : (hd03.heap_39 w.params).In h₀) (N : News h₀ L s.heap news) (T : Top p loose mean mg mb h₀) (hA : A.frames = some (env :: outer)) (hf : env.frame = some L) (hke : env.scope.kind = .function)
    (hroom : A.depth < recursionLimit) (hh : A.handled = none)
    (hd : (d, xd w (l.map Rp.ent) n) ∈ news) (hds : (d == sysModules) = false) (hn : (l.map (·.1)).Nodup) (ok : RpOk x l)
    (k : ∀ t' h' tk, Fr h₀ L h' m → News h₀ L h' news → Q (.str (l.foldl Rp.rep x) t') { s with heap := h', toks := tk }) :
    wpAny (model PySem.Challenge.rw_kt0002_03.row.prog w) A (call (.ref 21) [.str x t, .ref d]) Q E s := by
  revert KX; k_fill; intro KX
  have hn' : ((l.map Rp.ent).map (·.1)).Nodup := by simpa [Function.comp_def] using hn
  refine wpAny_call ?_
  refine' code_def (binds := [(Str.ofString "s", .str x t), (Str.ofString "d", .ref d)]) B F KX N T hA hf hke ?k6 ?k7 hroom ?k9 ?kB ?_ ?c2 ?c3 ?c4 ?c5
  case k6 => k_is
  case k7 => k_is
  case k9 => exact BindsTo.of_eq rfl
  case kB => exact locs rfl
  case c2 => exact rfl
  case c3 => exact rfl
  case c4 => exact rfl
  case c5 => decide
  k_whole
  intro g L' h₁ FG F' N' B' KX' T'
  refine wpAny_mono (E := fun _ _ => False) ?_ (fun _ _ x => x) (fun _ _ x => x.elim)
  refine wpAny_execs_cons ?_
  (with_unfolding_all refine' For_turns F' ?_)
  k_whole
  refine MethodCall_ ?_
  refine ld F' (by rfl) ?_
  refine kdl_method (knd := PySem.strKind _ _) PySem.F.slot_dict_items PySem.F.type_dict_items N' hd (xd_isDict _ hn') ?_
  refine callWith_method0 ?_
  refine kta_callItems (knd := PySem.strKind _ _) F' N' hd (xd_isDict _ hn') hds ?_
  intro h' hv' F₂ N₂
  refine x_items (n := n) hh F₂ N₂ hv' (N₂ _ hd).1 (Ne.symm (N₂ _ hd).2.1) hn' (fun i m' nw => (∃ t', m' (Str.ofString "s") = some (.str ((l.take i).foldl Rp.rep x) t')) ∧ nw = news) ⟨⟨t, rfl⟩, rfl⟩ ?step ?done
  case done =>
    rintro h' tk m' news' F₃ N₃ ⟨⟨t', e⟩, rfl⟩
    rw [List.length_map, show l.take l.length = l from List.take_length] at e
    repeat (first | walk1 | (dsimp only; walk1))
    exact k _ _ _ (by k_asm) (by k_asm)
  case step =>
    clear F₂ N₂ hv'
    rintro I i p m₁ news₁ h₁ tk₁ own T hp hI hIL ⟨⟨t', e⟩, rfl⟩ ap hT F₁ N₁
    obtain ⟨q, hq, rfl⟩ : ∃ q, l[i]? = some q ∧ Rp.ent q = p := by simpa using hp
    have okq := ok.at hq
    refine unpackN_ F₁ N₁ hT hh rfl rfl ?_
    intro h₂ F₂ N₂
    show wpAny _ _ (assignInOrder _ [Value.str q.1 q.2.1, Value.str q.2.2.1 q.2.2.2]) _ _ _
    repeat (first | walk1 | (dsimp only; walk1))
    refine SC.replace okq.1 okq.2.1 okq.2.2.1 okq.2.2.2.1 okq.2.2.2.2 (fun t'' k' => ?_)
    repeat (first | walk1 | (dsimp only; walk1))
    rename Fr _ _ _ _ => F₃
    rename News _ _ _ _ => N₃
    refine LoopStepU.intro F₃ N₃ ap ⟨⟨t'', ?_⟩, rfl⟩
    rw [take_rep hq]
    exact if_pos rfl
end
end Mine
end
section
theorem Mine.fresh_U03 : True := by
  w_top off
  trivial
open PySem PySem.W PyProof.Rows PySem.Spec PySem.Calls
set_option Elab.async false
set_option maxRecDepth 100000
set_option maxHeartbeats 8000000
namespace Mine
section
variable {w : World} {A A₀ : Around} {s : Shared} {base h₀ : Heap} {outer : List Env} {L : Addr} {env : Env} {m : Str → Option Value} {news : List (Addr × Obj)} {p : Program} {loose : List Str} {mean : ExcName → Option Value} {mg mb : Str → Option Value}
local macro_rules | `(tactic| walk_at "eval Name") => `(tactic| (k_here; k_dflt (refine' ld ?k1 ?k2 ?_; (case k1 => k_asm); (case k2 => first | exact rfl | (repeat (first | assumption | exact if_pos rfl | refine (if_neg (by decide)).trans ?_))); k_whole)))
local macro_rules | `(tactic| walk_at "execs cons") => `(tactic| (k_here; (with_reducible refine execs_tok 1 (by first | assumption | (dsimp only; omega)) ?_); (try dsimp only)))
local macro_rules | `(tactic| walk_at "forall") => `(tactic| (intro ht'; (with_reducible change 1 ≤ _ at ht'); (try dsimp only at ht')))
theorem escape03 {x : Str} {t : Tok} {d : Addr} {l : List Rp} {n : Nat} {Q E : Value → Shared → Prop}
    (B : Below A₀ base outer h₀) (F : Fr h₀ L s.heap m) (KX : (hd03.heap_39 w.params).In h₀) (N : News h₀ L s.heap news) (T : Top p loose mean mg mb h₀) (hA : A.frames = some (env :: outer)) (hf : env.frame = some L) (hke : env.scope.kind = .function)
    (hroom : A.depth + 1 < recursionLimit) (hh : A.handled = none)
    (hd : (d, xd w (l.map Rp.ent) n) ∈ news) (hds : (d == sysModules) = false) (hn : (l.map (·.1)).Nodup) (hl : l ≠ []) (hlz : l.length ≤ 100) (hx : x.length ≤ 1000) (ht : 1 ≤ s.toks) (ok : RpOk (escT x) l)
    (k : ∀ t' h' tk, Fr h₀ L h' m → News h₀ L h' news → Q (.str (l.foldl Rp.rep (escT x)) t') { s with heap := h', toks := tk }) :
    wpAny (model PySem.Challenge.rw_kt0002_03.row.prog w) A (call (.ref 30) [.str x t, .ref d]) Q E s := by
  revert KX; k_fill; intro KX
  have hn' : ((l.map Rp.ent).map (·.1)).Nodup := by simpa [Function.comp_def] using hn
  have hdd := xd_isDict (prog := PySem.Challenge.rw_kt0002_03.row.prog) (w := w) n hn'
  refine wpAny_call ?_
  refine' code_def (binds := [(Str.ofString "data", .str x t), (Str.ofString "entities", .ref d)]) B F KX N T hA hf hke ?k6 ?k7 (by omega) ?k9 ?kB ?_ ?c2 ?c3 ?c4 ?c5
  case k6 => k_is
  case k7 => k_is
  case k9 => exact binds_K (by k_in) rfl (by k_is) rfl rfl rfl
  case kB => exact locs rfl
  case c2 => exact rfl
  case c3 => exact rfl
  case c4 => exact rfl
  case c5 => decide
  k_whole
  intro g L' h₁ FG F' N' B' KX' T'
  refine wpAny_mono (E := fun _ _ => False) ?_ (fun _ _ x => x) (fun _ _ x => x.elim)
  have l1 : (Txt.replace x (Str.ofString "&") (Str.ofString "&amp;")).length ≤ 6005 := Nat.le_trans (rep_len _ _ _ (by decide)) (by rw [show (Str.ofString "&amp;").length = 5 by decide]; omega)
  have l2 : (Txt.replace (Txt.replace x (Str.ofString "&") (Str.ofString "&amp;")) (Str.ofString ">") (Str.ofString "&gt;")).length ≤ 30029 := Nat.le_trans (rep_len _ _ _ (by decide)) (by rw [show (Str.ofString "&gt;").length = 4 by decide]; omega)
  repeat (first | walk1 | (dsimp only; walk1))
  have hne : (!(xKV (l.map Rp.ent)).isEmpty) = true := by cases l with | nil => exact absurd rfl hl | cons _ _ => rfl
  have hfit : ((xKV (l.map Rp.ent)).length : Int) < 2 ^ 63 := by simp [xKV]; omega
  refine wpAny_truthy_dict (knd := PySem.strKind _ _) hds (kda_dict (by k_asm) hd hdd) hfit ?_
  rw [if_pos hne]
  repeat (first | walk1 | (dsimp only; walk1))
  rename Fr _ _ _ _ => F₅
  rename News _ _ _ _ => N₅
  refine' drepl03 B' F₅ KX' N₅ T' ?kA ?kb ?kc hroom hh hd hds hn ok ?_
  case kA => exact congrArg (Option.map (_ :: ·)) hA
  case kb => exact rfl
  case kc => exact rfl
  intro t5 h5 k5 F₆ N₆
  clear F₅ N₅
  repeat (first | walk1 | (dsimp only; walk1))
  exact k _ _ _ (by k_asm) (by k_asm)
theorem unescape03 {x : Str} {t : Tok} {d : Addr} {l : List Rp} {n : Nat} {Q E : Value → Shared → Prop}
    (B : Below A₀ base outer h₀) (F : Fr h₀ L s.heap m) (KX : (hd03.heap_39 w.params).In h₀) (N : News h₀ L s.heap news) (T : Top p loose mean mg mb h₀) (hA : A.frames = some (env :: outer)) (hf : env.frame = some L) (hke : env.scope.kind = .function)
    (hroom : A.depth + 1 < recursionLimit) (hh : A.handled = none)
    (hd : (d, xd w (l.map Rp.ent) n) ∈ news) (hds : (d == sysModules) = false) (hn : (l.map (·.1)).Nodup) (hl : l ≠ []) (hlz : l.length ≤ 100) (hx : x.length ≤ 100000) (hx2 : (l.foldl Rp.rep (unT x)).length ≤ 1000000) (ht : 1 ≤ s.toks) (ok : RpOk (unT x) l)
    (k : ∀ t' h' tk, Fr h₀ L h' m → News h₀ L h' news → Q (.str (ampT (l.foldl Rp.rep (unT x))) t') { s with heap := h', toks := tk }) :
    wpAny (model PySem.Challenge.rw_kt0002_03.row.prog w) A (call (.ref 39) [.str x t, .ref d]) Q E s := by
  revert KX; k_fill; intro KX
  have hn' : ((l.map Rp.ent).map (·.1)).Nodup := by simpa [Function.comp_def] using hn
  have hdd := xd_isDict (prog := PySem.Challenge.rw_kt0002_03.row.prog) (w := w) n hn'
  refine wpAny_call ?_
  refine' code_def (binds := [(Str.ofString "data", .str x t), (Str.ofString "entities", .ref d)]) B F KX N T hA hf hke ?k6 ?k7 (by omega) ?k9 ?kB ?_ ?c2 ?c3 ?c4 ?c5
  case k6 => k_is
  case k7 => k_is
  case k9 => exact binds_K (by k_in) rfl (by k_is) rfl rfl rfl
  case kB => exact locs rfl
  case c2 => exact rfl
  case c3 => exact rfl
  case c4 => exact rfl
  case c5 => decide
  k_whole
  intro g L' h₁ FG F' N' B' KX' T'
  refine wpAny_mono (E := fun _ _ => False) ?_ (fun _ _ x => x) (fun _ _ x => x.elim)
  have l1 : (Txt.replace x (Str.ofString "&lt;") (Str.ofString "<")).length ≤ 200001 := Nat.le_trans (rep_len _ _ _ (by decide)) (by rw [show (Str.ofString "<").length = 1 by decide]; omega)
  have l2 : (Txt.replace (Txt.replace x (Str.ofString "&lt;") (Str.ofString "<")) (Str.ofString "&gt;") (Str.ofString ">")).length ≤ 400003 := Nat.le_trans (rep_len _ _ _ (by decide)) (by rw [show (Str.ofString ">").length = 1 by decide]; omega)
  have l3 : (l.foldl Rp.rep (Txt.replace (Txt.replace x (Str.ofString "&lt;") (Str.ofString "<")) (Str.ofString "&gt;") (Str.ofString ">"))).length ≤ 1000000 := hx2
  repeat (first | walk1 | (dsimp only; walk1))
  have hne : (!(xKV (l.map Rp.ent)).isEmpty) = true := by cases l with | nil => exact absurd rfl hl | cons _ _ => rfl
  have hfit : ((xKV (l.map Rp.ent)).length : Int) < 2 ^ 63 := by simp [xKV]; omega
  refine wpAny_truthy_dict (knd := PySem.strKind _ _) hds (kda_dict (by k_asm) hd hdd) hfit ?_
  rw [if_pos hne]
  repeat (first | walk1 | (dsimp only; walk1))
  rename Fr _ _ _ _ => F₅
  rename News _ _ _ _ => N₅
  refine' drepl03 B' F₅ KX' N₅ T' ?kA ?kb ?kc hroom hh hd hds hn ok ?_
  case kA => exact congrArg (Option.map (_ :: ·)) hA
  case kb => exact rfl
  case kc => exact rfl
  intro t5 h5 k5 F₆ N₆
  clear F₅ N₅
  repeat (first | walk1 | (dsimp only; walk1))
  refine SC.replaceW (by show @Ne Nat _ _; omega) (by show @Ne Nat _ _; omega) (by show @Ne Nat _ _; omega) (by decide) (by omega) (by decide) (fun t6 k6 => ?_)
  repeat (first | walk1 | (dsimp only; walk1))
  exact k _ _ _ (by k_asm) (by k_asm)
end
end Mine
end
section
theorem Mine.fresh_E5 : True := by
  w_top off
  trivial
open PySem PySem.W PyProof.Rows PyProof.V PySem.Spec PySem.Calls
set_option Elab.async false
set_option maxRecDepth 100000
set_option maxHeartbeats 8000000
namespace Mine
section
variable {prog : Program} {w : World} {A : Around} {E : Value → Shared → Prop} {s : Shared} {h₀ : Heap} {L : Addr} {m : Str → Option Value} {news : List (Addr × Obj)} {env : Env}
/-- what a display of one pair asks of its two texts -/
def Pair1 (w : World) (h₀ : Heap) (L : Addr) (m : Str → Option Value) (news : List (Addr × Obj)) (D : Addr) (Q : Value → Shared → Prop) (kv vv : Value) (s₂ : Shared) : Prop :=
  ∃ kx kt vx vt, kv = .str kx kt ∧ vv = .str vx vt ∧ Fr h₀ L s₂.heap m ∧ News h₀ L s₂.heap ((D, xd w [] 0) :: news) ∧ ∀ h', Fr h₀ L h' m → News h₀ L h' ((D, xd w [(kx, kt, .str vx vt)] 1) :: news) → Q (.ref D) { s₂ with heap := h', toks := s₂.toks + 1 }
/-- a display of one pair of texts -/
theorem dict1g {ke ve : Expr} {pos : Pos} {Q : Value → Shared → Prop} (F : Fr h₀ L s.heap m) (N : News h₀ L s.heap news) (hbig : h₀.NoLimit)
    (h : ∀ h1 D, Fr h₀ L h1 m → News h₀ L h1 ((D, xd w [] 0) :: news) → (∀ p ∈ news, p.1 < D) → (D == sysModules) = false →
      wpAny (model prog w) A (eval ke env) (fun kv s₁ => wpAny (model prog w) A (eval ve env) (fun vv s₂ => Pair1 w h₀ L m news D Q kv vv s₂) E s₁) E { s with heap := h1 }) :
    wpAny (model prog w) A (eval (.Dict [some ke] [ve] pos) env) Q E s := by
  refine wpAny_Dict_any rfl rfl (by simp) (by simp) (pairTrees_cons_walk ?_)
  have F1 := F.push { cls := .type "dict", data := .dict #[] }
  have N1 : News h₀ L (s.heap.push { cls := .type "dict", data := .dict #[] }) ((s.heap.objs.size, xd w [] 0) :: news) := News.push F N _
  have hlt : ∀ p ∈ news, p.1 < s.heap.objs.size := fun p hp => Heap.lt_size (N p hp).1
  have hs9 := F.notModules (modules_low hbig)
  refine wpAny_mono (h _ s.heap.objs.size F1 N1 hlt hs9) (fun kv s1 h1 => wpAny_mono h1 (fun vv s2 h2 => ?_) fun _ _ e => e) fun _ _ e => e
  obtain ⟨kx, kt, vx, vt, rfl, rfl, F2, N2, k⟩ := h2
  refine pairTrees_nil_walk ?_
  refine x_storeAll [(kx, kt, .str vx vt)] [] 0 _ _ (N2 _ (.head _)).1 (by simp) (by simp) fun h' ho' hs' => ?_
  have hD := (N2 _ (.head _)).2
  refine k h' (F2.change hs' hD.1 hD.2) fun p hp => ?_
  rcases List.mem_cons.mp hp with rfl | hp
  · exact ⟨ho', hD⟩
  · exact ⟨(hs'.2 _ (Nat.ne_of_lt (hlt p hp))).trans (N2 p (.tail _ hp)).1, (N2 p (.tail _ hp)).2⟩
end
end Mine
end
section
theorem Mine.fresh_J09 : True := by
  w_top off
  trivial
open PySem PySem.W PyProof.Rows PySem.Spec PySem.Calls
set_option Elab.async false
set_option maxRecDepth 100000
set_option maxHeartbeats 8000000
namespace Mine
section
variable {w : World} {s : Shared} {h₀ : Heap} {L : Addr} {m : Str → Option Value} {news : List (Addr × Obj)} {p : Program} {loose : List Str} {mean : ExcName → Option Value} {mg mb : Str → Option Value}
  {name qual : Str} {params : Arguments} {body : List Stmt} {scope : Scope} {dV kV doc pm cdv ct oc : Value} {an od : Option Addr} {osl : Array (Option Value)} {oW oR oV oK oZ : Obj}
local macro_rules | `(tactic| walk_at "eval Name") => `(tactic| (k_here; (with_reducible show wpAny _ _ (eval (Expr.Name _ _) (envOfC _ _ _ _ _)) _ _ _); name_kind "local"; k_dflt (refine' nameX_L ?k1 ?k2 ?_; (case k1 => k_asm); (case k2 => first | exact rfl | (repeat (first | assumption | exact if_pos rfl | refine (if_neg (by decide)).trans ?_))); k_whole)))
local macro_rules | `(tactic| walk_at "eval ListComp") => `(tactic| (k_here; k_dflt (refine ListComp_X (_F₀ := by k_asm) (by with_unfolding_all rfl) (by decide) (by rfl) (by decide) (by rfl) ?_)))
local macro_rules | `(tactic| walk_at "pyIter") => `(tactic| fail "stop here")
local macro_rules | `(tactic| walk_at "eval Dict") => `(tactic| (k_here; (with_reducible rename Fr _ _ _ _ => kF₉); (with_reducible rename News _ _ _ _ => kN₉); (refine' dict1g kF₉ kN₉ ?hbig ?_; (case hbig => assumption)); clear kF₉ kN₉; k_whole; intro h₇ D₇ F₇ N₇ lt₇ hs₇))
theorem escT_len {x : Str} (h : x.length ≤ 1000) : (escT x).length ≤ 150149 := by
  have l1 : (Txt.replace x (Str.ofString "&") (Str.ofString "&amp;")).length ≤ 6005 := Nat.le_trans (rep_len _ _ _ (by decide)) (by rw [show (Str.ofString "&amp;").length = 5 by decide]; omega)
  have l2 : (Txt.replace (Txt.replace x (Str.ofString "&") (Str.ofString "&amp;")) (Str.ofString ">") (Str.ofString "&gt;")).length ≤ 30029 := Nat.le_trans (rep_len _ _ _ (by decide)) (by rw [show (Str.ofString "&gt;").length = 4 by decide]; omega)
  exact Nat.le_trans (rep_len _ _ _ (by decide)) (by rw [show (Str.ofString "&lt;").length = 4 by decide]; omega)
theorem ok1 {y key val : Str} {tK tV : Nat} (hk1 : 1 ≤ tK) (hkv : tK < tV) (hne : (key == val) = false) (hv : val.length ≤ 3) (hy : y.length ≤ 200000) : RpOk y [(key, tK, val, tV)] := by
  refine ⟨⟨by show @Ne Nat tK 0; omega, by show @Ne Nat tV 0; omega, by show @Ne Nat tK tV; omega, hne, ?_⟩, trivial⟩
  have : (y.length + 1) * val.length ≤ (y.length + 1) * 3 := Nat.mul_le_mul_left _ hv
  show y.length + (y.length + 1) * val.length ≤ 16777216
  omega
theorem j9 {st : Stmt} {x key val : Str} {tx : Tok} {tK tV : Nat} {Q : Flow → Shared → Prop} {E : Value → Shared → Prop}
    (KX : (hd03.heap_39 w.params).In h₀) (T : Top p loose mean mg mb h₀)
    (hl : (hd03.heap_39 w.params).lookup 68 = some ⟨oc, od, .func (fnOf name qual params body scope dV kV doc pm an cdv ct), osl⟩) (hb : body[9]? = some st)
    (F : Fr h₀ L s.heap m) (N : News h₀ L s.heap ((L + 1 + 1 + 1, oV) :: (L + 1 + 1, oK) :: news)) (dV' : oV.data = .cell (some (.str val tV))) (dK : oK.data = .cell (some (.str key tK))) (mt : m (Str.ofString "text") = some (.str x tx)) (ht : 1 ≤ s.toks)
    (hz : x.length ≤ 1000) (hk1 : 1 ≤ tK) (hkv : tK < tV) (hne : (key == val) = false) (hv : val.length ≤ 3)
    (k : ∀ h' tk t, Fr h₀ L h' (fun z => if z = Str.ofString "written" then some (.str (Txt.replace (escT x) key val) t) else m z) → News h₀ L h' ((L + 1 + 1 + 1, oV) :: (L + 1 + 1, oK) :: news) → Q .next { s with heap := h', toks := tk }) :
    wpAny (model PySem.Challenge.rw_kt0002_03.row.prog w) (callerA.deeper (envOfC (Str.ofString "law") scope L 68 cdv)) (exec st (envOfC (Str.ofString "law") scope L 68 cdv)) Q E s := by
  revert KX; k_fill; intro KX
  have e := hl.symm.trans (by k_is)
  cases e
  cases hb
  have hnl := T.nolimit
  repeat (first | walk1 | (dsimp only; walk1))
  rename_i h7 D7 F7 N7 lt7 hs7
  refine ⟨key, tK, val, tV, rfl, rfl, F7, N7, fun h8 F8 N8 => ?_⟩
  clear F7 N7
  repeat (first | walk1 | (dsimp only; walk1))
  refine' escape03 (l := [(key, tK, val, tV)]) (n := 1) (below_caller h₀) F8 KX N8 T ?hA ?hf ?hke ?hr rfl ?hd hs7 (by simp) (by simp) (by simp) hz ?ht (ok1 hk1 hkv hne hv (by have := escT_len hz; omega)) ?_
  case hA => exact rfl
  case hf => exact rfl
  case hke => exact rfl
  case hr => show (callerA.depth + 1 + 1 : Nat) < recursionLimit; decide
  case hd => exact .head _
  case ht => exact Nat.le_add_left 1 _
  intro t' h' tk' F₆ N₆
  clear N8 F8
  show wpAny _ _ (storeName _ _ _) _ _ _
  refine storeX_L F₆ N₆ (fun h9 F9 N9 => ?_)
  exact k _ _ t' F9 (fun q hq => N9 q (.tail _ hq))
end
end Mine
end
section
theorem Mine.fresh_J10 : True := by
  w_top off
  trivial
open PySem PySem.W PyProof.Rows PySem.Spec PySem.Calls
set_option Elab.async false
set_option maxRecDepth 100000
set_option maxHeartbeats 8000000
namespace Mine
section
variable {w : World} {s : Shared} {h₀ : Heap} {L : Addr} {m : Str → Option Value} {news : List (Addr × Obj)} {p : Program} {loose : List Str} {mean : ExcName → Option Value} {mg mb : Str → Option Value}
  {name qual : Str} {params : Arguments} {body : List Stmt} {scope : Scope} {dV kV doc pm cdv ct oc : Value} {an od : Option Addr} {osl : Array (Option Value)} {oW oR oV oK oZ : Obj}
local macro_rules | `(tactic| walk_at "eval Name") => `(tactic| (k_here; (with_reducible show wpAny _ _ (eval (Expr.Name _ _) (envOfC _ _ _ _ _)) _ _ _); name_kind "local"; k_dflt (refine' nameX_L ?k1 ?k2 ?_; (case k1 => k_asm); (case k2 => first | exact rfl | (repeat (first | assumption | exact if_pos rfl | refine (if_neg (by decide)).trans ?_))); k_whole)))
local macro_rules | `(tactic| walk_at "eval ListComp") => `(tactic| (k_here; k_dflt (refine ListComp_X (_F₀ := by k_asm) (by with_unfolding_all rfl) (by decide) (by rfl) (by decide) (by rfl) ?_)))
local macro_rules | `(tactic| walk_at "pyIter") => `(tactic| fail "stop here")
local macro_rules | `(tactic| walk_at "eval Dict") => `(tactic| (k_here; (with_reducible rename Fr _ _ _ _ => kF₉); (with_reducible rename News _ _ _ _ => kN₉); (refine' dict1g kF₉ kN₉ ?hbig ?_; (case hbig => assumption)); clear kF₉ kN₉; k_whole; intro h₇ D₇ F₇ N₇ lt₇ hs₇))
local macro_rules | `(tactic| walk_at "subscriptTail Name Slice str ref") => `(tactic| (k_here; (refine' slice_rev ?F ?N ?z ?_; (case F => k_asm); (case N => k_asm); (case z => omega)); k_whole; intro h₇ F₇ N₇))
theorem j10 {st : Stmt} {x key val : Str} {tx : Tok} {tK tV : Nat} {Q : Flow → Shared → Prop} {E : Value → Shared → Prop}
    (KX : (hd03.heap_39 w.params).In h₀) (T : Top p loose mean mg mb h₀)
    (hl : (hd03.heap_39 w.params).lookup 68 = some ⟨oc, od, .func (fnOf name qual params body scope dV kV doc pm an cdv ct), osl⟩) (hb : body[10]? = some st)
    (F : Fr h₀ L s.heap m) (N : News h₀ L s.heap ((L + 1 + 1 + 1, oV) :: (L + 1 + 1, oK) :: news)) (dV' : oV.data = .cell (some (.str val tV))) (dK : oK.data = .cell (some (.str key tK))) (mt : m (Str.ofString "turned") = some (.str x tx)) (ht : 1 ≤ s.toks)
    (hz : x.length ≤ 1000) (hne : (revS key == revS val) = false) (hv : val.length ≤ 3) (hk : key.length ≤ 3)
    (k : ∀ h' tk t, Fr h₀ L h' (fun z => if z = Str.ofString "mirrored" then some (.str (Txt.replace (escT x) (revS key) (revS val)) t) else m z) → News h₀ L h' ((L + 1 + 1 + 1, oV) :: (L + 1 + 1, oK) :: news) → Q .next { s with heap := h', toks := tk }) :
    wpAny (model PySem.Challenge.rw_kt0002_03.row.prog w) (callerA.deeper (envOfC (Str.ofString "law") scope L 68 cdv)) (exec st (envOfC (Str.ofString "law") scope L 68 cdv)) Q E s := by
  revert KX; k_fill; intro KX
  have e := hl.symm.trans (by k_is)
  cases e
  cases hb
  have hnl := T.nolimit
  repeat (first | walk1 | (dsimp only; walk1))
  rename_i h7 D7 _ _ lt7 hs7 _ _ _ h9 F9 N9
  dsimp only
  refine ⟨revS key, _, revS val, _, rfl, rfl, F9, N9, fun h8 F8 N8 => ?_⟩
  clear F9 N9
  repeat (first | walk1 | (dsimp only; walk1))
  generalize htk : s.toks + 1 + 1 = tK' at N8
  have hk0 : 1 ≤ tK' := by omega
  refine' escape03 (l := [(revS key, tK', revS val, tK' + 1 + 1 + 1)]) (n := 1) (below_caller h₀) F8 KX N8 T ?hA ?hf ?hke ?hr rfl ?hd hs7 (by simp) (by simp) (by simp) hz ?ht (ok1 hk0 (by omega) hne (by rw [revS_len]; exact hv) (by have := escT_len hz; omega)) ?_
  case hA => exact rfl
  case hf => exact rfl
  case hke => exact rfl
  case hr => show (callerA.depth + 1 + 1 : Nat) < recursionLimit; decide
  case hd => exact .head _
  case ht => exact Nat.le_add_left 1 _
  intro t' h' tk' F₆ N₆
  clear N8 F8
  show wpAny _ _ (storeName _ _ _) _ _ _
  refine storeX_L F₆ N₆ (fun h9 F9 N9 => ?_)
  exact k _ _ t' F9 (fun q hq => N9 q (.tail _ hq))
end
end Mine
end
section
theorem Mine.fresh_J11 : True := by
  w_top off
  trivial
open PySem PySem.W PyProof.Rows PySem.Spec PySem.Calls
set_option Elab.async false
set_option maxRecDepth 100000
set_option maxHeartbeats 8000000
namespace Mine
section
variable {w : World} {s : Shared} {h₀ : Heap} {L : Addr} {m : Str → Option Value} {news : List (Addr × Obj)} {p : Program} {loose : List Str} {mean : ExcName → Option Value} {mg mb : Str → Option Value}
  {name qual : Str} {params : Arguments} {body : List Stmt} {scope : Scope} {dV kV doc pm cdv ct oc : Value} {an od : Option Addr} {osl : Array (Option Value)} {oW oR oV oK oZ : Obj}
local macro_rules | `(tactic| walk_at "eval Name") => `(tactic| (k_here; (with_reducible show wpAny _ _ (eval (Expr.Name _ _) (envOfC _ _ _ _ _)) _ _ _); name_kind "local"; k_dflt (refine' nameX_L ?k1 ?k2 ?_; (case k1 => k_asm); (case k2 => first | exact rfl | (repeat (first | assumption | exact if_pos rfl | refine (if_neg (by decide)).trans ?_))); k_whole)))
local macro_rules | `(tactic| walk_at "eval ListComp") => `(tactic| (k_here; k_dflt (refine ListComp_X (_F₀ := by k_asm) (by with_unfolding_all rfl) (by decide) (by rfl) (by decide) (by rfl) ?_)))
local macro_rules | `(tactic| walk_at "pyIter") => `(tactic| fail "stop here")
local macro_rules | `(tactic| walk_at "eval Dict") => `(tactic| (k_here; (with_reducible rename Fr _ _ _ _ => kF₉); (with_reducible rename News _ _ _ _ => kN₉); (refine' dict1g kF₉ kN₉ ?hbig ?_; (case hbig => assumption)); clear kF₉ kN₉; k_whole; intro h₇ D₇ F₇ N₇ lt₇ hs₇))
local macro_rules | `(tactic| walk_at "subscriptTail Name Slice str ref") => `(tactic| (k_here; (refine' slice_rev ?F ?N ?z ?_; (case F => k_asm); (case N => k_asm); (case z => omega)); k_whole; intro h₇ F₇ N₇))
theorem ok2 {y key val : Str} {tK tV : Nat} (hk1 : 1 ≤ tK) (hv1 : 1 ≤ tV) (hkv : tK ≠ tV) (hne : (key == val) = false) (hv : val.length ≤ 3) (hy : y.length ≤ 3000000) : RpOk y [(key, tK, val, tV)] := by
  refine ⟨⟨by show @Ne Nat tK 0; omega, by show @Ne Nat tV 0; omega, hkv, hne, ?_⟩, trivial⟩
  have : (y.length + 1) * val.length ≤ (y.length + 1) * 3 := Nat.mul_le_mul_left _ hv
  show y.length + (y.length + 1) * val.length ≤ 16777216
  omega
theorem j11 {st : Stmt} {x y wr mi key val : Str} {tx ty twr tmi : Tok} {tK tV : Nat} {Q : Flow → Shared → Prop} {E : Value → Shared → Prop}
    (KX : (hd03.heap_39 w.params).In h₀) (T : Top p loose mean mg mb h₀)
    (hl : (hd03.heap_39 w.params).lookup 68 = some ⟨oc, od, .func (fnOf name qual params body scope dV kV doc pm an cdv ct), osl⟩) (hb : body[11]? = some st)
    (F : Fr h₀ L s.heap m) (N : News h₀ L s.heap ((L + 1 + 1 + 1, oV) :: (L + 1 + 1, oK) :: news)) (dV' : oV.data = .cell (some (.str val tV))) (dK : oK.data = .cell (some (.str key tK))) (mt : m (Str.ofString "text") = some (.str x tx)) (mu : m (Str.ofString "turned") = some (.str y ty))
    (mw : m (Str.ofString "written") = some (.str wr twr)) (mm : m (Str.ofString "mirrored") = some (.str mi tmi)) (ht : 1 ≤ s.toks)
    (hz : wr.length ≤ 100000) (hz2 : mi.length ≤ 100000) (hk1 : 1 ≤ tK) (hkv : tK < tV) (hne : (val == key) = false) (hne2 : (revS val == revS key) = false) (hv : val.length ≤ 3) (hv1 : 1 ≤ val.length) (hk : key.length ≤ 3)
    (h1 : ampT (Txt.replace (unT wr) val key) = x) (h2 : ampT (Txt.replace (unT mi) (revS val) (revS key)) = y) (hu : (unT wr).length ≤ 200000) (hu2 : (unT mi).length ≤ 200000)
    (k : ∀ h' tk, Fr h₀ L h' m → News h₀ L h' ((L + 1 + 1 + 1, oV) :: (L + 1 + 1, oK) :: news) → Q .next { s with heap := h', toks := tk }) :
    wpAny (model PySem.Challenge.rw_kt0002_03.row.prog w) (callerA.deeper (envOfC (Str.ofString "law") scope L 68 cdv)) (exec st (envOfC (Str.ofString "law") scope L 68 cdv)) Q E s := by
  revert KX; k_fill; intro KX
  have e := hl.symm.trans (by k_is)
  cases e
  cases hb
  have hnl := T.nolimit
  repeat (first | walk1 | (dsimp only; walk1))
  rename_i h7 D7 F7 N7 lt7 hs7
  refine ⟨val, tV, key, tK, rfl, rfl, F7, N7, fun h8 F8 N8 => ?_⟩
  clear F7 N7
  repeat (first | walk1 | (dsimp only; walk1))
  have b1 : ∀ (u y k : Str), u.length ≤ 200000 → 1 ≤ y.length → k.length ≤ 3 → (Txt.replace u y k).length ≤ 1000000 := fun u y k hu hy hk => by
    have h := rep_len u y k hy
    have : (u.length + 1) * k.length ≤ (u.length + 1) * 3 := Nat.mul_le_mul_left _ hk
    omega
  refine wpAny_toks 1 (Nat.le_add_left 1 _) ?_
  refine' unescape03 (l := [(val, tV, key, tK)]) (n := 1) (below_caller h₀) F8 KX N8 T ?hA ?hf ?hke ?hr rfl ?hd hs7 (by simp) (by simp) (by simp) hz (b1 _ _ _ hu hv1 hk) ?ht (ok2 (by omega) hk1 (by omega) hne hk (by omega)) ?_
  case hA => exact rfl
  case hf => exact rfl
  case hke => exact rfl
  case hr => show (callerA.depth + 1 + 1 : Nat) < recursionLimit; decide
  case hd => exact .head _
  case ht => exact Nat.le_add_left 1 _
  intro t' h' tk' F₆ N₆
  clear N8 F8
  intro htk
  (try dsimp only at htk)
  rw [show ampT ([(val, tV, key, tK)].foldl Rp.rep (unT wr)) = x from h1]
  have N6 : News h₀ L h' ((L + 1 + 1 + 1, oV) :: (L + 1 + 1, oK) :: news) := fun q hq => N₆ q (.tail _ hq)
  clear N₆
  repeat (first | walk1 | (dsimp only; walk1))
  · rename ((_ : Str) != _) = true => hc
    exact absurd hc (by simp)
  repeat (first | walk1 | (dsimp only; walk1))
  rename_i g7 E7 _ _ lt17 hs17 _ _ _ g9 F9 N9
  dsimp only
  refine ⟨revS val, _, revS key, _, rfl, rfl, F9, N9, fun g8 F8 N8 => ?_⟩
  clear F9 N9
  repeat (first | walk1 | (dsimp only; walk1))
  generalize htk2 : tk' + 1 + 1 = tK' at N8
  have hk0 : 1 ≤ tK' := by omega
  refine' unescape03 (l := [(revS val, tK', revS key, tK' + 1 + 1 + 1)]) (n := 1) (below_caller h₀) F8 KX N8 T ?hA ?hf ?hke ?hr rfl ?hd hs17 (by simp) (by simp) (by simp) hz2 (b1 _ _ _ hu2 (by rw [revS_len]; exact hv1) (by rw [revS_len]; exact hk)) ?ht (ok2 hk0 (by omega) (by omega) hne2 (by rw [revS_len]; exact hk) (by omega)) ?_
  case hA => exact rfl
  case hf => exact rfl
  case hke => exact rfl
  case hr => show (callerA.depth + 1 + 1 : Nat) < recursionLimit; decide
  case hd => exact .head _
  case ht => exact Nat.le_add_left 1 _
  intro t2 h2' tk2' F₇ N₇
  clear N8 F8
  rw [show ampT ([(revS val, tK', revS key, tK' + 1 + 1 + 1)].foldl Rp.rep (unT mi)) = y from h2]
  have N8 : News h₀ L h2' ((L + 1 + 1 + 1, oV) :: (L + 1 + 1, oK) :: news) := fun q hq => N₇ q (.tail _ hq)
  clear N₇
  repeat (first | walk1 | (dsimp only; walk1))
  · rename ((y : Str) != y) = true => hc
    exact absurd hc (by simp)
  repeat (first | walk1 | (dsimp only; walk1))
  exact k _ _ F₇ N8
end
end Mine
end
section
theorem Mine.fresh_N0 : True := by
  w_top off
  trivial
open PySem PySem.W PyProof.Rows PySem.Spec PySem.Calls
set_option Elab.async false
set_option maxRecDepth 100000
set_option maxHeartbeats 8000000
namespace Mine
section
variable {w : World} {A A₀ : Around} {s : Shared} {base h₀ : Heap} {outer : List Env} {L : Addr} {env : Env} {m : Str → Option Value} {news : List (Addr × Obj)} {p : Program} {loose : List Str} {mean : ExcName → Option Value} {mg mb : Str → Option Value}
  {name qual : Str} {params : Arguments} {body fbody : List Stmt} {scope : Scope} {dV kV doc pm cdv ct oc : Value} {an od : Option Addr} {osl : Array (Option Value)} {ft fi : Expr} {fps : Pos} {fol : List Stmt}
local macro_rules | `(tactic| walk_at "eval Name") => `(tactic| (k_here; (with_reducible show wpAny _ _ (eval (Expr.Name _ _) (envOfC _ _ _ _ _)) _ _ _); name_kind "local"; k_dflt (refine' nameX_L ?k1 ?k2 ?_; (case k1 => k_asm); (case k2 => first | exact rfl | (repeat (first | assumption | exact if_pos rfl | refine (if_neg (by decide)).trans ?_))); k_whole)))
local macro_rules | `(tactic| walk_at "eval ListComp") => `(tactic| (k_here; k_dflt (refine ListComp_X (_F₀ := by k_asm) (by with_unfolding_all rfl) (by decide) (by rfl) (by decide) (by rfl) ?_)))
local macro_rules | `(tactic| walk_at "pyIter") => `(tactic| fail "stop here")
theorem most_s0 {st : Stmt} {Q E : _} {Wa D : Addr} {ws vs : List Value} {n c i : Nat} {t : Tok}
    (hl : (hd03.heap_39 w.params).lookup 56 = some ⟨oc, od, .func (fnOf name qual params body scope dV kV doc pm an cdv ct), osl⟩) (hb1 : body[1]? = some (.For ft fi fbody fol fps)) (hb : fbody[0]? = some st)
    (KX : (hd03.heap_39 w.params).In h₀) (hh : A.handled = none) (F : Fr h₀ L s.heap m) (N : News h₀ L s.heap news)
    (mw : m (Str.ofString "ways") = some (.ref Wa)) (mi : m (Str.ofString "i") = some (.int (1 + (i : Int) * 1) t)) (hW : (Wa, W.listOf ws.toArray n) ∈ news) (hD : (D, W.listOf vs.toArray c) ∈ news) (hi : ws[i]? = some (.ref D)) (hi9 : i ≤ 100) (hv9 : vs.length ≤ 1000)
    (k : ∀ h' tk D', Fr h₀ L h' (fun y => if y = Str.ofString "found" then some (.ref D') else m y) → News h₀ L h' ((D', LCg.lst vs) :: news) → LCg.Off1 D' news → Q .next { s with heap := h', toks := tk }) :
    wpAny (model PySem.Challenge.rw_kt0002_03.row.prog w) A (exec st (envOfC qual scope L 56 cdv)) Q E s := by
  revert KX; k_fill; intro KX
  have e := hl.symm.trans (by k_is); cases e; cases hb1; cases hb
  refine Assign_ListComp_X (_F₀ := F) rfl (by with_unfolding_all rfl) (by with_unfolding_all rfl) (by decide) (by rfl) (by decide) (by rfl) (by rfl) (by rfl) ?_
  repeat (first | walk1 | (dsimp only; walk1))
  refine item_listL (l := ws) (x := .ref D) ⟨_, (N _ hW).1, rfl, _, rfl⟩ (by omega) (by omega) ?_ ?_
  · rw [show (1 + (i : Int) * 1 - 1) = (i : Int) by omega, Int.toNat_natCast]; exact hi
  repeat (first | walk1 | (dsimp only; walk1))
  refine' go_list (its := vs.toArray) (R := fun i y => vs[i]? = some y) hh ?F ?N (Or.inr ⟨_, hD, rfl, _, rfl⟩) ?sz ?step ?fin
  case F => k_asm
  case N => k_asm
  case sz => rw [sizeLine_eq, List.size_toArray]; omega
  case step =>
    intro i v I oI C oC Dc ys m₂ h tk E' hi8 hP hoC hv F N off hne
    dsimp only
    repeat (first | walk1 | (dsimp only; walk1))
    · k_asm
    · exact ⟨by k_asm, by simpa using hP⟩
  case fin =>
    intro g4 ys hyl hys
    obtain rfl : ys = vs := List.ext_getElem? fun i => by
      cases e : ys[i]? with
      | some y => exact (hys i y e).symm
      | none =>
        rw [List.getElem?_eq_none_iff] at e
        rw [hyl, List.size_toArray] at e
        exact (List.getElem?_eq_none e).symm
    unfold LCg.FinA
    intro D2 h2 tk2 F2 N2 o2
    exact k _ _ _ F2 N2 o2
end
end Mine
end
section
theorem Mine.fresh_N1 : True := by
  w_top off
  trivial
open PySem PySem.W PyProof.Rows PySem.Spec PySem.Calls
set_option Elab.async false
set_option maxRecDepth 100000
set_option maxHeartbeats 8000000
namespace Mine
section
variable {w : World} {A A₀ : Around} {s : Shared} {base h₀ : Heap} {outer : List Env} {L : Addr} {env : Env} {m : Str → Option Value} {news : List (Addr × Obj)} {p : Program} {loose : List Str} {mean : ExcName → Option Value} {mg mb : Str → Option Value}
  {name qual : Str} {params : Arguments} {body fbody : List Stmt} {scope : Scope} {dV kV doc pm cdv ct oc : Value} {an od : Option Addr} {osl : Array (Option Value)} {ft fi : Expr} {fps : Pos} {fol : List Stmt}
local macro_rules | `(tactic| walk_at "eval Name") => `(tactic| (k_here; (with_reducible show wpAny _ _ (eval (Expr.Name _ _) (envOfC _ _ _ _ _)) _ _ _); name_kind "local"; k_dflt (refine' nameX_L ?k1 ?k2 ?_; (case k1 => k_asm); (case k2 => first | exact rfl | (repeat (first | assumption | exact if_pos rfl | refine (if_neg (by decide)).trans ?_))); k_whole)))
local macro_rules | `(tactic| walk_at "eval ListComp") => `(tactic| (k_here; k_dflt (refine ListComp_X (_F₀ := by k_asm) (by with_unfolding_all rfl) (by decide) (by rfl) (by decide) (by rfl) ?_)))
local macro_rules | `(tactic| walk_at "pyIter") => `(tactic| fail "stop here")
theorem most_s1 {st : Stmt} {Q E : _} {oM oS : Obj} {v0 : Option Value} {y : Str} {i : Nat} {t ty : Tok}
    (hl : (hd03.heap_39 w.params).lookup 56 = some ⟨oc, od, .func (fnOf name qual params body scope dV kV doc pm an cdv ct), osl⟩) (hb1 : body[1]? = some (.For ft fi fbody fol fps)) (hb : fbody[1]? = some st)
    (KX : (hd03.heap_39 w.params).In h₀) (T : Top p loose mean mg mb h₀) (F : Fr h₀ L s.heap m) (N : News h₀ L s.heap ((L + 1 + 1, oM) :: (L + 1, oS) :: news)) (dS : oS.data = .cell v0)
    (mi : m (Str.ofString "i") = some (.int (1 + (i : Int) * 1) t)) (mk : m (Str.ofString "key") = some (.str y ty)) (hi9 : i ≤ 100) (hy9 : y.length ≤ 100) (ap : ∀ q ∈ news, q.1 ≠ L + 1)
    (k : ∀ h' tk oS' t', Fr h₀ L h' m → News h₀ L h' ((L + 1 + 1, oM) :: (L + 1, oS') :: news) → oS'.data = .cell (some (.int (1 + (i : Int) * 1 - (y.length : Int)) t')) → Q .next { s with heap := h', toks := tk }) :
    wpAny (model PySem.Challenge.rw_kt0002_03.row.prog w) A (exec st (envOfC qual scope L 56 cdv)) Q E s := by
  revert KX; k_fill; intro KX
  have e := hl.symm.trans (by k_is); cases e; cases hb1; cases hb
  repeat (first | walk1 | (dsimp only; walk1))
  refine storeX_C (c := L + 1) (by assumption) (by assumption) rfl (.tail (by show @Ne Nat (L + 1 + 1) (L + 1); omega) (.head ap)) dS (fun h₂ oS' F₂ N₂ d₂ => ?_)
  exact k _ _ _ _ F₂ N₂ d₂
end
end Mine
end
section
theorem Mine.fresh_N2 : True := by
  w_top off
  trivial
open PySem PySem.W PyProof.Rows PySem.Spec PySem.Calls
set_option Elab.async false
set_option maxRecDepth 100000
set_option maxHeartbeats 8000000
namespace Mine
section
variable {w : World} {A A₀ : Around} {s : Shared} {base h₀ : Heap} {outer : List Env} {L : Addr} {env : Env} {m : Str → Option Value} {news : List (Addr × Obj)} {p : Program} {loose : List Str} {mean : ExcName → Option Value} {mg mb : Str → Option Value}
  {name qual : Str} {params : Arguments} {body fbody : List Stmt} {scope : Scope} {dV kV doc pm cdv ct oc : Value} {an od : Option Addr} {osl : Array (Option Value)} {ft fi : Expr} {fps : Pos} {fol : List Stmt}
local macro_rules | `(tactic| walk_at "eval Name") => `(tactic| (k_here; (with_reducible show wpAny _ _ (eval (Expr.Name _ _) (envOfC _ _ _ _ _)) _ _ _); name_kind "local"; k_dflt (refine' nameX_L ?k1 ?k2 ?_; (case k1 => k_asm); (case k2 => first | exact rfl | (repeat (first | assumption | exact if_pos rfl | refine (if_neg (by decide)).trans ?_))); k_whole)))
local macro_rules | `(tactic| walk_at "eval ListComp") => `(tactic| (k_here; k_dflt (refine ListComp_X (_F₀ := by k_asm) (by with_unfolding_all rfl) (by decide) (by rfl) (by decide) (by rfl) ?_)))
local macro_rules | `(tactic| walk_at "pyIter") => `(tactic| fail "stop here")
/-- the new things of a list of longer ways -/
def Longer (base news : List (Addr × Obj)) (ls : List (List Nat)) (j : Nat) (ys : List Value) (nw : List (Addr × Obj)) : Prop :=
  ∃ add, nw = add ++ base ∧ Apart2 add base ∧ WaysIn (add ++ news) ys ((ls.take ys.length).map (· ++ [j]))
theorem most_s2 {st : Stmt} {Q E : _} {oM oS : Obj} {x y : Str} {Wa Df : Addr} {ws vf : List Value} {n c i : Nat} {t tx ty ts : Tok} {lf : List (List Nat)} {tab : List (List (List Nat))} {wb : List (Addr × Obj)}
    (hl : (hd03.heap_39 w.params).lookup 56 = some ⟨oc, od, .func (fnOf name qual params body scope dV kV doc pm an cdv ct), osl⟩) (hb1 : body[1]? = some (.For ft fi fbody fol fps)) (hb : fbody[2]? = some st)
    (KX : (hd03.heap_39 w.params).In h₀) (T : Top p loose mean mg mb h₀) (hh : A.handled = none) (F : Fr h₀ L s.heap m) (N : News h₀ L s.heap ((L + 1 + 1, oM) :: (L + 1, oS) :: news)) (dS : oS.data = .cell (some (.int (1 + (i : Int) * 1 - (y.length : Int)) ts)))
    (mi : m (Str.ofString "i") = some (.int (1 + (i : Int) * 1) t)) (mk : m (Str.ofString "key") = some (.str y ty)) (mr : m (Str.ofString "row") = some (.str x tx)) (mw : m (Str.ofString "ways") = some (.ref Wa)) (mf : m (Str.ofString "found") = some (.ref Df))
    (hW : (Wa, W.listOf ws.toArray n) ∈ news) (hDf : (Df, LCg.lst vf) ∈ news) (hwb : ∀ q ∈ wb, q ∈ news) (hf : WaysIn wb vf lf) (ht : ∀ (j : Nat) v, ws[j]? = some v → ∃ l, tab[j]? = some l ∧ l.length ≤ 200 ∧ (∀ x ∈ l, x.length ≤ 100) ∧ ListIn wb v l) (hwl : ws.length = i + 1) (hi9 : i ≤ 100) (hy0 : 1 ≤ y.length) (hy9 : y.length ≤ 100) (hx9 : x.length ≤ 100) (hf9 : vf.length ≤ 200)
    (k1 : ∀ h' tk D' vs c' ls add, y.length ≤ i + 1 → Txt.slice x (some (1 + (i : Int) * 1 - (y.length : Int))) (some (1 + (i : Int) * 1)) = y → tab[i + 1 - y.length]? = some ls → Fr h₀ L h' (fun y => if y = Str.ofString "found" then some (.ref D') else m y) → News h₀ L h' ((L + 1 + 1, oM) :: (L + 1, oS) :: (D', W.listOf vs.toArray c') :: (add ++ news)) →
      Apart2 ((D', W.listOf vs.toArray c') :: add) ((L + 1 + 1, oM) :: (L + 1, oS) :: news) → WaysIn (add ++ wb) vs (lf ++ ls.map (· ++ [i + 1 - y.length])) → Q .next { s with heap := h', toks := tk })
    (k2 : ∀ h' tk, ¬ (y.length ≤ i + 1 ∧ Txt.slice x (some (1 + (i : Int) * 1 - (y.length : Int))) (some (1 + (i : Int) * 1)) = y) → Fr h₀ L h' m → News h₀ L h' ((L + 1 + 1, oM) :: (L + 1, oS) :: news) → Q .next { s with heap := h', toks := tk }) :
    wpAny (model PySem.Challenge.rw_kt0002_03.row.prog w) A (exec st (envOfC qual scope L 56 cdv)) Q E s := by
  revert KX; k_fill; intro KX
  have e := hl.symm.trans (by k_is); cases e; cases hb1; cases hb
  repeat (first | walk1 | (dsimp only; walk1))
  · have hle : y.length ≤ i + 1 := by omega
    have hst : 1 + (i : Int) * 1 - (y.length : Int) = ((i + 1 - y.length : Nat) : Int) := by omega
    obtain ⟨v, hv⟩ : ∃ v, ws[i + 1 - y.length]? = some v := ⟨_, List.getElem?_eq_getElem (by omega)⟩
    obtain ⟨ls, htl, hl9, hx99, Ds, vs, cs, rfl, hDs, hls⟩ := ht _ _ hv
    rename News _ _ _ _ => N3
    refine item_listL (l := ws) (x := .ref Ds) ⟨_, (N3 _ (.tail _ (.tail _ hW))).1, rfl, _, rfl⟩ (by omega) (by omega) ?_ ?_
    · rw [hst, Int.toNat_natCast]; exact hv
    repeat (first | walk1 | (dsimp only; walk1))
    refine' go_listG (its := vs.toArray) (Inv := Longer ((L + 1 + 1, oM) :: (L + 1, oS) :: news) wb ls (i + 1 - y.length)) hh ?F ?N (Or.inr ⟨_, .tail _ (.tail _ (hwb _ hDs)), rfl, _, rfl⟩) ?sz ?h0 ?step ?fin
    case F => k_asm
    case N => k_asm
    case sz => rw [sizeLine_eq, List.size_toArray, hls.1]; omega
    case h0 => exact ⟨[], rfl, (fun _ h => nomatch h), WaysIn.nil⟩
    case step =>
      intro i2 v I oI C oC Dc ys nw m₂ h tk E' hi8 hP hoC hv2 F N off hne hyl hI
      obtain ⟨add, rfl, ap, hI⟩ := hI
      have N9 : News h₀ L h ((C, oC) :: (L + 1, oS) :: (I, oI) :: (C, oC) :: (Dc, LCg.lst ys) :: (add ++ (L + 1 + 1, oM) :: (L + 1, oS) :: news)) := fun q hq => N q (by
        rcases List.mem_cons.mp hq with rfl | hq
        · exact .tail _ (.head _)
        rcases List.mem_cons.mp hq with rfl | hq
        · exact .tail _ (.tail _ (.tail _ (List.mem_append_right _ (.tail _ (.head _)))))
        · exact hq)
      obtain ⟨all, hall⟩ : ∃ all, all = (I, oI) :: (C, oC) :: (Dc, LCg.lst ys) :: (add ++ (L + 1 + 1, oM) :: (L + 1, oS) :: news) := ⟨_, rfl⟩
      rw [← hall] at N9
      clear N
      dsimp only
      repeat (first | walk1 | (dsimp only; walk1))
      rename News _ _ _ _ => N4
      rename Fr _ _ _ _ => F4
      rename _ ∧ _ ∧ _ => l4
      rename Addr => D4
      obtain ⟨k4, e4⟩ : ∃ k4, ({ cls := .type "tuple", data := .seq #[Value.int (1 + (i : Int) * 1 - (y.length : Int)) ts] } : Obj) = tupO [Value.int (1 + (i : Int) * 1 - (y.length : Int)) ts] k4 := ⟨_, rfl⟩
      rw [e4] at N4
      obtain ⟨l, hl2, a, tv, n2, rfl, ha, hai⟩ := hls.2 i2 v (by simpa using hP)
      have hm4 : (a, tupO tv n2) ∈ all := hall ▸ .tail _ (.tail _ (.tail _ (List.mem_append_right _ (.tail _ (.tail _ (hwb _ ha))))))
      have htv : tv.length = l.length := by rw [hai.length, List.length_map]
      refine way_more (n2 := _) F4 N4 (.tail _ (.tail _ (.tail _ hm4))) (.head _) ?z (fun h5 a5 n5 add5 F5 N5 ap5 hm5 => ?_)
      case z => rw [htv]; have := hx99 _ (List.mem_of_getElem? hl2); omega
      have lt4 : ∀ p ∈ all, D4 ≠ p.1 := allLt_ne l4.2.2
      have ap6 : ∀ q ∈ all, ∀ p ∈ add5 ++ [(D4, (tupO [Value.int (1 + (i : Int) * 1 - (y.length : Int)) ts] k4))], p.1 ≠ q.1 := fun q hq p hp => by
        rcases List.mem_append.mp hp with hp | hp
        · exact ap5 p hp q (.tail _ (.tail _ (.tail _ hq)))
        · rw [List.mem_singleton.mp hp]; exact lt4 q hq
      refine ⟨h5, _, add5 ++ [(D4, (tupO [Value.int (1 + (i : Int) * 1 - (y.length : Int)) ts] k4))], rfl, F5, fun q hq => N5 q ?_, ?_, ?_⟩
      · have up : ∀ q ∈ (I, oI) :: (C, oC) :: (Dc, LCg.lst ys) :: (add ++ (L + 1 + 1, oM) :: (L + 1, oS) :: news), q ∈ add5 ++ (D4, tupO [Value.int (1 + (i : Int) * 1 - (y.length : Int)) ts] k4) :: (C, oC) :: (L + 1, oS) :: all := fun q hq => List.mem_append_right _ (.tail _ (.tail _ (.tail _ (hall ▸ hq))))
        rcases List.mem_cons.mp hq with rfl | hq
        · exact up _ (.head _)
        rcases List.mem_cons.mp hq with rfl | hq
        · exact up _ (.tail _ (.head _))
        rcases List.mem_cons.mp hq with rfl | hq
        · exact up _ (.tail _ (.tail _ (.head _)))
        rcases List.mem_append.mp hq with hq | hq
        · rcases List.mem_append.mp hq with hq | hq
          · exact List.mem_append_left _ hq
          · rw [List.mem_singleton.mp hq]; exact List.mem_append_right _ (.head _)
        · exact up _ (.tail _ (.tail _ (.tail _ hq)))
      · rw [hall] at ap6
        exact off3_mk fun q hq => ⟨ap6 _ (.head _) q hq, ap6 _ (.tail _ (.head _)) q hq, ap6 _ (.tail _ (.tail _ (.head _))) q hq⟩
      · refine ⟨add5 ++ [(D4, (tupO [Value.int (1 + (i : Int) * 1 - (y.length : Int)) ts] k4))] ++ add, by simp, fun q hq r hr => ?_, ?_⟩
        · rcases List.mem_append.mp hq with hq | hq
          · exact ap6 r (hall ▸ .tail _ (.tail _ (.tail _ (List.mem_append_right _ hr)))) q hq
          · exact ap q hq r hr
        · have : (ls.take (ys ++ [Value.ref a5]).length).map (· ++ [i + 1 - y.length]) = (ls.take ys.length).map (· ++ [i + 1 - y.length]) ++ [l ++ [i + 1 - y.length]] := by
            rw [List.length_append, List.length_singleton, List.take_add_one, hyl, hl2, List.map_append]; rfl
          rw [this]
          refine (hI.mono fun q hq => ?_).snoc ⟨a5, tv ++ [Value.int (1 + (i : Int) * 1 - (y.length : Int)) ts], n5, rfl, ?_, ?_⟩
          · rw [List.append_assoc]; exact List.mem_append_right _ hq
          · exact List.mem_append_left _ (List.mem_append_left _ hm5)
          · rw [show nats (l ++ [i + 1 - y.length]) = nats l ++ [((i + 1 - y.length : Nat) : Int)] by simp [nats], ← hst]
            exact hai.append (.cons _ _ .nil)
    case fin =>
      intro g4 ys nw hyl hys
      unfold LCg.FinE
      intro D2 h2 tk2 F2 N2 o2
      obtain ⟨add, rfl, ap, hI⟩ := hys
      have hyl' : ys.length = ls.length := by rw [hyl, List.size_toArray, hls.1]
      rw [hyl', List.take_length] at hI
      have o3 := off1_of o2
      refine add_listsA F2 N2 (lst_at N2 (.tail _ (List.mem_append_right _ (.tail _ (.tail _ hDf))))) (lst_at N2 (.head _)) (by omega) (fun h3 D3 n3 F3 N3 o4 => ?_)
      clear N2
      generalize hall : (D2, LCg.lst ys) :: (add ++ (L + 1 + 1, oM) :: (L + 1, oS) :: news) = all at *
      repeat (first | walk1 | (dsimp only; walk1))
      rename News _ _ _ _ => N6
      have hin : ∀ q ∈ add ++ (L + 1 + 1, oM) :: (L + 1, oS) :: news, q ∈ all := fun q hq => hall ▸ .tail _ hq
      refine k1 _ _ D3 (vf ++ ys) n3 ls ((D2, LCg.lst ys) :: add) hle (beq_iff_eq.mp (by assumption)) htl (by assumption) (fun q hq => N6 q ?_) (fun q hq r hr => ?_) ?_
      · rcases List.mem_cons.mp hq with rfl | hq
        · exact .tail _ (hin _ (List.mem_append_right _ (.head _)))
        rcases List.mem_cons.mp hq with rfl | hq
        · exact .tail _ (hin _ (List.mem_append_right _ (.tail _ (.head _))))
        rcases List.mem_cons.mp hq with rfl | hq
        · exact .head _
        rcases List.mem_cons.mp hq with rfl | hq
        · exact .tail _ (hall ▸ .head _)
        rcases List.mem_append.mp hq with hq | hq
        · exact .tail _ (hin _ (List.mem_append_left _ hq))
        · exact .tail _ (hin _ (List.mem_append_right _ (.tail _ (.tail _ hq))))
      · rcases List.mem_cons.mp hq with rfl | hq
        · exact Ne.symm (o4 _ (hin _ (List.mem_append_right _ hr)))
        rcases List.mem_cons.mp hq with rfl | hq
        · exact Ne.symm (o3 _ (List.mem_append_right _ hr))
        · exact ap _ hq _ hr
      · refine (hf.mono fun q hq => .tail _ (List.mem_append_right _ hq)).app (hI.mono fun q hq => .tail _ hq)
  · rename (_ == y) = false => hne
    rw [if_neg (by decide)]
    refine wpAny_execs_nil (k2 _ _ (fun h => ?_) (by assumption) (by assumption))
    rw [h.2, beq_self_eq_true] at hne; cases hne
  · rw [if_neg (by decide)]
    refine wpAny_execs_nil (k2 _ _ (fun h => ?_) (by assumption) (by assumption))
    omega
end
end Mine
end
section
theorem Mine.fresh_N3 : True := by
  w_top off
  trivial
open PySem PySem.W PyProof.Rows PySem.Spec PySem.Calls
set_option Elab.async false
set_option maxRecDepth 100000
set_option maxHeartbeats 8000000
namespace Mine
section
variable {w : World} {A A₀ : Around} {s : Shared} {base h₀ : Heap} {outer : List Env} {L : Addr} {env : Env} {m : Str → Option Value} {news : List (Addr × Obj)} {p : Program} {loose : List Str} {mean : ExcName → Option Value} {mg mb : Str → Option Value}
  {name qual : Str} {params : Arguments} {body fbody : List Stmt} {scope : Scope} {dV kV doc pm cdv ct oc : Value} {an od : Option Addr} {osl : Array (Option Value)} {ft fi : Expr} {fps : Pos} {fol : List Stmt}
local macro_rules | `(tactic| walk_at "eval Name") => `(tactic| (k_here; (with_reducible show wpAny _ _ (eval (Expr.Name _ _) (envOfC _ _ _ _ _)) _ _ _); name_kind "local"; k_dflt (refine' nameX_L ?k1 ?k2 ?_; (case k1 => k_asm); (case k2 => first | exact rfl | (repeat (first | assumption | exact if_pos rfl | refine (if_neg (by decide)).trans ?_))); k_whole)))
local macro_rules | `(tactic| walk_at "eval ListComp") => `(tactic| (k_here; k_dflt (refine ListComp_X (_F₀ := by k_asm) (by with_unfolding_all rfl) (by decide) (by rfl) (by decide) (by rfl) ?_)))
local macro_rules | `(tactic| walk_at "pyIter") => `(tactic| fail "stop here")
/-- the lengths of tuples, as the numbers of a list -/
theorem most_s3 {st : Stmt} {Q E : _} {oM oS : Obj} {v0 : Option Value} {Df : Addr} {vf : List Value} {c : Nat} {lf : List (List Nat)}
    (hl : (hd03.heap_39 w.params).lookup 56 = some ⟨oc, od, .func (fnOf name qual params body scope dV kV doc pm an cdv ct), osl⟩) (hb1 : body[1]? = some (.For ft fi fbody fol fps)) (hb : fbody[3]? = some st)
    (KX : (hd03.heap_39 w.params).In h₀) (T : Top p loose mean mg mb h₀) (hh : A.handled = none) (F : Fr h₀ L s.heap m) (N : News h₀ L s.heap ((L + 1 + 1, oM) :: (L + 1, oS) :: news)) (dM : oM.data = .cell v0)
    (mf : m (Str.ofString "found") = some (.ref Df)) (hDf : (Df, W.listOf vf.toArray c) ∈ news) (hf : WaysIn news vf lf) (hne : 0 < lf.length) (hf9 : lf.length ≤ 1000) (hf8 : ∀ x ∈ lf, x.length ≤ 100) (ap : ∀ q ∈ news, q.1 ≠ L + 1 + 1)
    (k : ∀ h' tk oM' (M : Nat) t', Fr h₀ L h' m → News h₀ L h' ((L + 1 + 1, oM') :: (L + 1, oS) :: news) → oM'.data = .cell (some (.int (M : Int) t')) → (∀ x ∈ lf, x.length ≤ M) → (∃ x ∈ lf, x.length = M) → Q .next { s with heap := h', toks := tk }) :
    wpAny (model PySem.Challenge.rw_kt0002_03.row.prog w) A (exec st (envOfC qual scope L 56 cdv)) Q E s := by
  revert KX; k_fill; intro KX
  have e := hl.symm.trans (by k_is); cases e; cases hb1; cases hb
  have hNe : L + 1 ≠ L + 1 + 1 := by show @Ne Nat _ _; omega
  repeat (first | walk1 | (dsimp only; walk1))
  refine' go_list (its := vf.toArray) (R := fun i y => ∃ (x : List Nat) (t : Tok), lf[i]? = some x ∧ y = Value.int ((x.length : Nat) : Int) t) hh ?F ?N (Or.inr ⟨_, .tail _ (.tail _ hDf), rfl, _, rfl⟩) ?sz ?step ?fin
  case F => k_asm
  case N => k_asm
  case sz => rw [sizeLine_eq, List.size_toArray, hf.1]; omega
  case step =>
    intro i2 v I oI C oC Dc ys m₂ h tk E' hi8 hP hoC hv2 F N off hne
    obtain ⟨l, hl2, a, tv, n2, rfl, ha, hai⟩ := hf.2 i2 v (by simpa using hP)
    have htv : tv.length = l.length := by rw [hai.length, List.length_map]
    have hl9 := hf8 _ (List.mem_of_getElem? hl2)
    obtain ⟨all, hall⟩ : ∃ all, all = (I, oI) :: (C, oC) :: (Dc, LCg.lst ys) :: (L + 1 + 1, oM) :: (L + 1, oS) :: news := ⟨_, rfl⟩
    rw [← hall] at N ⊢
    have hmC : (C, oC) ∈ all := hall ▸ .tail _ (.head _)
    have hma : (a, tupO tv n2) ∈ all := hall ▸ .tail _ (.tail _ (.tail _ (.tail _ (.tail _ ha))))
    clear hall off
    have N9 : News h₀ L h ((C, oC) :: all) := fun q hq => N q (by
      rcases List.mem_cons.mp hq with rfl | hq
      · exact hmC
      · exact hq)
    clear N
    dsimp only
    repeat (first | walk1 | (dsimp only; walk1))
    refine len_tuple ⟨_, (N9 _ (.tail _ hma)).1, rfl, _, rfl⟩ (by rw [List.size_toArray]; omega) ?_
    exact ⟨_, _, rfl, F, (fun q hq => N9 q (.tail _ hq)), l, _, hl2, by rw [List.size_toArray, htv]⟩
  case fin =>
    intro g4 ys hyl hys
    unfold LCg.FinE
    intro D2 h2 tk2 F2 N2 o2
    have hii : IntsAre ys ((lf.map (·.length)).map fun c : Nat => (c : Int)) := ints_of_signs (by rw [hyl, List.size_toArray, List.length_map, hf.1]) fun i v e => by
      obtain ⟨x, t, hx, rfl⟩ := hys i v e
      exact ⟨x.length, t, by rw [List.getElem?_map, hx]; rfl, rfl⟩
    repeat (first | walk1 | (dsimp only; walk1))
    refine max_list_N hh F2 N2 (lst_at N2 (.head _)) hii (by rw [List.length_map, List.length_map]; exact hne) (fun h3 M t3 k3 F3 N3 hM1 hM2 => ?_)
    obtain ⟨M', hM', rfl⟩ := List.mem_map.mp hM1
    obtain ⟨x, hx, rfl⟩ := List.mem_map.mp hM'
    refine storeX_C (c := L + 1 + 1) F3 N3 rfl (.tail (Ne.symm o2.1) (.head fun q hq => ?u)) dM (fun h4 oM' F4 N4 d4 => ?_)
    case u =>
      rcases List.mem_cons.mp hq with rfl | hq
      · exact hNe
      · exact ap q hq
    refine k _ _ oM' x.length t3 F4 (fun q hq => N4 q (.tail _ hq)) d4 (fun z hz => ?_) ⟨x, hx, rfl⟩
    have := hM2 ((z.length : Nat) : Int) (List.mem_map_of_mem (List.mem_map_of_mem hz))
    omega
end
end Mine
end
section
theorem Mine.fresh_C6 : True := by
  w_top off
  trivial
open PySem PySem.W PyProof.Rows PyProof.V PySem.Spec PySem.Calls PyProof.Rows.LCg
set_option Elab.async false
set_option maxRecDepth 100000
set_option maxHeartbeats 8000000
namespace Mine
section
variable {prog : Program} {w : World} {A : Around} {E : Value → Shared → Prop} {s : Shared} {h₀ : Heap} {L : Addr} {m : Str → Option Value} {env : Env}
/-- a comprehension with a test, one ledger -/
theorem rest_T {ct elt : Expr} {x : Str} {scope : Scope} {cl : List (Str × Addr)} {S : List (Addr × Obj) → Prop} {P : Nat → Value → Prop} {Inv : Nat → List Value → Prop} {Fin : List Value → List (Addr × Obj) → Prop} {news : List (Addr × Obj)} {n : Nat} {s₂ : Shared}
    (hs : ∃ g, s₂ = { s with heap := g }) (hS : S news)
    (step : ∀ i v I oI C oC D ys m₂ h tk (E' : Value → Shared → Prop), i < n → P i v → NsObj oC m₂ → m₂ x = some v → Fr h₀ L h m → News h₀ L h ((I, oI) :: (C, oC) :: (D, lst ys) :: news) → Off3 I C D news → ((@Ne Nat I C) ∧ (@Ne Nat I D) ∧ (@Ne Nat C D)) → Inv i ys →
      wpAny (model prog w) A (isTrue ct (compEnvC scope cl C env) (eval ct (compEnvC scope cl C env))) (fun ok s' => if ok = true then
        wpAny (model prog w) A (eval elt (compEnvC scope cl C env)) (fun y s₃ => ∃ h' tk', s₃ = { s with heap := h', toks := tk' } ∧ Fr h₀ L h' m ∧ News h₀ L h' ((I, oI) :: (C, oC) :: (D, lst ys) :: news) ∧ Inv (i + 1) (ys ++ [y])) E' s'
        else ∃ h' tk', s' = { s with heap := h', toks := tk' } ∧ Fr h₀ L h' m ∧ News h₀ L h' ((I, oI) :: (C, oC) :: (D, lst ys) :: news) ∧ Inv (i + 1) ys) E' { s with heap := h, toks := tk })
    (fin : ∀ ys, Inv n ys → Fin ys news) :
    ∀ (k i : Nat) (ys : List Value), i + k = n → Inv i ys → LCt.CompRestT prog w A h₀ L m env ct elt x scope cl s₂ S P Fin k i ys news
  | 0, i, ys, hk, hI => LCt.CompRestT.zero (fin ys (by rw [← hk]; exact hI))
  | k + 1, i, ys, hk, hI => by
    obtain ⟨g, rfl⟩ := hs
    refine LCt.CompRestT.succ fun v I oI C oC D m₂ h tk E' hP hoC hv F N off hne => ?_
    refine wpAny_mono (step i v I oI C oC D ys m₂ h tk E' (by omega) hP hoC hv F N off hne hI) (fun ok s₃ h₃ => ?_) fun _ _ e => e
    cases ok with
    | true =>
      rw [if_pos rfl] at h₃ ⊢
      refine wpAny_mono h₃ (fun y s₄ h₄ => ?_) fun _ _ e => e
      obtain ⟨h', tk', rfl, F', N', r⟩ := h₄
      exact CompEnd.intro F' N' news (fun p hp => hp) off hS (rest_T ⟨g, rfl⟩ hS step fin k (i + 1) (ys ++ [y]) (by omega) r)
    | false =>
      rw [if_neg (by decide)] at h₃ ⊢
      obtain ⟨h', tk', rfl, F', N', r⟩ := h₃
      exact CompEnd.intro F' N' news (fun p hp => hp) off hS (rest_T ⟨g, rfl⟩ hS step fin k (i + 1) ys (by omega) r)
end
end Mine
end
section
theorem Mine.fresh_N4 : True := by
  w_top off
  trivial
open PySem PySem.W PyProof.Rows PySem.Spec PySem.Calls
set_option Elab.async false
set_option maxRecDepth 100000
set_option maxHeartbeats 8000000
namespace Mine
section
variable {w : World} {A A₀ : Around} {s : Shared} {base h₀ : Heap} {outer : List Env} {L : Addr} {env : Env} {m : Str → Option Value} {news : List (Addr × Obj)} {p : Program} {loose : List Str} {mean : ExcName → Option Value} {mg mb : Str → Option Value}
  {name qual : Str} {params : Arguments} {body fbody : List Stmt} {scope : Scope} {dV kV doc pm cdv ct oc : Value} {an od : Option Addr} {osl : Array (Option Value)} {ft fi : Expr} {fps : Pos} {fol : List Stmt}
local macro_rules | `(tactic| walk_at "eval Name") => `(tactic| (k_here; (with_reducible show wpAny _ _ (eval (Expr.Name _ _) (envOfC _ _ _ _ _)) _ _ _); name_kind "local"; k_dflt (refine' nameX_L ?k1 ?k2 ?_; (case k1 => k_asm); (case k2 => first | exact rfl | (repeat (first | assumption | exact if_pos rfl | refine (if_neg (by decide)).trans ?_))); k_whole)))
local macro_rules | `(tactic| walk_at "eval ListComp") => `(tactic| (k_here; k_dflt (refine LCt.ListComp_T (F₀ := by k_asm) (by with_unfolding_all rfl) (by decide) (by rfl) (by decide) (by rfl) ?_)))
local macro_rules | `(tactic| walk_at "pyIter") => `(tactic| fail "stop here")
local macro_rules | `(tactic| walk_at "CompSrcT") => `(tactic| fail "stop here")
theorem most_s4 {st : Stmt} {Q E : _} {oM oS : Obj} {M : Nat} {tM : Tok} {Df Wa : Addr} {vf ws : List Value} {c n : Nat} {lf : List (List Nat)} {wb : List (Addr × Obj)}
    (hl : (hd03.heap_39 w.params).lookup 56 = some ⟨oc, od, .func (fnOf name qual params body scope dV kV doc pm an cdv ct), osl⟩) (hb1 : body[1]? = some (.For ft fi fbody fol fps)) (hb : fbody[4]? = some st)
    (KX : (hd03.heap_39 w.params).In h₀) (T : Top p loose mean mg mb h₀) (hh : A.handled = none) (F : Fr h₀ L s.heap m) (N : News h₀ L s.heap ((Wa, W.listOf ws.toArray n) :: (L + 1 + 1, oM) :: (L + 1, oS) :: news)) (dM : oM.data = .cell (some (.int (M : Int) tM)))
    (mf : m (Str.ofString "found") = some (.ref Df)) (mw : m (Str.ofString "ways") = some (.ref Wa)) (hDf : (Df, W.listOf vf.toArray c) ∈ news) (hwb : ∀ q ∈ wb, q ∈ news) (hf : WaysIn wb vf lf) (hf9 : lf.length ≤ 1000) (hf8 : ∀ x ∈ lf, x.length ≤ 100) (hw9 : ws.length ≤ 1000)
    (ap : ∀ q ∈ (L + 1 + 1, oM) :: (L + 1, oS) :: news, q.1 ≠ Wa)
    (k : ∀ h' tk D' vs, Fr h₀ L h' m → News h₀ L h' ((Wa, W.listOf (ws ++ [Value.ref D']).toArray (n + 1)) :: (D', LCg.lst vs) :: (L + 1 + 1, oM) :: (L + 1, oS) :: news) → D' ≠ Wa → LCg.Off1 D' ((L + 1 + 1, oM) :: (L + 1, oS) :: news) → WaysIn wb vs (lf.filter fun x => x.length == M) → Q .next { s with heap := h', toks := tk }) :
    wpAny (model PySem.Challenge.rw_kt0002_03.row.prog w) A (exec st (envOfC qual scope L 56 cdv)) Q E s := by
  revert KX; k_fill; intro KX
  have e := hl.symm.trans (by k_is); cases e; cases hb1; cases hb
  repeat (first | walk1 | (dsimp only; walk1))
  refine LCt.CompSrcT.ledger hh F N (.tail _ (.tail _ (.tail _ hDf))) (by rw [sizeLine_eq, List.size_toArray, hf.1]; omega) (fun g => rest_T (n := vf.toArray.size) (Inv := fun i ys => WaysIn wb ys ((lf.take i).filter fun x => x.length == M)) ⟨g, rfl⟩ (Or.inr ⟨_, .tail _ (.tail _ (.tail _ hDf)), rfl, _, rfl⟩) ?step ?fin _ 0 [] (Nat.zero_add _) WaysIn.nil)
  case step =>
    intro i2 v I oI C oC Dc ys m₂ h tk E' hi8 hP hoC hv2 F N off hne hI
    obtain ⟨l, hl2, a, tv, n2, rfl, ha, hai⟩ := hf.2 i2 v (by simpa using hP)
    have htv : tv.length = l.length := by rw [hai.length, List.length_map]
    have hl9 := hf8 _ (List.mem_of_getElem? hl2)
    have htk : lf.take (i2 + 1) = lf.take i2 ++ [l] := by rw [List.take_add_one, hl2]; rfl
    obtain ⟨all, hall⟩ : ∃ all, all = (I, oI) :: (C, oC) :: (Dc, LCg.lst ys) :: (Wa, W.listOf ws.toArray n) :: (L + 1 + 1, oM) :: (L + 1, oS) :: news := ⟨_, rfl⟩
    rw [← hall] at N ⊢
    have hmC : (C, oC) ∈ all := hall ▸ .tail _ (.head _)
    have hmM : (L + 1 + 1, oM) ∈ all := hall ▸ .tail _ (.tail _ (.tail _ (.tail _ (.head _))))
    have hma : (a, tupO tv n2) ∈ all := hall ▸ .tail _ (.tail _ (.tail _ (.tail _ (.tail _ (.tail _ (hwb _ ha))))))
    clear hall off
    have N9 : News h₀ L h ((C, oC) :: (L + 1 + 1, oM) :: all) := fun q hq => N q (by
      rcases List.mem_cons.mp hq with rfl | hq
      · exact hmC
      rcases List.mem_cons.mp hq with rfl | hq
      · exact hmM
      · exact hq)
    clear N
    repeat (first | walk1 | (dsimp only; walk1))
    refine len_tuple ⟨_, (N9 _ (.tail _ (.tail _ hma))).1, rfl, _, rfl⟩ (by rw [List.size_toArray]; omega) ?_
    rw [List.size_toArray, htv]
    repeat (first | walk1 | (dsimp only; walk1))
    · exact F
    · rename (_ : Int) = _ => heq
      have e1 : (l.length == M) = true := by rw [beq_iff_eq]; omega
      refine ⟨fun q hq => N9 q (.tail _ (.tail _ hq)), ?_⟩
      rw [htk, List.filter_append, show [l].filter (fun x : List Nat => x.length == M) = [l] from List.filter_cons_of_pos (p := fun x : List Nat => x.length == M) e1]
      exact hI.snoc ⟨a, tv, n2, rfl, ha, hai⟩
    · rename ¬ _ => heq
      have e1 : ¬ (l.length == M) = true := by rw [beq_iff_eq]; omega
      refine ⟨_, _, rfl, F, fun q hq => N9 q (.tail _ (.tail _ hq)), ?_⟩
      rw [htk, List.filter_append, show [l].filter (fun x : List Nat => x.length == M) = [] from List.filter_cons_of_neg (p := fun x : List Nat => x.length == M) e1, List.append_nil]
      exact hI
  case fin =>
    intro ys hI
    unfold LCg.FinE
    intro D2 h2 tk2 F2 N2 o2
    repeat (first | walk1 | (dsimp only; walk1))
    refine append_K (its := ws.toArray) (n := n) F2 (fun q hq => N2 q ?p1) (.head (r := (D2, LCg.lst ys) :: (L + 1 + 1, oM) :: (L + 1, oS) :: news) fun q hq => ?u) (fun h3 F3 N3 => ?_) (by rw [sizeLine_eq, List.size_toArray]; omega)
    case p1 =>
      rcases List.mem_cons.mp hq with rfl | hq
      · exact .tail _ (.head _)
      rcases List.mem_cons.mp hq with rfl | hq
      · exact .head _
      · exact .tail _ (.tail _ hq)
    case u =>
      rcases List.mem_cons.mp hq with rfl | hq
      · exact Ne.symm o2.1
      · exact ap q hq
    have e9 : ws.toArray.push (Value.ref D2) = (ws ++ [Value.ref D2]).toArray := by rw [List.push_toArray]
    rw [e9] at N3
    rw [List.size_toArray, hf.1, List.take_length] at hI
    repeat (first | walk1 | (dsimp only; walk1))
    exact k _ _ D2 ys F3 N3 (Ne.symm o2.1) o2.2 hI
end
end Mine
end
section
theorem Mine.fresh_N5 : True := by
  w_top off
  trivial
open PySem PySem.W PyProof.Rows PySem.Spec PySem.Calls
set_option Elab.async false
set_option maxRecDepth 100000
set_option maxHeartbeats 8000000
namespace Mine
section
variable {w : World} {A A₀ : Around} {s : Shared} {base h₀ : Heap} {outer : List Env} {L : Addr} {env : Env} {m : Str → Option Value} {news : List (Addr × Obj)} {p : Program} {loose : List Str} {mean : ExcName → Option Value} {mg mb : Str → Option Value}
  {name qual : Str} {params : Arguments} {body fbody : List Stmt} {scope : Scope} {dV kV doc pm cdv ct oc : Value} {an od : Option Addr} {osl : Array (Option Value)} {ft fi : Expr} {fps : Pos} {fol : List Stmt}
local macro_rules | `(tactic| walk_at "eval Name") => `(tactic| (k_here; (with_reducible show wpAny _ _ (eval (Expr.Name _ _) (envOfC _ _ _ _ _)) _ _ _); name_kind "local"; k_dflt (refine' nameX_L ?k1 ?k2 ?_; (case k1 => k_asm); (case k2 => first | exact rfl | (repeat (first | assumption | exact if_pos rfl | refine (if_neg (by decide)).trans ?_))); k_whole)))
local macro_rules | `(tactic| walk_at "eval ListComp") => `(tactic| (k_here; k_dflt (refine ListComp_X (_F₀ := by k_asm) (by with_unfolding_all rfl) (by decide) (by rfl) (by decide) (by rfl) ?_)))
local macro_rules | `(tactic| walk_at "pyIter") => `(tactic| fail "stop here")
theorem most_shape (hl : (hd03.heap_39 w.params).lookup 56 = some ⟨oc, od, .func (fnOf name qual params body scope dV kV doc pm an cdv ct), osl⟩) (hb1 : body[1]? = some (.For ft fi fbody fol fps)) (KX : (hd03.heap_39 w.params).In h₀) : PySem.Challenge.rw_kt0002_03.row.prog = PySem.Challenge.rw_kt0002_03.row.prog → ∃ s0 s1 s2 s3 s4, fbody = [s0, s1, s2, s3, s4] := by
  revert KX; k_fill; intro KX _
  have e := hl.symm.trans (by k_is); cases e; cases hb1
  exact ⟨_, _, _, _, _, rfl⟩
theorem app_sub {a b c : List (Addr × Obj)} (h : ∀ q ∈ b, q ∈ c) : ∀ q ∈ a ++ b, q ∈ a ++ c := fun q hq => by
  rcases List.mem_append.mp hq with hq | hq
  · exact List.mem_append_left _ hq
  · exact List.mem_append_right _ (h q hq)
theorem most_turn {Q E : _} {oM oS : Obj} {vM vS : Option Value} {Wa : Addr} {ws : List Value} {n i : Nat} {t tx ty : Tok} {x y : Str} {tab : List (List (List Nat))} {wb : List (Addr × Obj)}
    (hl : (hd03.heap_39 w.params).lookup 56 = some ⟨oc, od, .func (fnOf name qual params body scope dV kV doc pm an cdv ct), osl⟩) (hb1 : body[1]? = some (.For ft fi fbody fol fps))
    (KX : (hd03.heap_39 w.params).In h₀) (T : Top p loose mean mg mb h₀) (hh : A.handled = none) (F : Fr h₀ L s.heap m) (N : News h₀ L s.heap ((Wa, W.listOf ws.toArray n) :: (L + 1 + 1, oM) :: (L + 1, oS) :: news)) (dM : oM.data = .cell vM) (dS : oS.data = .cell vS)
    (mi : m (Str.ofString "i") = some (.int (1 + (i : Int) * 1) t)) (mk : m (Str.ofString "key") = some (.str y ty)) (mr : m (Str.ofString "row") = some (.str x tx)) (mw : m (Str.ofString "ways") = some (.ref Wa))
    (apW : ∀ q ∈ (L + 1 + 1, oM) :: (L + 1, oS) :: news, q.1 ≠ Wa) (apM : ∀ q ∈ news, q.1 ≠ L + 1 + 1) (apS : ∀ q ∈ news, q.1 ≠ L + 1)
    (hwb : ∀ q ∈ wb, q ∈ news) (tb : Tab wb y.cps.toList x.cps.toList i ws tab) (hy1 : 1 ≤ y.length) (hy9 : y.length ≤ 100) (hx9 : x.length ≤ 7) (hix : i + 1 ≤ x.length)
    (k : ∀ h' tk D' oM' oS' vM' vS' tab' add m', Fr h₀ L h' m' → m' (Str.ofString "key") = some (.str y ty) → m' (Str.ofString "row") = some (.str x tx) → m' (Str.ofString "ways") = some (.ref Wa) →
      News h₀ L h' ((Wa, W.listOf (ws ++ [Value.ref D']).toArray (n + 1)) :: (L + 1 + 1, oM') :: (L + 1, oS') :: (add ++ news)) → Apart2 add ((Wa, oM) :: (L + 1 + 1, oM) :: (L + 1, oS) :: news) → oM'.data = .cell vM' → oS'.data = .cell vS' → Tab (add ++ wb) y.cps.toList x.cps.toList (i + 1) (ws ++ [Value.ref D']) tab' → Q .next { s with heap := h', toks := tk }) :
    wpAny (model PySem.Challenge.rw_kt0002_03.row.prog w) A (execs fbody (envOfC qual scope L 56 cdv)) Q E s := by
  obtain ⟨s0, s1, s2, s3, s4, rfl⟩ := most_shape hl hb1 KX rfl
  have hyl : y.cps.toList.length = y.length := by simp [Str.length]
  have hcut := cut_eq x y hix
  obtain ⟨v, hv, a2, a3, a4, D, vs, c, rfl, hD, hvs⟩ := tb.at (Nat.le_refl i)
  have p2 : (2 : Nat) ^ i ≤ 2 ^ 7 := Nat.pow_le_pow_right (by decide) (by omega)
  have hM1 : L + 1 + 1 ≠ L + 1 := by show @Ne Nat _ _; omega
  have rest : ∀ h3 k3 Df vf c lf add3 oS2 vS2 m3, lf = found y.cps.toList x.cps.toList tab (i + 1) → oS2.data = .cell vS2 → Fr h₀ L h3 m3 → m3 (Str.ofString "key") = some (.str y ty) → m3 (Str.ofString "row") = some (.str x tx) → m3 (Str.ofString "ways") = some (.ref Wa) → m3 (Str.ofString "found") = some (.ref Df) →
      News h₀ L h3 ((Wa, W.listOf ws.toArray n) :: (L + 1 + 1, oM) :: (L + 1, oS2) :: (add3 ++ news)) → (Df, W.listOf vf.toArray c) ∈ add3 → Apart2 add3 ((Wa, oM) :: (L + 1 + 1, oM) :: (L + 1, oS) :: news) → WaysIn (add3 ++ wb) vf lf → wpAny (model PySem.Challenge.rw_kt0002_03.row.prog w) A (execs [s3, s4] (envOfC qual scope L 56 cdv)) Q E { s with heap := h3, toks := k3 } := by
    intro h3 k3 Df vf c lf add3 oS2 vS2 m3 hlf d2 F3 ek er ew ef N3 hDf ap3 hw3
    obtain ⟨f1, f2, f3⟩ := found_len tb (by rw [hyl]; exact hy1)
    rw [← hlf] at f1 f2 f3
    have p3 : (2 : Nat) ^ (i + 1) ≤ 2 ^ 7 := Nat.pow_le_pow_right (by decide) (by omega)
    refine wpAny_execs_cons (most_s3 (oM := oM) (oS := oS2) (lf := lf) (vf := vf) (c := c) (news := (Wa, W.listOf ws.toArray n) :: (add3 ++ news)) hl hb1 rfl KX T hh F3 (fun q hq => N3 q (by simp only [List.mem_cons] at hq ⊢; grind)) dM ef (.tail _ (List.mem_append_left _ hDf)) (hw3.mono fun q hq => .tail _ (app_sub hwb q hq)) f2 (by omega) (fun x hx => by have := f3 x hx; omega) ?u (fun h4 k4 oM4 M t4 F4 N4 d4 hM1 hM2 => ?_))
    case u =>
      intro q hq
      rcases List.mem_cons.mp hq with rfl | hq
      · exact Ne.symm (apW (L + 1 + 1, oM) (.head _))
      rcases List.mem_append.mp hq with hq | hq
      · exact ap3 q hq (L + 1 + 1, oM) (.tail _ (.head _))
      · exact apM q hq
    show wpAny _ _ (execs [s4] _) _ _ _
    refine wpAny_execs_cons (most_s4 (oM := oM4) (oS := oS2) (lf := lf) (vf := vf) (c := c) (ws := ws) (n := n) (Wa := Wa) (news := add3 ++ news) (wb := add3 ++ wb) hl hb1 rfl KX T hh F4 (fun q hq => N4 q (by simp only [List.mem_cons] at hq ⊢; grind)) d4 ef ew (List.mem_append_left _ hDf) (app_sub hwb) hw3 (by omega) (fun x hx => by have := f3 x hx; omega) (by rw [tb.wl]; omega) ?u2 (fun h5 k5 D5 vs5 F5 N5 hD5 o5 hw5 => ?_))
    case u2 =>
      intro q hq
      rcases List.mem_cons.mp hq with rfl | hq
      · exact apW (L + 1 + 1, oM) (.head _)
      rcases List.mem_cons.mp hq with rfl | hq
      · exact apW (L + 1, oS) (.tail _ (.head _))
      rcases List.mem_append.mp hq with hq | hq
      · exact ap3 q hq (Wa, oM) (.head _)
      · exact apW q (.tail _ (.tail _ hq))
    have o5' := off1_of o5
    refine wpAny_execs_nil (k h5 k5 D5 oM4 oS2 _ _ _ ((D5, LCg.lst vs5) :: add3) m3 F5 ek er ew (fun q hq => N5 q (by simp only [List.mem_cons, List.mem_append] at hq ⊢; grind)) ?ap d4 d2 (tb.step (M := M) (by rw [hyl]; exact hy1) (fun q hq => .tail _ (List.mem_append_right _ hq)) ?m1 ?m2 ?lin))
    case m1 => rw [← hlf]; exact hM1
    case m2 => rw [← hlf]; exact hM2
    case lin =>
      rw [← hlf]
      exact ⟨D5, vs5, _, rfl, .head _, hw5.mono fun q hq => .tail _ hq⟩
    case ap =>
      intro q hq r hr
      rcases List.mem_cons.mp hq with rfl | hq
      · rcases List.mem_cons.mp hr with rfl | hr
        · exact hD5
        rcases List.mem_cons.mp hr with rfl | hr
        · exact Ne.symm (o5' (L + 1 + 1, oM4) (.head _))
        rcases List.mem_cons.mp hr with rfl | hr
        · exact Ne.symm (o5' (L + 1, oS2) (.tail _ (.head _)))
        · exact Ne.symm (o5' r (.tail _ (.tail _ (List.mem_append_right _ hr))))
      · exact ap3 q hq r hr
  refine wpAny_execs_cons (most_s0 hl hb1 rfl KX hh F N mw mi (.head _) (.tail _ (.tail _ (.tail _ (hwb _ hD)))) hv (by omega) (by rw [hvs.1]; omega) (fun h1 k1 D1 F1 N1 o1 => ?_))
  have o1' := off1_of o1
  clear N F
  refine wpAny_execs_cons (most_s1 (oM := oM) (news := (D1, LCg.lst vs) :: (Wa, W.listOf ws.toArray n) :: news) hl hb1 rfl KX T F1 (fun q hq => N1 q (by simp only [List.mem_cons] at hq ⊢; grind)) dS ((if_neg (by decide)).trans mi) ((if_neg (by decide)).trans mk) (by omega) hy9 ?p2 (fun h2 k2 oS2 t2 F2 N2 d2 => ?_))
  case p2 =>
    intro q hq
    rcases List.mem_cons.mp hq with rfl | hq
    · exact Ne.symm (o1' (L + 1, oS) (.tail _ (.tail _ (.head _))))
    rcases List.mem_cons.mp hq with rfl | hq
    · exact Ne.symm (apW (L + 1, oS) (.tail _ (.head _)))
    · exact apS q hq
  clear N1 F1
  show wpAny _ _ (execs [s2, s3, s4] _) _ _ _
  refine wpAny_execs_cons (most_s2 (oM := oM) (vf := vs) (lf := tab.getD i []) (tab := tab) (ws := ws) (n := n) (c := 0) (wb := wb) (news := (D1, LCg.lst vs) :: (Wa, W.listOf ws.toArray n) :: news) hl hb1 rfl KX T hh F2 N2 d2 ((if_neg (by decide)).trans mi) ((if_neg (by decide)).trans mk) ((if_neg (by decide)).trans mr) ((if_neg (by decide)).trans mw) (if_pos rfl)
    (.tail _ (.head _)) (.head _) (fun q hq => .tail _ (.tail _ (hwb q hq))) hvs ?ht tb.wl (by omega) hy1 hy9 (by omega) (by rw [hvs.1]; omega) ?k1 ?k2)
  case ht =>
    intro j v e
    obtain ⟨l, a, b, _, c, d⟩ := tb.here j v e
    have hj : j < i + 1 := by have := (List.getElem?_eq_some_iff.mp e).1; rw [tb.wl] at this; exact this
    have : (2 : Nat) ^ j ≤ 2 ^ 7 := Nat.pow_le_pow_right (by decide) (by omega)
    exact ⟨l, a, by omega, fun x hx => by have := c x hx; omega, d⟩
  case k1 =>
    intro h3 k3 D3 vs3 c3 ls add3 hle hsl htl F3 N3 ap3 hw3
    refine rest _ _ D3 vs3 c3 (tab.getD i [] ++ ls.map (· ++ [i + 1 - y.length])) ((D3, W.listOf vs3.toArray c3) :: (add3 ++ [(D1, LCg.lst vs)])) oS2 _ _ ?e1 d2 F3 ((if_neg (by decide)).trans ((if_neg (by decide)).trans mk)) ((if_neg (by decide)).trans ((if_neg (by decide)).trans mr)) ((if_neg (by decide)).trans ((if_neg (by decide)).trans mw)) (if_pos rfl)
      (fun q hq => N3 q (by simp only [List.mem_cons, List.mem_append] at hq ⊢; grind)) (.head _) ?e2 (hw3.mono fun q hq => ?e3)
    case e1 =>
      have e9 : tab.getD (i + 1 - y.length) [] = ls := by rw [List.getD_eq_getElem?_getD, htl]; rfl
      unfold found
      rw [Nat.add_sub_cancel, if_pos (hcut.mp ⟨hle, hsl⟩), hyl, e9]
    case e2 =>
      intro q hq r hr
      have h1 : ∀ r ∈ (Wa, oM) :: (L + 1 + 1, oM) :: (L + 1, oS) :: news, D1 ≠ r.1 := by
        intro r hr
        rcases List.mem_cons.mp hr with rfl | hr
        · exact Ne.symm (o1' (Wa, W.listOf ws.toArray n) (.head _))
        · exact Ne.symm (o1' r (.tail _ hr))
      rcases List.mem_cons.mp hq with rfl | hq
      · rcases List.mem_cons.mp hr with rfl | hr
        · exact ap3 (D3, W.listOf vs3.toArray c3) (.head _) (Wa, W.listOf ws.toArray n) (.tail _ (.tail _ (.tail _ (.head _))))
        rcases List.mem_cons.mp hr with rfl | hr
        · exact ap3 (D3, W.listOf vs3.toArray c3) (.head _) (L + 1 + 1, oM) (.head _)
        rcases List.mem_cons.mp hr with rfl | hr
        · exact ap3 (D3, W.listOf vs3.toArray c3) (.head _) (L + 1, oS2) (.tail _ (.head _))
        · exact ap3 (D3, W.listOf vs3.toArray c3) (.head _) r (.tail _ (.tail _ (.tail _ (.tail _ hr))))
      rcases List.mem_append.mp hq with hq | hq
      · rcases List.mem_cons.mp hr with rfl | hr
        · exact ap3 q (.tail _ hq) (Wa, W.listOf ws.toArray n) (.tail _ (.tail _ (.tail _ (.head _))))
        rcases List.mem_cons.mp hr with rfl | hr
        · exact ap3 q (.tail _ hq) (L + 1 + 1, oM) (.head _)
        rcases List.mem_cons.mp hr with rfl | hr
        · exact ap3 q (.tail _ hq) (L + 1, oS2) (.tail _ (.head _))
        · exact ap3 q (.tail _ hq) r (.tail _ (.tail _ (.tail _ (.tail _ hr))))
      · rw [List.mem_singleton.mp hq]; exact h1 r hr
    case e3 =>
      rcases List.mem_append.mp hq with hq | hq
      · exact .tail _ (List.mem_append_left _ (List.mem_append_left _ hq))
      · exact .tail _ (List.mem_append_right _ hq)
  case k2 =>
    intro h3 k3 hno F3 N3
    refine rest _ _ D1 vs _ (tab.getD i []) [(D1, LCg.lst vs)] oS2 _ _ ?g1 d2 F3 ((if_neg (by decide)).trans mk) ((if_neg (by decide)).trans mr) ((if_neg (by decide)).trans mw) (if_pos rfl)
      (fun q hq => N3 q (by simp only [List.mem_cons, List.mem_append] at hq ⊢; grind)) (.head _) ?g2 (hvs.mono fun q hq => .tail _ hq)
    case g1 =>
      unfold found
      rw [Nat.add_sub_cancel, if_neg (fun q => hno (hcut.mpr q)), List.append_nil]
    case g2 =>
      intro q hq r hr
      rw [List.mem_singleton.mp hq]
      rcases List.mem_cons.mp hr with rfl | hr
      · exact Ne.symm (o1' (Wa, W.listOf ws.toArray n) (.head _))
      · exact Ne.symm (o1' r (.tail _ hr))
end
end Mine
end
section
theorem Mine.fresh_X7 : True := by
  w_top off
  trivial
open PySem PySem.W PyProof.Rows PySem.Spec PySem.Calls
set_option Elab.async false
set_option maxRecDepth 100000
set_option maxHeartbeats 4000000
namespace Mine
open Sem (wp)
section
variable {prog : Program} {w : World} {A : Around} {E : Value → Shared → Prop} {s : Shared} {env : Env} {h₀ : Heap} {x : Str} {body : List Stmt} {Q : Flow → Shared → Prop}

/-- a loop over a range; the iterator is neither a tuple nor a list -/
theorem loopR_range {r : Addr} {a b c : Int} {t₀ u₀ v₀ : Tok} {n : Nat} {m₀ : Str → Option Value} {news : List (Addr × Obj)} (J : Nat → (Str → Option Value) → List (Addr × Obj) → Prop)
    (hh : A.handled = none) (hr : IsRange s.heap r a b c t₀ u₀ v₀) (hsmall : Builtin.Range.small a b c = true) (hn : Builtin.Range.rangeSize a b c = (n : Int)) (F : Fr h₀ env.locals s.heap m₀) (N : News h₀ env.locals s.heap news) (h0 : J 0 m₀ news)
    (step : ∀ (i : Nat) m₁ news₁ s₁ t own, i < n → J i m₁ news₁ → Apart own news₁ → (∀ p ∈ own, p.2.cls ≠ .type "tuple" ∧ p.2.cls ≠ .type "list") → Fr h₀ env.locals s₁.heap (fun y => if y = x then some (.int (a + i * c) t) else m₁ y) → News h₀ env.locals s₁.heap (own ++ news₁) →
      wpAny (model prog w) A (execs body env) (Turn h₀ env.locals own (J (i + 1)) s₁) E s₁)
    (done : ∀ h' tk m' news', Fr h₀ env.locals h' m' → News h₀ env.locals h' news' → J n m' news' → Q .next { s with heap := h', toks := tk }) :
    wpAny (model prog w) A (pyIter (.ref r)) (fun it s₂ => LoopAtU prog w A h₀ env x body Q E it s₂) E s := by
  refine wpAny_pyIter_range hr hsmall ?_
  have hnew := next_is_new F
  refine ⟨_, _, _, n, _, _, m₀, news, J, rfl, Walks.range hh s.heap.objs.size a c n, ?_, ?_, ?_, (by show IsRangeIter _ _ _ _ _; rw [hn]; simpa using Heap.get?_push_size _ rfl), F.push _, (fun p hp => ⟨Heap.get?_push_of_some _ (N p hp).1, (N p hp).2⟩), h0, ?_, ?_⟩
  · intro hm
    exact absurd F.ns.lt ((List.mem_singleton.mp hm) ▸ Nat.lt_irrefl _)
  · intro b hb
    rw [List.mem_singleton.mp hb]
    exact hnew
  · intro p hp hI
    exact absurd (Heap.lt_size (N p hp).1) ((List.mem_singleton.mp hI) ▸ Nat.lt_irrefl _)
  · rintro i v m₁ news₁ s₁ own hi ⟨t, rfl⟩ hJ hoff hown hget hall hst F₁ N₁
    have hst' : s₁.heap.get? s.heap.objs.size = some _ := hst
    have hmem := hall s.heap.objs.size (List.mem_singleton.mpr rfl) hnew _ hst'
    have hcl : ∀ p ∈ own, p.2.cls ≠ .type "tuple" ∧ p.2.cls ≠ .type "list" := fun p hp => by
      have h1 := hget p hp
      rw [List.mem_singleton.mp (hown p hp), hst'] at h1
      rw [← Option.some.inj h1]
      exact ⟨by simp, by simp⟩
    refine wpAny_mono (step i m₁ news₁ s₁ t own hi hJ (fun p hp q hq e => hoff q hq (by rw [← e]; exact hown p hp)) hcl F₁ N₁) (fun f s₂ h => ?_) fun _ _ e => e
    obtain ⟨rfl, h', tk, m₂, news₂, rfl, F₂, N₂, ap, j⟩ := h
    exact LoopStepU.intro F₂ N₂ (fun p hp hI => ap _ hmem p hp (List.mem_singleton.mp hI).symm) j
  · intro h' tk m' news' F' N' _ hJ
    exact done h' tk m' news' F' N' hJ
end
end Mine
end
section
theorem Mine.fresh_N6 : True := by
  w_top off
  trivial
open PySem PySem.W PyProof.Rows PySem.Spec PySem.Calls
set_option Elab.async false
set_option maxRecDepth 100000
set_option maxHeartbeats 8000000
namespace Mine
section
variable {w : World} {A A₀ : Around} {s : Shared} {base h₀ : Heap} {outer : List Env} {L : Addr} {env : Env} {m : Str → Option Value} {news : List (Addr × Obj)} {p : Program} {loose : List Str} {mean : ExcName → Option Value} {mg mb : Str → Option Value}

local macro_rules | `(tactic| walk_at "eval Name") => `(tactic| (k_here; (with_reducible show wpAny _ _ (eval (Expr.Name _ _) (envOfC _ _ _ _ _)) _ _ _); name_kind "local"; k_dflt (refine' nameX_L ?k1 ?k2 ?_; (case k1 => k_asm); (case k2 => first | exact rfl | (repeat (first | assumption | exact if_pos rfl | refine (if_neg (by decide)).trans ?_))); k_whole)))
local macro_rules | `(tactic| walk_at "eval ListComp") => `(tactic| (k_here; k_dflt (refine ListComp_X (_F₀ := by k_asm) (by with_unfolding_all rfl) (by decide) (by rfl) (by decide) (by rfl) ?_)))
local macro_rules | `(tactic| walk_at "pyIter") => `(tactic| fail "stop here")
theorem nameA {M : Model} {α : Type} {t : Sem α} {Q : α → Shared → Prop} {E : Value → Shared → Prop} (h : ∀ Q' : α → Shared → Prop, (Unit → ∀ a s, Q a s → Q' a s) → wpAny M A t Q' (fun _ _ => False) s) : wpAny M A t Q E s :=
  wpAny_mono (h Q fun _ _ _ x => x) (fun _ _ x => x) fun _ _ x => x.elim
theorem most03 {x y : Str} {t u : Tok} {Q E : Value → Shared → Prop}
    (B : Below A₀ base outer h₀) (F : Fr h₀ L s.heap m) (KX : (hd03.heap_39 w.params).In h₀) (N : News h₀ L s.heap news) (T : Top p loose mean mg mb h₀) (hA : A.frames = some (env :: outer)) (hf : env.frame = some L) (hke : env.scope.kind = .function)
    (hroom : A.depth < recursionLimit) (hh : A.handled = none) (hx9 : x.length ≤ 7) (hy1 : 1 ≤ y.length) (hy9 : y.length ≤ 100)
    (k : ∀ h' tk v ls own, Best y.cps.toList x.cps.toList x.length ls → 0 < ls.length → ls.length ≤ 128 → ListIn own v ls → Apart2 own news → Fr h₀ L h' m → News h₀ L h' (own ++ news) → Q v { s with heap := h', toks := tk }) :
    wpAny (model PySem.Challenge.rw_kt0002_03.row.prog w) A (call (.ref 56) [.str x t, .str y u]) Q E s := by
  revert KX; k_fill; intro KX
  refine wpAny_call ?_
  refine' code_defC (binds := [(Str.ofString "row", .str x t), (Str.ofString "key", .str y u)]) B F KX N T hA hf hke ?k6 ?k7 hroom ?k9 ?kB ?kD ?_ ?c2 ?c3 ?c4
  case k6 => k_is
  case k7 => k_is
  case k9 => exact BindsTo.of_eq rfl
  case kB => exact rfl
  case kD => decide +kernel
  case c2 => exact rfl
  case c3 => exact rfl
  case c4 => exact rfl
  k_whole
  intro g L' h₁ tk cells FG F' N' Y B' KX' T' l1
  k_cells Y
  (try simp only [List.cons_append, List.nil_append] at N')
  clear N F
  refine wpAny_mono (E := fun _ _ => False) ?_ (fun _ _ x => x) (fun _ _ x => x.elim)
  have hx7 : Unit → x.length ≤ 7 := fun _ => hx9
  have hx1 : x.length ≤ 1000 := by omega
  have hyl : y.cps.toList.length = y.length := by simp [Str.length]
  clear hx9
  refine wpAny_execs_cons (nameA fun Q1 hQ1 => ?_)
  repeat (first | walk1 | (dsimp only; walk1))
  rename_i oM oS dM dS Dt _ lt1 L1 _ lt2 Wa _ lt3 _ F2 N2
  refine hQ1 () _ _ ?_
  clear hQ1 Q1
  show wpAny _ _ (execs (_ :: _) _) _ _ _
  refine wpAny_execs_cons (For_invU g (by rfl) (by rfl) ?_)
  repeat (first | walk1 | (dsimp only; walk1))
  rename_i hr F3 N3 k3
  refine loopR_range (n := x.length) (fun i m' nw => (m' (Str.ofString "key") = some (.str y u) ∧ m' (Str.ofString "row") = some (.str x t) ∧ m' (Str.ofString "ways") = some (.ref Wa)) ∧
      ∃ ws n oM' oS' vM vS tab add, (∀ q ∈ (Wa, W.listOf ws.toArray n) :: (L' + 1 + 1, oM') :: (L' + 1, oS') :: (add ++ news), q ∈ nw) ∧ oM'.data = .cell vM ∧ oS'.data = .cell vS ∧ Apart2 add ((Wa, oM) :: (L' + 1 + 1, oM) :: (L' + 1, oS) :: news) ∧ Tab add y.cps.toList x.cps.toList i ws tab)
    hh hr ?small ?size F3 N3 ?h0 ?step ?done
  case small => exact small_one (by omega) (by omega) (by omega) (by omega)
  case size => rw [rangeSize_nat]; omega
  case h0 =>
    refine ⟨⟨(if_neg (by decide)).trans rfl, (if_neg (by decide)).trans rfl, if_pos rfl⟩, [Value.ref L1], 0, oM, oS, _, _, [[[]]], [(L1, W.listOf #[Value.ref Dt] 0), (Dt, tupO [] 0)], ?_, dM, dS, ?_, Tab.start (by rw [hyl]; exact hy1) ⟨L1, [Value.ref Dt], _, rfl, .head _, rfl, fun i v e => ?_⟩⟩
    · intro q hq
      rcases List.mem_cons.mp hq with rfl | hq
      · exact .head _
      rcases List.mem_cons.mp hq with rfl | hq
      · exact .tail _ (.tail _ (.tail _ (.head _)))
      rcases List.mem_cons.mp hq with rfl | hq
      · exact .tail _ (.tail _ (.tail _ (.tail _ (.head _))))
      rcases List.mem_cons.mp hq with rfl | hq
      · exact .tail _ (.head _)
      rcases List.mem_cons.mp hq with rfl | hq
      · exact .tail _ (.tail _ (.head _))
      · exact .tail _ (.tail _ (.tail _ (.tail _ (.tail _ hq))))
    · intro q hq r hr
      have hlt : ∀ r ∈ news, q.1 ≠ r.1 := fun r hr => by
        rcases List.mem_cons.mp hq with rfl | hq
        · exact allLt_ne lt2.2.2.2 r hr
        · rw [List.mem_singleton.mp hq]; exact allLt_ne lt1.2.2 r hr
      rcases List.mem_cons.mp hr with rfl | hr
      · rcases List.mem_cons.mp hq with rfl | hq
        · exact Nat.ne_of_lt lt3.1
        · rw [List.mem_singleton.mp hq]; exact Nat.ne_of_lt lt3.2.1
      rcases List.mem_cons.mp hr with rfl | hr
      · rcases List.mem_cons.mp hq with rfl | hq
        · exact Nat.ne_of_gt lt2.2.1
        · rw [List.mem_singleton.mp hq]; exact Nat.ne_of_gt lt1.1
      rcases List.mem_cons.mp hr with rfl | hr
      · rcases List.mem_cons.mp hq with rfl | hq
        · exact Nat.ne_of_gt lt2.2.2.1
        · rw [List.mem_singleton.mp hq]; exact Nat.ne_of_gt lt1.2.1
      · exact hlt r hr
    · cases i with
      | zero => obtain rfl : Value.ref Dt = v := by simpa using e
                exact ⟨[], rfl, Dt, [], _, rfl, .tail _ (.head _), .nil⟩
      | succ i => simp at e
  case step =>
    intro i m₁ news₁ s₁ ti own hi hJ apo hcl F4 N4
    obtain ⟨⟨ek, er, ew⟩, ws, n, oM', oS', vM, vS, tab, add, hsub, dM', dS', ap, tb⟩ := hJ
    have apo' : ∀ q ∈ (Wa, W.listOf ws.toArray n) :: (L' + 1 + 1, oM') :: (L' + 1, oS') :: (add ++ news), ∀ r ∈ own, r.1 ≠ q.1 := fun q hq r hr => apo r hr q (hsub q hq)
    have nlt : ∀ q ∈ news, @LT.lt Nat _ q.1 L' := l1
    have N4' : News g L' s₁.heap ((Wa, W.listOf ws.toArray n) :: (L' + 1 + 1, oM') :: (L' + 1, oS') :: (own ++ (add ++ news))) := fun q hq => N4 q (by
      rcases List.mem_cons.mp hq with rfl | hq
      · exact List.mem_append_right _ (hsub _ (.head _))
      rcases List.mem_cons.mp hq with rfl | hq
      · exact List.mem_append_right _ (hsub _ (.tail _ (.head _)))
      rcases List.mem_cons.mp hq with rfl | hq
      · exact List.mem_append_right _ (hsub _ (.tail _ (.tail _ (.head _))))
      rcases List.mem_append.mp hq with hq | hq
      · exact List.mem_append_left _ hq
      · exact List.mem_append_right _ (hsub _ (.tail _ (.tail _ (.tail _ hq)))))
    refine' most_turn (oM := oM') (oS := oS') (ws := ws) (n := n) (tab := tab) (news := own ++ (add ++ news)) ?hl ?hb1 KX' T' hh F4 N4' dM' dS' (if_pos rfl) ((if_neg (by decide)).trans ek) ((if_neg (by decide)).trans er) ((if_neg (by decide)).trans ew) ?apW ?apM ?apS (fun q hq => List.mem_append_right _ (List.mem_append_left _ hq)) tb hy1 hy9 (hx7 ()) (by omega) (fun h5 k5 D5 oM5 oS5 vM5 vS5 tab5 add5 m5 F5 ek5 er5 ew5 N5 ap5 dM5 dS5 tb5 => ?_)
    case hl => k_is
    case hb1 => exact rfl
    case apW =>
      intro q hq
      rcases List.mem_cons.mp hq with rfl | hq
      · exact Nat.ne_of_lt lt3.2.2.1
      rcases List.mem_cons.mp hq with rfl | hq
      · exact Nat.ne_of_lt lt3.2.2.2.1
      rcases List.mem_append.mp hq with hq | hq
      · exact apo' (Wa, W.listOf ws.toArray n) (.head _) q hq
      rcases List.mem_append.mp hq with hq | hq
      · exact ap q hq (Wa, oM) (.head _)
      · exact Ne.symm (allLt_ne lt3.2.2.2.2 q hq)
    case apM =>
      intro q hq
      rcases List.mem_append.mp hq with hq | hq
      · exact apo' (L' + 1 + 1, oM') (.tail _ (.head _)) q hq
      rcases List.mem_append.mp hq with hq | hq
      · exact ap q hq (L' + 1 + 1, oM) (.tail _ (.head _))
      · have := nlt q hq; show @Ne Nat _ _; omega
    case apS =>
      intro q hq
      rcases List.mem_append.mp hq with hq | hq
      · exact apo' (L' + 1, oS') (.tail _ (.tail _ (.head _))) q hq
      rcases List.mem_append.mp hq with hq | hq
      · exact ap q hq (L' + 1, oS) (.tail _ (.tail _ (.head _)))
      · have := nlt q hq; show @Ne Nat _ _; omega
    refine Turn.mk (news₂ := (Wa, W.listOf (ws ++ [Value.ref D5]).toArray (n + 1)) :: (L' + 1 + 1, oM5) :: (L' + 1, oS5) :: ((add5 ++ add) ++ news)) F5 (fun q hq => N5 q ?n5) ?ap7 ⟨⟨ek5, er5, ew5⟩, ws ++ [Value.ref D5], n + 1, oM5, oS5, _, _, tab5, add5 ++ add, (fun q hq => hq), dM5, dS5, ?ap8, tb5⟩
    case n5 =>
      rcases List.mem_append.mp hq with hq | hq
      · exact .tail _ (.tail _ (.tail _ (List.mem_append_right _ (List.mem_append_left _ hq))))
      rcases List.mem_cons.mp hq with rfl | hq
      · exact .head _
      rcases List.mem_cons.mp hq with rfl | hq
      · exact .tail _ (.head _)
      rcases List.mem_cons.mp hq with rfl | hq
      · exact .tail _ (.tail _ (.head _))
      rw [List.append_assoc] at hq
      rcases List.mem_append.mp hq with hq | hq
      · exact .tail _ (.tail _ (.tail _ (List.mem_append_left _ hq)))
      · exact .tail _ (.tail _ (.tail _ (List.mem_append_right _ (List.mem_append_right _ hq))))
    case ap7 =>
      intro r hr q hq
      rcases List.mem_cons.mp hq with rfl | hq
      · exact apo' (Wa, W.listOf ws.toArray n) (.head _) r hr
      rcases List.mem_cons.mp hq with rfl | hq
      · exact apo' (L' + 1 + 1, oM') (.tail _ (.head _)) r hr
      rcases List.mem_cons.mp hq with rfl | hq
      · exact apo' (L' + 1, oS') (.tail _ (.tail _ (.head _))) r hr
      rw [List.append_assoc] at hq
      rcases List.mem_append.mp hq with hq | hq
      · exact Ne.symm (ap5 q hq r (.tail _ (.tail _ (.tail _ (List.mem_append_left _ hr)))))
      · exact apo' q (.tail _ (.tail _ (.tail _ hq))) r hr
    case ap8 =>
      intro q hq r hr
      rcases List.mem_append.mp hq with hq | hq
      · rcases List.mem_cons.mp hr with rfl | hr
        · exact ap5 q hq (Wa, oM') (.head _)
        rcases List.mem_cons.mp hr with rfl | hr
        · exact ap5 q hq (L' + 1 + 1, oM') (.tail _ (.head _))
        rcases List.mem_cons.mp hr with rfl | hr
        · exact ap5 q hq (L' + 1, oS') (.tail _ (.tail _ (.head _)))
        · exact ap5 q hq r (.tail _ (.tail _ (.tail _ (List.mem_append_right _ (List.mem_append_right _ hr)))))
      · exact ap q hq r hr
  case done =>
    intro h6 k6 m6 nw6 F6 N6 hJ
    obtain ⟨⟨ek, er, ew⟩, ws, n, oM', oS', vM, vS, tab, add, hsub, dM', dS', ap, tb⟩ := hJ
    obtain ⟨v, hv, b2, b3, b4, hL⟩ := tb.at (Nat.le_refl _)
    have p2 : (2 : Nat) ^ x.length ≤ 2 ^ 7 := Nat.pow_le_pow_right (by decide) (hx7 ())
    repeat (first | walk1 | (dsimp only; walk1))
    rename News _ _ _ _ => N7
    refine item_listL (l := ws) (x := v) ⟨_, (N7 _ (hsub _ (.head _))).1, rfl, _, rfl⟩ (by omega) (by omega) (by rw [Int.toNat_natCast]; exact hv) ?_
    refine leaveK_ (by k_asm) (fun q hq => N7 q (hsub q (.tail _ (.tail _ (.tail _ hq))))) (fun Fk Nk => ?_)
    exact k _ _ v (tab.getD x.length []) add (tb.best _ (Nat.le_refl _)) b3 (by omega) hL (fun q hq r hr => ap q hq r (.tail _ (.tail _ (.tail _ hr)))) Fk Nk
end
end Mine
end
section
theorem Mine.fresh_J12 : True := by
  w_top off
  trivial
open PySem PySem.W PyProof.Rows PySem.Spec PySem.Calls
set_option Elab.async false
set_option maxRecDepth 100000
set_option maxHeartbeats 8000000
namespace Mine
section
variable {w : World} {s : Shared} {h₀ : Heap} {L : Addr} {m : Str → Option Value} {news : List (Addr × Obj)} {p : Program} {loose : List Str} {mean : ExcName → Option Value} {mg mb : Str → Option Value}
  {name qual : Str} {params : Arguments} {body : List Stmt} {scope : Scope} {dV kV doc pm cdv ct oc : Value} {an od : Option Addr} {osl : Array (Option Value)} {oW oR oV oK oZ : Obj}
local macro_rules | `(tactic| walk_at "eval Name") => `(tactic| (k_here; (with_reducible show wpAny _ _ (eval (Expr.Name _ _) (envOfC _ _ _ _ _)) _ _ _); name_kind "local"; k_dflt (refine' nameX_L ?k1 ?k2 ?_; (case k1 => k_asm); (case k2 => first | exact rfl | (repeat (first | assumption | exact if_pos rfl | refine (if_neg (by decide)).trans ?_))); k_whole)))
local macro_rules | `(tactic| walk_at "eval ListComp") => `(tactic| (k_here; k_dflt (refine ListComp_X (_F₀ := by k_asm) (by with_unfolding_all rfl) (by decide) (by rfl) (by decide) (by rfl) ?_)))
local macro_rules | `(tactic| walk_at "pyIter") => `(tactic| fail "stop here")
/-- the ways of the rows, as they lie in the ledger -/
def RowWays (nw : List (Addr × Obj)) (key : Str) (rows : List Str) (ys : List Value) : Prop :=
  ∀ (i : Nat) v, ys[i]? = some v → ∃ ls r, rows[i]? = some r ∧ Best key.cps.toList r.cps.toList r.length ls ∧ 0 < ls.length ∧ ls.length ≤ 128 ∧ ListIn nw v ls
def WaysInv (base : List (Addr × Obj)) (key : Str) (rows : List Str) (ys : List Value) (nw : List (Addr × Obj)) : Prop :=
  ∃ add, nw = add ++ base ∧ Apart2 add base ∧ RowWays add key rows ys
theorem j12 {st : Stmt} {w1 : Nat} {D : Addr} {zs : List Value} {rows : List Str} {key : Str} {tK : Tok} {v0 : Option Value} {Q : Flow → Shared → Prop} {E : Value → Shared → Prop}
    (KX : (hd03.heap_39 w.params).In h₀) (T : Top p loose mean mg mb h₀)
    (hl : (hd03.heap_39 w.params).lookup 68 = some ⟨oc, od, .func (fnOf name qual params body scope dV kV doc pm an cdv ct), osl⟩) (hb : body[12]? = some st)
    (F : Fr h₀ L s.heap m) (N : News h₀ L s.heap ((L + 1 + 1 + 1 + 1 + 1, oW) :: (L + 1 + 1 + 1 + 1, oR) :: (L + 1 + 1, oK) :: (D, LCg.lst zs) :: news)) (dW : oW.data = .cell v0) (dR : oR.data = .cell (some (.ref D))) (dK : oK.data = .cell (some (.str key tK)))
    (ap : ∀ q ∈ (D, LCg.lst zs) :: news, q.1 ≠ L + 1 + 1 + 1 + 1 + 1) (hz : StrsAre zs rows) (hn : rows.length ≤ 11) (hr : ∀ r ∈ rows, r.length = w1 ∧ ∀ c ∈ r.cps.toList, sgR c) (hw7 : w1 ≤ 7) (hk1 : 1 ≤ key.length) (hk3 : key.length ≤ 3)
    (k : ∀ h' tk oW' Dw ys add, ys.length = rows.length → RowWays add key rows ys → Fr h₀ L h' m → News h₀ L h' ((L + 1 + 1 + 1 + 1 + 1, oW') :: (L + 1 + 1 + 1 + 1, oR) :: (L + 1 + 1, oK) :: (D, LCg.lst zs) :: (Dw, LCg.lst ys) :: (add ++ news)) → oW'.data = .cell (some (.ref Dw)) → Q .next { s with heap := h', toks := tk }) :
    wpAny (model PySem.Challenge.rw_kt0002_03.row.prog w) (callerA.deeper (envOfC (Str.ofString "law") scope L 68 cdv)) (exec st (envOfC (Str.ofString "law") scope L 68 cdv)) Q E s := by
  revert KX; k_fill; intro KX
  have e := hl.symm.trans (by k_is)
  cases e
  cases hb
  repeat (first | walk1 | (dsimp only; walk1))
  have hzl := hz.len_eq
  refine' go_listG (its := zs.toArray) (Inv := WaysInv ((L + 1 + 1 + 1 + 1 + 1, oW) :: (L + 1 + 1 + 1 + 1, oR) :: (L + 1 + 1, oK) :: (D, LCg.lst zs) :: news) key rows) rfl ?F ?N (Or.inr ⟨LCg.lst zs, .tail _ (.tail _ (.tail _ (.head _))), rfl, _, rfl⟩) ?sz ?h0 ?step ?fin
  case F => k_asm
  case N => k_asm
  case sz => rw [sizeLine_eq, List.size_toArray]; omega
  case h0 => exact ⟨[], rfl, (fun _ h => nomatch h), fun i v e => by simp at e⟩
  case step =>
    intro i v I oI C oC Dc ys nw m₂ h tk E' hi8 hP hoC hv F N off hne hyl hI
    obtain ⟨add, rfl, apA, hI⟩ := hI
    obtain ⟨r, t, hri, rfl⟩ := strs_at hz (by simpa using hP)
    have hrl := (hr r (List.mem_of_getElem? hri)).1
    obtain ⟨all, hall⟩ : ∃ all, all = (I, oI) :: (C, oC) :: (Dc, LCg.lst ys) :: (add ++ (L + 1 + 1 + 1 + 1 + 1, oW) :: (L + 1 + 1 + 1 + 1, oR) :: (L + 1 + 1, oK) :: (D, LCg.lst zs) :: news) := ⟨_, rfl⟩
    rw [← hall] at N
    have hmC : (C, oC) ∈ all := hall ▸ .tail _ (.head _)
    have hmK : (L + 1 + 1, oK) ∈ all := hall ▸ .tail _ (.tail _ (.tail _ (List.mem_append_right _ (.tail _ (.tail _ (.head _))))))
    have N9 : News h₀ L h ((C, oC) :: (L + 1 + 1, oK) :: all) := fun q hq => N q (by
      rcases List.mem_cons.mp hq with rfl | hq
      · exact hmC
      rcases List.mem_cons.mp hq with rfl | hq
      · exact hmK
      · exact hq)
    clear N off
    repeat (first | walk1 | (dsimp only; walk1))
    refine' most03 (below_caller h₀) F KX N9 T ?hA ?hf ?hke ?hr rfl (by omega) hk1 (by omega) ?_
    case hA => exact rfl
    case hf => exact rfl
    case hke => exact rfl
    case hr => show (callerA.depth + 1 : Nat) < recursionLimit; decide
    intro h5 tk5 v5 ls own hB hp0 h128 hL apO F5 N5
    have apO' : ∀ q ∈ own, ∀ p ∈ all, q.1 ≠ p.1 := fun q hq p hp => apO q hq p (.tail _ (.tail _ hp))
    rw [hall] at apO'
    have N5' : ∀ q ∈ own ++ all, q ∈ own ++ (C, oC) :: (L + 1 + 1, oK) :: all := fun q hq => by
      rcases List.mem_append.mp hq with hq | hq
      · exact List.mem_append_left _ hq
      · exact List.mem_append_right _ (.tail _ (.tail _ hq))
    rw [hall] at N5'
    refine ⟨h5, tk5, own, rfl, F5, fun q hq => N5 q (hall ▸ N5' q ?_), off3_mk fun q hq => ⟨apO' q hq _ (.head _), apO' q hq _ (.tail _ (.head _)), apO' q hq _ (.tail _ (.tail _ (.head _)))⟩, own ++ add, by rw [List.append_assoc], fun q hq p hp => ?_, fun j u e => ?_⟩
    · rcases List.mem_cons.mp hq with rfl | hq
      · exact List.mem_append_right _ (.head _)
      rcases List.mem_cons.mp hq with rfl | hq
      · exact List.mem_append_right _ (.tail _ (.head _))
      rcases List.mem_cons.mp hq with rfl | hq
      · exact List.mem_append_right _ (.tail _ (.tail _ (.head _)))
      rcases List.mem_append.mp hq with hq | hq
      · exact List.mem_append_left _ hq
      · exact List.mem_append_right _ (.tail _ (.tail _ (.tail _ hq)))
    · rcases List.mem_append.mp hq with hq | hq
      · exact apO' q hq p (.tail _ (.tail _ (.tail _ (List.mem_append_right _ hp))))
      · exact apA q hq p hp
    · rcases Nat.lt_or_ge j ys.length with hj | hj
      · rw [List.getElem?_append_left hj] at e
        obtain ⟨ls', r', a, b, c, d, f⟩ := hI j u e
        exact ⟨ls', r', a, b, c, d, f.mono fun q hq => List.mem_append_right _ hq⟩
      · rw [List.getElem?_append_right hj] at e
        have hj0 : j - ys.length = 0 := by
          have := (List.getElem?_eq_some_iff.mp e).1
          simpa using this
        rw [hj0] at e
        obtain rfl : v5 = u := by simpa using e
        have hji : j = i := by omega
        exact ⟨ls, r, hji ▸ hri, hB, hp0, h128, hL.mono fun q hq => List.mem_append_left _ hq⟩
  case fin =>
    intro g5 ys nw hyl hys
    unfold LCg.FinE
    intro D2 h2 tk2 F2 N2 o2
    obtain ⟨add, rfl, apA, hI⟩ := hys
    have o3 := off1_of o2
    have N3 : News h₀ L h2 ((L + 1 + 1 + 1 + 1 + 1, oW) :: (L + 1 + 1 + 1 + 1, oR) :: (L + 1 + 1, oK) :: (D, LCg.lst zs) :: (D2, LCg.lst ys) :: (add ++ news)) := fun q hq => N2 q (by
      rcases List.mem_cons.mp hq with rfl | hq
      · exact .tail _ (List.mem_append_right _ (.head _))
      rcases List.mem_cons.mp hq with rfl | hq
      · exact .tail _ (List.mem_append_right _ (.tail _ (.head _)))
      rcases List.mem_cons.mp hq with rfl | hq
      · exact .tail _ (List.mem_append_right _ (.tail _ (.tail _ (.head _))))
      rcases List.mem_cons.mp hq with rfl | hq
      · exact .tail _ (List.mem_append_right _ (.tail _ (.tail _ (.tail _ (.head _)))))
      rcases List.mem_cons.mp hq with rfl | hq
      · exact .head _
      rcases List.mem_append.mp hq with hq | hq
      · exact .tail _ (List.mem_append_left _ hq)
      · exact .tail _ (List.mem_append_right _ (.tail _ (.tail _ (.tail _ (.tail _ hq))))))
    clear N2
    refine storeX_C (c := L + 1 + 1 + 1 + 1 + 1) F2 N3 rfl (.head fun q hq => ?u5) dW (fun h4 oW' F4 N4 d4 => ?_)
    case u5 =>
      rcases List.mem_cons.mp hq with rfl | hq
      · show @Ne Nat _ _; omega
      rcases List.mem_cons.mp hq with rfl | hq
      · show @Ne Nat _ _; omega
      rcases List.mem_cons.mp hq with rfl | hq
      · exact ap _ (.head _)
      rcases List.mem_cons.mp hq with rfl | hq
      · exact Ne.symm (o3 (L + 1 + 1 + 1 + 1 + 1, oW) (List.mem_append_right _ (.head _)))
      rcases List.mem_append.mp hq with hq | hq
      · exact apA q hq (L + 1 + 1 + 1 + 1 + 1, oW) (.head _)
      · exact ap q (.tail _ hq)
    exact k _ _ oW' D2 ys add (by rw [hyl, List.size_toArray, hzl]) hI F4 N4 d4
end
end Mine
end
section
theorem Mine.fresh_X6 : True := by
  w_top off
  trivial
open PySem PySem.W PyProof.Rows PySem.Spec PySem.Calls
set_option Elab.async false
set_option maxRecDepth 100000
set_option maxHeartbeats 4000000
namespace Mine
section
variable {prog : Program} {w : World} {A : Around} {E : Value → Shared → Prop} {s : Shared} {env : Env} {h₀ : Heap} {x : Str} {body : List Stmt} {Q : Flow → Shared → Prop}
/-- a loop over a tuple, with one ledger -/
theorem loop_tuple {tx : Addr} {its : Array Value} {m₀ : Str → Option Value} {news : List (Addr × Obj)} (J : Nat → (Str → Option Value) → Prop) (hh : A.handled = none) (ht : s.heap.IsTuple tx its) (htx : tx ≠ env.locals)
    (F : Fr h₀ env.locals s.heap m₀) (N : News h₀ env.locals s.heap news) (h0 : J 0 m₀)
    (step : ∀ i v m₁ s₁ own, its[i]? = some v → J i m₁ → Fr h₀ env.locals s₁.heap (fun y => if y = x then some v else m₁ y) → News h₀ env.locals s₁.heap (own ++ news) →
      wpAny (model prog w) A (execs body env) (fun f s₂ => f = .next ∧ ∃ h' tk m₂, s₂ = { s₁ with heap := h', toks := tk } ∧ Fr h₀ env.locals h' m₂ ∧ News h₀ env.locals h' (own ++ news) ∧ J (i + 1) m₂) E s₁)
    (done : ∀ h' tk m', Fr h₀ env.locals h' m' → News h₀ env.locals h' news → J its.size m' → Q .next { s with heap := h', toks := tk }) :
    wpAny (model prog w) A (pyIter (.ref tx)) (fun it s₂ => LoopAtU prog w A h₀ env x body Q E it s₂) E s := by
  have hlt : tx < s.heap.objs.size := by obtain ⟨_, e, _⟩ := ht; exact Heap.lt_size e
  refine wpAny_pyIter_tuple ht ?_
  have hnew := next_is_new F
  refine ⟨s.heap.objs.size, _, _, its.size, _, _, m₀, news, fun i m nw => J i m ∧ nw = news, rfl, Walks.tuple hh s.heap.objs.size tx (Nat.ne_of_lt hlt) its, ?_, ?_, ?_, ⟨⟨_, Heap.get?_push_size _ rfl, rfl, rfl⟩, ?_⟩, F.push _, (fun p hp => ⟨Heap.get?_push_of_some _ (N p hp).1, (N p hp).2⟩), ⟨h0, rfl⟩, ?_, ?_⟩
  · intro hm
    rcases List.mem_cons.mp hm with e | hm
    · exact absurd F.ns.lt (e ▸ Nat.lt_irrefl _)
    · exact htx (List.mem_singleton.mp hm).symm
  · intro b hb
    rw [List.mem_singleton.mp hb]
    exact hnew
  · intro p hp hI
    exact absurd (Heap.lt_size (N p hp).1) ((List.mem_singleton.mp hI) ▸ Nat.lt_irrefl _)
  · obtain ⟨o, e, r⟩ := ht
    exact ⟨o, Heap.get?_push_of_some _ e, r⟩
  · rintro i v m₁ news₁ s₁ own hi hP ⟨hJ, rfl⟩ hoff hown hget hall hst F₁ N₁
    refine wpAny_mono (step i v m₁ s₁ own hP hJ F₁ N₁) (fun f s₂ h => ?_) fun _ _ e => e
    obtain ⟨rfl, h', tk, m₂, rfl, F₂, N₂, j⟩ := h
    exact LoopStepU.intro F₂ N₂ hoff ⟨j, rfl⟩
  · rintro h' tk m' news' F' N' _ ⟨hJ, rfl⟩
    exact done h' tk m' F' N' hJ
end
end Mine
end
section
theorem Mine.fresh_V03 : True := by
  w_top off
  trivial
open PySem PySem.W PyProof.Rows PySem.Spec PySem.Calls
set_option Elab.async false
set_option maxRecDepth 100000
set_option maxHeartbeats 8000000
namespace Mine
section
variable {w : World} {A A₀ : Around} {s : Shared} {base h₀ : Heap} {outer : List Env} {L : Addr} {env : Env} {m : Str → Option Value} {news : List (Addr × Obj)} {p : Program} {loose : List Str} {mean : ExcName → Option Value} {mg mb : Str → Option Value}
local macro_rules | `(tactic| walk_at "eval Name") => `(tactic| (k_here; k_dflt (refine' ld ?k1 ?k2 ?_; (case k1 => k_asm); (case k2 => first | exact rfl | (repeat (first | assumption | exact if_pos rfl | refine (if_neg (by decide)).trans ?_))); k_whole)))
theorem laid03 {x v : Str} {t u : Tok} {D : Addr} {vs : List Value} {n : Nat} {ls : List Nat} {Q E : Value → Shared → Prop}
    (B : Below A₀ base outer h₀) (F : Fr h₀ L s.heap m) (KX : (hd03.heap_39 w.params).In h₀) (N : News h₀ L s.heap news) (T : Top p loose mean mg mb h₀) (hA : A.frames = some (env :: outer)) (hf : env.frame = some L) (hke : env.scope.kind = .function)
    (hroom : A.depth < recursionLimit) (hh : A.handled = none) (hDL : (D, (⟨.type "tuple", none, .seq vs.toArray n, #[]⟩ : Obj)) ∈ news) (hi : IntsAre vs (ls.map fun c : Nat => (c : Int))) (hz : x.length ≤ 10) (hv : v.length ≤ 3) (hls : ∀ s ∈ ls, s + v.length ≤ x.length)
    (k : ∀ y t' h' tk, y.cps.toList = laid v.cps.toList x.cps.toList ls ++ [124] → Fr h₀ L h' m → News h₀ L h' news → Q (.str y t') { s with heap := h', toks := tk }) :
    wpAny (model PySem.Challenge.rw_kt0002_03.row.prog w) A (call (.ref 63) [.str x t, .ref D, .str v u]) Q E s := by
  revert KX; k_fill; intro KX
  refine wpAny_call ?_
  refine' code_def (binds := [(Str.ofString "row", .str x t), (Str.ofString "starts", .ref D), (Str.ofString "value", .str v u)]) B F KX N T hA hf hke ?k6 ?k7 hroom ?k9 ?kB ?_ ?c2 ?c3 ?c4 ?c5
  case k6 => k_is
  case k7 => k_is
  case k9 => exact BindsTo.of_eq rfl
  case kB => exact locs rfl
  case c2 => exact rfl
  case c3 => exact rfl
  case c4 => exact rfl
  case c5 => decide
  k_whole
  intro g L' h₁ FG F' N' B' KX' T'
  clear N F
  refine wpAny_mono (E := fun _ _ => False) ?_ (fun _ _ x => x) (fun _ _ x => x.elim)
  refine wpAny_execs_cons (For_invU g (by rfl) (by rfl) ?_)
  walk1
  have hvl := hi.length
  rw [List.length_map] at hvl
  refine loop_tuple (its := vs.toArray) (fun i m' => (∃ t', m' (Str.ofString "value") = some (.str v t')) ∧ ∃ r t', m' (Str.ofString "row") = some (.str r t') ∧ r.length = x.length ∧ r.cps.toList = laid v.cps.toList x.cps.toList (ls.take i)) hh ⟨_, (N' _ hDL).1, rfl, _, rfl⟩ ?ne F' N' ⟨⟨u, rfl⟩, x, t, rfl, rfl, rfl⟩ ?step ?done
  case ne => first | exact (N' _ hDL).2.1 | exact Ne.symm (N' _ hDL).2.1
  case done =>
    rintro h2 tk2 m2 F2 N2 ⟨_, r, t', er, hrl, hr⟩
    rw [List.size_toArray, hvl, List.take_length] at hr
    repeat (first | walk1 | (dsimp only; walk1))
    refine k _ _ _ _ ?_ (by k_asm) (by k_asm)
    rw [Str.cps_append, Array.toList_append, hr]; rfl
  case step =>
    rintro i v' m₁ s₁ own hv' ⟨⟨t1, e1'⟩, r, t2, e2, hrl, hr⟩ F₁ N₁
    obtain ⟨s0, t3, hs0, rfl⟩ : ∃ (c : Nat) (t : Tok), ls[i]? = some c ∧ v' = .int (c : Int) t := by
      obtain ⟨n, t, rfl, hn⟩ := hi.at i v' (by simpa using hv')
      rw [List.getElem?_map] at hn
      cases e : ls[i]? with
      | none => rw [e] at hn; cases hn
      | some c => rw [e] at hn; cases hn; exact ⟨c, t, rfl, rfl⟩
    have hle := hls s0 (List.mem_of_getElem? hs0)
    repeat (first | walk1 | (dsimp only; walk1))
    · k_asm
    · have e1 : ((s0 : Int) + (v.length : Int)) = ((s0 + v.length : Nat) : Int) := by omega
      have hcps : (Txt.slice r none (some (s0 : Int)) ++ v ++ Txt.slice r (some ((s0 : Int) + (v.length : Int))) none).cps.toList = lay v.cps.toList r.cps.toList s0 := by
        have hvl : v.cps.toList.length = v.length := by simp [Str.length]
        rw [e1, Str.cps_append, Str.cps_append, Array.toList_append, Array.toList_append, slice_to _ (by omega), slice_from _ (by omega)]
        unfold lay
        rw [hvl]
      have hlen : (Txt.slice r none (some (s0 : Int)) ++ v ++ Txt.slice r (some ((s0 : Int) + (v.length : Int))) none).length = x.length := by
        have h1 := congrArg List.length hcps
        rw [lay_len (by simp [Str.length] at *; omega)] at h1
        simp [Str.length] at h1 hrl ⊢
        omega
      refine ⟨by k_asm, ⟨t1, (if_neg (by decide)).trans ((if_neg (by decide)).trans e1')⟩, _, _, if_pos rfl, hlen, ?_⟩
      rw [hcps, hr, List.take_add_one, hs0, laid_eq, laid_eq, List.foldl_append]
      rfl
end
end Mine
end
section
theorem Mine.fresh_J13 : True := by
  w_top off
  trivial
open PySem PySem.W PyProof.Rows PySem.Spec PySem.Calls
set_option Elab.async false
set_option maxRecDepth 100000
set_option maxHeartbeats 8000000
namespace Mine
section
variable {w : World} {s : Shared} {h₀ : Heap} {L : Addr} {m : Str → Option Value} {news : List (Addr × Obj)} {p : Program} {loose : List Str} {mean : ExcName → Option Value} {mg mb : Str → Option Value}
  {name qual : Str} {params : Arguments} {body : List Stmt} {scope : Scope} {dV kV doc pm cdv ct oc : Value} {an od : Option Addr} {osl : Array (Option Value)} {oW oR oV oK oZ : Obj}
local macro_rules | `(tactic| walk_at "eval Name") => `(tactic| (k_here; (with_reducible show wpAny _ _ (eval (Expr.Name _ _) (envOfC _ _ _ _ _)) _ _ _); name_kind "local"; k_dflt (refine' nameX_L ?k1 ?k2 ?_; (case k1 => k_asm); (case k2 => first | exact rfl | (repeat (first | assumption | exact if_pos rfl | refine (if_neg (by decide)).trans ?_))); k_whole)))
local macro_rules | `(tactic| walk_at "eval ListComp") => `(tactic| (k_here; k_dflt (refine ListComp_X (_F₀ := by k_asm) (by with_unfolding_all rfl) (by decide) (by rfl) (by decide) (by rfl) ?_)))
local macro_rules | `(tactic| walk_at "pyIter") => `(tactic| fail "stop here")
theorem strs_by (g : List Nat → List Nat) : ∀ {rows : List Str} {ys : List Value}, ys.length = rows.length → (∀ (i : Nat) (v : Value), ys[i]? = some v → ∃ r sg t, rows[i]? = some r ∧ v = Value.str sg t ∧ sg.cps.toList = g r.cps.toList) →
    ∃ ss : List Str, StrsAre ys ss ∧ ss.length = rows.length ∧ (ss.map fun x => x.cps.toList) = rows.map fun r => g r.cps.toList
  | [], [], _, _ => ⟨[], .nil, rfl, rfl⟩
  | r :: rows, v :: ys, hl, h => by
    obtain ⟨q, sg, t, hq, rfl, hg⟩ := h 0 v rfl
    obtain rfl : r = q := by simpa using hq
    obtain ⟨ss, h1, h2, h3⟩ := strs_by g (rows := rows) (ys := ys) (by simpa using hl) fun i v e => h (i + 1) v e
    exact ⟨sg :: ss, .cons _ _ h1, by rw [List.length_cons, List.length_cons, h2], by rw [List.map_cons, List.map_cons, hg, h3]⟩
theorem sum_by {g : List Nat → List Nat} {B : Nat} : ∀ {rows ss : List Str}, (ss.map fun x => x.cps.toList) = (rows.map fun r => g r.cps.toList) → (∀ r ∈ rows, (g r.cps.toList).length ≤ B) → (ss.map (·.length)).sum ≤ rows.length * B
  | [], [], _, _ => by simp
  | [], _ :: _, h, _ => by simp at h
  | _ :: _, [], h, _ => by simp at h
  | r :: rows, s :: ss, h, hb => by
    rw [List.map_cons, List.map_cons, List.cons.injEq] at h
    have h1 := sum_by h.2 fun q hq => hb q (.tail _ hq)
    have h2 := hb r (.head _)
    rw [← h.1] at h2
    have e : s.length = s.cps.toList.length := by simp [Str.length]
    rw [List.map_cons, List.sum_cons, List.length_cons, Nat.succ_mul]
    omega
theorem j13 {st : Stmt} {w1 : Nat} {D Dw : Addr} {zs ys : List Value} {rows : List Str} {key val : Str} {tV : Tok} {add : List (Addr × Obj)} {Q : Flow → Shared → Prop} {E : Value → Shared → Prop}
    (KX : (hd03.heap_39 w.params).In h₀) (T : Top p loose mean mg mb h₀)
    (hl : (hd03.heap_39 w.params).lookup 68 = some ⟨oc, od, .func (fnOf name qual params body scope dV kV doc pm an cdv ct), osl⟩) (hb : body[13]? = some st)
    (F : Fr h₀ L s.heap m) (N : News h₀ L s.heap ((L + 1 + 1 + 1 + 1 + 1, oW) :: (L + 1 + 1 + 1 + 1, oR) :: (L + 1 + 1 + 1, oV) :: (D, LCg.lst zs) :: (Dw, LCg.lst ys) :: (add ++ news))) (dW : oW.data = .cell (some (.ref Dw))) (dR : oR.data = .cell (some (.ref D))) (dV' : oV.data = .cell (some (.str val tV)))
    (hz : StrsAre zs rows) (hn : rows.length ≤ 11) (hr : ∀ r ∈ rows, r.length = w1 ∧ ∀ c ∈ r.cps.toList, sgR c) (hw7 : w1 ≤ 7) (hk1 : 1 ≤ key.length) (hk3 : key.length ≤ 3) (hvk : val.length = key.length) (hyl : ys.length = rows.length) (hW : RowWays add key rows ys)
    (k : ∀ h' tk x t, x.cps.toList = (rows.map fun r => r.cps.toList).flatMap (fun r => rep key.cps.toList val.cps.toList 0 r ++ [124]) → Fr h₀ L h' (fun y => if y = Str.ofString "earliest" then some (.str x t) else m y) → News h₀ L h' ((L + 1 + 1 + 1 + 1 + 1, oW) :: (L + 1 + 1 + 1 + 1, oR) :: (L + 1 + 1 + 1, oV) :: (D, LCg.lst zs) :: (Dw, LCg.lst ys) :: (add ++ news)) → Q .next { s with heap := h', toks := tk }) :
    wpAny (model PySem.Challenge.rw_kt0002_03.row.prog w) (callerA.deeper (envOfC (Str.ofString "law") scope L 68 cdv)) (exec st (envOfC (Str.ofString "law") scope L 68 cdv)) Q E s := by
  revert KX; k_fill; intro KX
  have e := hl.symm.trans (by k_is)
  cases e
  cases hb
  have hzl := hz.len_eq
  have hz9 : zs.length ≤ 11 := by omega
  have hz9' : Unit → zs.length ≤ 11 := fun _ => hz9
  have hz1 : zs.length ≤ 1000 := by omega
  have hzB : Unit → StrsAre zs rows := fun _ => hz
  clear hz9 hn
  obtain ⟨rest, hrest⟩ : ∃ rest, rest = (Dw, LCg.lst ys) :: (add ++ news) := ⟨_, rfl⟩
  rw [← hrest] at N k
  repeat (first | walk1 | (dsimp only; walk1))
  rename IsRange _ _ _ _ _ _ _ _ => hrg
  have hn9 := hz9' ()
  refine' go_range (n := rows.length) (R := fun i y => ∃ (r sg : Str) (t : Tok), rows[i]? = some r ∧ y = Value.str sg t ∧ sg.cps.toList = rep key.cps.toList val.cps.toList 0 r.cps.toList ++ [124]) rfl ?F ?N hrg ?small ?rs ?sz ?step ?fin
  case F => k_asm
  case N => k_asm
  case small => exact small_one (by decide) (by decide) (by omega) (by omega)
  case rs => rw [rangeSize_nat]; simp
  case sz => rw [sizeLine_eq]; omega
  case step =>
    intro i v I oI C oC Dc ws m₂ h tk E' hi8 hP hoC hv F N off hne
    obtain ⟨ti, rfl⟩ := hP
    have ei : ((0 : Int) + (i : Int)) = (i : Int) := by omega
    rw [ei] at hv
    obtain ⟨zv, hzv⟩ : ∃ zv, zs[i]? = some zv := ⟨_, List.getElem?_eq_getElem (by omega)⟩
    obtain ⟨r, t, hri, rfl⟩ := strs_at (hzB ()) hzv
    obtain ⟨yv, hyv⟩ : ∃ yv, ys[i]? = some yv := ⟨_, List.getElem?_eq_getElem (by omega)⟩
    obtain ⟨ls, r', hri', hB, hp0, h128, Dl, vs, nl, rfl, hDl, hvs⟩ := hW i yv hyv
    obtain rfl : r = r' := Option.some.inj (hri.symm.trans hri')
    have hrl := (hr r (List.mem_of_getElem? hri)).1
    obtain ⟨all, hall⟩ : ∃ all, all = (I, oI) :: (C, oC) :: (Dc, LCg.lst ws) :: (L + 1 + 1 + 1 + 1 + 1, oW) :: (L + 1 + 1 + 1 + 1, oR) :: (L + 1 + 1 + 1, oV) :: (D, LCg.lst zs) :: rest := ⟨_, rfl⟩
    rw [← hall] at N ⊢
    have hmC : (C, oC) ∈ all := hall ▸ .tail _ (.head _)
    have hmW : (L + 1 + 1 + 1 + 1 + 1, oW) ∈ all := hall ▸ .tail _ (.tail _ (.tail _ (.head _)))
    have hmR : (L + 1 + 1 + 1 + 1, oR) ∈ all := hall ▸ .tail _ (.tail _ (.tail _ (.tail _ (.head _))))
    have hmV : (L + 1 + 1 + 1, oV) ∈ all := hall ▸ .tail _ (.tail _ (.tail _ (.tail _ (.tail _ (.head _)))))
    have hmD : (D, LCg.lst zs) ∈ all := hall ▸ .tail _ (.tail _ (.tail _ (.tail _ (.tail _ (.tail _ (.head _))))))
    have hmr : ∀ q ∈ rest, q ∈ all := fun q hq => hall ▸ .tail _ (.tail _ (.tail _ (.tail _ (.tail _ (.tail _ (.tail _ hq))))))
    have hmY : (Dw, LCg.lst ys) ∈ all := hmr _ (hrest ▸ .head _)
    have hma : ∀ q ∈ add, q ∈ all := fun q hq => hmr _ (hrest ▸ .tail _ (List.mem_append_left _ hq))
    have N9 : News h₀ L h ((C, oC) :: (L + 1 + 1 + 1 + 1 + 1, oW) :: (L + 1 + 1 + 1 + 1, oR) :: (L + 1 + 1 + 1, oV) :: all) := fun q hq => N q (by
      rcases List.mem_cons.mp hq with rfl | hq
      · exact hmC
      rcases List.mem_cons.mp hq with rfl | hq
      · exact hmW
      rcases List.mem_cons.mp hq with rfl | hq
      · exact hmR
      rcases List.mem_cons.mp hq with rfl | hq
      · exact hmV
      · exact hq)
    clear N off hrg
    repeat (first | walk1 | (dsimp only; walk1))
    refine item_listL (l := zs) (x := .str r t) ⟨_, (N9 _ (.tail _ (.tail _ (.tail _ (.tail _ hmD))))).1, rfl, _, rfl⟩ (by omega) (by omega) (by rw [Int.toNat_natCast]; exact hzv) ?_
    (try dsimp only)
    repeat (first | walk1 | (dsimp only; walk1))
    refine item_listL (l := ys) (x := .ref Dl) ⟨_, (N9 _ (.tail _ (.tail _ (.tail _ (.tail _ hmY))))).1, rfl, _, rfl⟩ (by omega) (by omega) (by rw [Int.toNat_natCast]; exact hyv) ?_
    (try dsimp only)
    repeat (first | walk1 | (dsimp only; walk1))
    refine min_ways (ls := ls) (vs := vs) rfl (by simp only [units_deeper, Around.mark_units, units_caller]; decide) F N9 ⟨_, (N9 _ (.tail _ (.tail _ (.tail _ (.tail _ (hma _ hDl)))))).1, rfl, _, rfl⟩ ((hvs.mono fun q hq => .tail _ (.tail _ (.tail _ (.tail _ (hma q hq))))).at N9) hp0 (fun j v x h5 tk5 hj1 hj2 hmin F5 N5 => ?_)
    obtain ⟨x', hx', a, tv, nt, rfl, ha, hai⟩ := hvs.2 j v hj1
    obtain rfl : x = x' := Option.some.inj (hj2.symm.trans hx')
    have hrc : r.cps.toList.length = r.length := by simp [Str.length]
    have hkc : key.cps.toList.length = key.length := by simp [Str.length]
    have hvc : val.cps.toList.length = val.length := by simp [Str.length]
    have hway := ((hB x).mp (List.mem_of_getElem? hj2)).1
    rw [List.take_of_length_le (by rw [hrc]; exact Nat.le_refl _)] at hway
    have hin := way_in (by rw [hkc]; exact hk1) hway
    have hear := earliest (v := val.cps.toList) (by rw [hkc]; exact hk1) (by rw [hkc, hvc]; exact hvk) (by rw [hrc]; exact hB) (List.mem_of_getElem? hj2) hmin
    clear F N9
    repeat (first | walk1 | (dsimp only; walk1))
    rename Fr _ _ _ _ => F6
    rename News _ _ _ _ => N6
    refine' laid03 (ls := x) (below_caller h₀) F6 KX N6 T ?hA ?hf ?hke ?hr rfl (.tail _ (.tail _ (.tail _ (.tail _ (hma _ ha))))) hai (by omega) (by omega) ?hls ?_
    case hA => exact rfl
    case hf => exact rfl
    case hke => exact rfl
    case hr => show (callerA.depth + 1 : Nat) < recursionLimit; decide
    case hls => intro s0 hs0; have := hin s0 hs0; rw [hkc, hrc] at this; omega
    intro sg t7 h7 k7 hsg F7 N7
    exact ⟨_, _, rfl, F7, fun q hq => N7 q (.tail _ (.tail _ (.tail _ (.tail _ hq)))), r, sg, t7, hri, rfl, by rw [hsg, hear]⟩
  case fin =>
    intro g5 ws hwl hws
    obtain ⟨ss, h1, h2, h3⟩ := strs_by (fun r => rep key.cps.toList val.cps.toList 0 r ++ [124]) hwl hws
    unfold LCg.FinE
    intro D2 h2 tk2 F2 N2 o2
    repeat (first | walk1 | (dsimp only; walk1))
    have hsl := sum_by (g := fun r => rep key.cps.toList val.cps.toList 0 r ++ [124]) (B := 29) h3 (fun r hr9 => by
      have e1 := (hr r hr9).1
      show (rep key.cps.toList val.cps.toList 0 r.cps.toList ++ [124]).length ≤ 29
      have e2 := rep_length key.cps.toList val.cps.toList r.cps.toList 0
      have hrc : r.cps.toList.length = r.length := by simp [Str.length]
      have hvc : val.cps.toList.length = val.length := by simp [Str.length]
      rw [List.length_append, List.length_singleton]
      have e3 : r.cps.toList.length * val.cps.toList.length ≤ 7 * 3 := Nat.mul_le_mul (by omega) (by omega)
      omega)
    refine' join_listW (lst_at N2 (.head _)) (by simpa using h1) (by decide) ?wt ?_
    case wt => have := h1.len_eq; omega
    intro t7 k7
    have hj : (Txt.join (Str.ofString "") ss).cps.toList = (rows.map fun r => r.cps.toList).flatMap (fun r => rep key.cps.toList val.cps.toList 0 r ++ [124]) := by
      rw [join_list_eq, h3, List.flatMap_def, List.map_map]; rfl
    generalize Txt.join (Str.ofString "") ss = x at *
    repeat (first | walk1 | (dsimp only; walk1))
    rename News _ _ _ _ => N9
    exact k _ _ x _ hj (by k_asm) (fun q hq => N9 q (.tail _ hq))
end
end Mine
end
section
theorem Mine.fresh_J14 : True := by
  w_top off
  trivial
open PySem PySem.W PyProof.Rows PySem.Spec PySem.Calls
set_option Elab.async false
set_option maxRecDepth 100000
set_option maxHeartbeats 8000000
namespace Mine
section
variable {w : World} {s : Shared} {h₀ : Heap} {L : Addr} {m : Str → Option Value} {news : List (Addr × Obj)} {p : Program} {loose : List Str} {mean : ExcName → Option Value} {mg mb : Str → Option Value}
  {name qual : Str} {params : Arguments} {body : List Stmt} {scope : Scope} {dV kV doc pm cdv ct oc : Value} {an od : Option Addr} {osl : Array (Option Value)} {oW oR oV oK oZ : Obj}
local macro_rules | `(tactic| walk_at "eval Name") => `(tactic| (k_here; (with_reducible show wpAny _ _ (eval (Expr.Name _ _) (envOfC _ _ _ _ _)) _ _ _); name_kind "local"; k_dflt (refine' nameX_L ?k1 ?k2 ?_; (case k1 => k_asm); (case k2 => first | exact rfl | (repeat (first | assumption | exact if_pos rfl | refine (if_neg (by decide)).trans ?_))); k_whole)))
local macro_rules | `(tactic| walk_at "eval ListComp") => `(tactic| (k_here; k_dflt (refine ListComp_X (_F₀ := by k_asm) (by with_unfolding_all rfl) (by decide) (by rfl) (by decide) (by rfl) ?_)))
local macro_rules | `(tactic| walk_at "pyIter") => `(tactic| fail "stop here")
theorem j14 {st : Stmt} {w1 : Nat} {D Dw : Addr} {zs ys : List Value} {rows : List Str} {key val : Str} {tV : Tok} {add : List (Addr × Obj)} {Q : Flow → Shared → Prop} {E : Value → Shared → Prop}
    (KX : (hd03.heap_39 w.params).In h₀) (T : Top p loose mean mg mb h₀)
    (hl : (hd03.heap_39 w.params).lookup 68 = some ⟨oc, od, .func (fnOf name qual params body scope dV kV doc pm an cdv ct), osl⟩) (hb : body[14]? = some st)
    (F : Fr h₀ L s.heap m) (N : News h₀ L s.heap ((L + 1 + 1 + 1 + 1 + 1, oW) :: (L + 1 + 1 + 1 + 1, oR) :: (L + 1 + 1 + 1, oV) :: (D, LCg.lst zs) :: (Dw, LCg.lst ys) :: (add ++ news))) (dW : oW.data = .cell (some (.ref Dw))) (dR : oR.data = .cell (some (.ref D))) (dV' : oV.data = .cell (some (.str val tV)))
    (hz : StrsAre zs rows) (hn : rows.length ≤ 11) (hr : ∀ r ∈ rows, r.length = w1 ∧ ∀ c ∈ r.cps.toList, sgR c) (hw7 : w1 ≤ 7) (hk1 : 1 ≤ key.length) (hk3 : key.length ≤ 3) (hvk : val.length = key.length) (hyl : ys.length = rows.length) (hW : RowWays add key rows ys)
    (k : ∀ h' tk x t, x.cps.toList = (rows.map fun r => r.cps.toList).flatMap (fun r => (rep key.cps.toList.reverse val.cps.toList.reverse 0 r.reverse).reverse ++ [124]) → Fr h₀ L h' (fun y => if y = Str.ofString "latest" then some (.str x t) else m y) → News h₀ L h' ((L + 1 + 1 + 1 + 1 + 1, oW) :: (L + 1 + 1 + 1 + 1, oR) :: (L + 1 + 1 + 1, oV) :: (D, LCg.lst zs) :: (Dw, LCg.lst ys) :: (add ++ news)) → Q .next { s with heap := h', toks := tk }) :
    wpAny (model PySem.Challenge.rw_kt0002_03.row.prog w) (callerA.deeper (envOfC (Str.ofString "law") scope L 68 cdv)) (exec st (envOfC (Str.ofString "law") scope L 68 cdv)) Q E s := by
  revert KX; k_fill; intro KX
  have e := hl.symm.trans (by k_is)
  cases e
  cases hb
  have hzl := hz.len_eq
  have hz9 : zs.length ≤ 11 := by omega
  have hz9' : Unit → zs.length ≤ 11 := fun _ => hz9
  have hz1 : zs.length ≤ 1000 := by omega
  have hzB : Unit → StrsAre zs rows := fun _ => hz
  clear hz9 hn
  obtain ⟨rest, hrest⟩ : ∃ rest, rest = (Dw, LCg.lst ys) :: (add ++ news) := ⟨_, rfl⟩
  rw [← hrest] at N k
  repeat (first | walk1 | (dsimp only; walk1))
  rename IsRange _ _ _ _ _ _ _ _ => hrg
  have hn9 := hz9' ()
  refine' go_range (n := rows.length) (R := fun i y => ∃ (r sg : Str) (t : Tok), rows[i]? = some r ∧ y = Value.str sg t ∧ sg.cps.toList = (rep key.cps.toList.reverse val.cps.toList.reverse 0 r.cps.toList.reverse).reverse ++ [124]) rfl ?F ?N hrg ?small ?rs ?sz ?step ?fin
  case F => k_asm
  case N => k_asm
  case small => exact small_one (by decide) (by decide) (by omega) (by omega)
  case rs => rw [rangeSize_nat]; simp
  case sz => rw [sizeLine_eq]; omega
  case step =>
    intro i v I oI C oC Dc ws m₂ h tk E' hi8 hP hoC hv F N off hne
    obtain ⟨ti, rfl⟩ := hP
    have ei : ((0 : Int) + (i : Int)) = (i : Int) := by omega
    rw [ei] at hv
    obtain ⟨zv, hzv⟩ : ∃ zv, zs[i]? = some zv := ⟨_, List.getElem?_eq_getElem (by omega)⟩
    obtain ⟨r, t, hri, rfl⟩ := strs_at (hzB ()) hzv
    obtain ⟨yv, hyv⟩ : ∃ yv, ys[i]? = some yv := ⟨_, List.getElem?_eq_getElem (by omega)⟩
    obtain ⟨ls, r', hri', hB, hp0, h128, Dl, vs, nl, rfl, hDl, hvs⟩ := hW i yv hyv
    obtain rfl : r = r' := Option.some.inj (hri.symm.trans hri')
    have hrl := (hr r (List.mem_of_getElem? hri)).1
    obtain ⟨all, hall⟩ : ∃ all, all = (I, oI) :: (C, oC) :: (Dc, LCg.lst ws) :: (L + 1 + 1 + 1 + 1 + 1, oW) :: (L + 1 + 1 + 1 + 1, oR) :: (L + 1 + 1 + 1, oV) :: (D, LCg.lst zs) :: rest := ⟨_, rfl⟩
    rw [← hall] at N ⊢
    have hmC : (C, oC) ∈ all := hall ▸ .tail _ (.head _)
    have hmW : (L + 1 + 1 + 1 + 1 + 1, oW) ∈ all := hall ▸ .tail _ (.tail _ (.tail _ (.head _)))
    have hmR : (L + 1 + 1 + 1 + 1, oR) ∈ all := hall ▸ .tail _ (.tail _ (.tail _ (.tail _ (.head _))))
    have hmV : (L + 1 + 1 + 1, oV) ∈ all := hall ▸ .tail _ (.tail _ (.tail _ (.tail _ (.tail _ (.head _)))))
    have hmD : (D, LCg.lst zs) ∈ all := hall ▸ .tail _ (.tail _ (.tail _ (.tail _ (.tail _ (.tail _ (.head _))))))
    have hmr : ∀ q ∈ rest, q ∈ all := fun q hq => hall ▸ .tail _ (.tail _ (.tail _ (.tail _ (.tail _ (.tail _ (.tail _ hq))))))
    have hmY : (Dw, LCg.lst ys) ∈ all := hmr _ (hrest ▸ .head _)
    have hma : ∀ q ∈ add, q ∈ all := fun q hq => hmr _ (hrest ▸ .tail _ (List.mem_append_left _ hq))
    have N9 : News h₀ L h ((C, oC) :: (L + 1 + 1 + 1 + 1 + 1, oW) :: (L + 1 + 1 + 1 + 1, oR) :: (L + 1 + 1 + 1, oV) :: all) := fun q hq => N q (by
      rcases List.mem_cons.mp hq with rfl | hq
      · exact hmC
      rcases List.mem_cons.mp hq with rfl | hq
      · exact hmW
      rcases List.mem_cons.mp hq with rfl | hq
      · exact hmR
      rcases List.mem_cons.mp hq with rfl | hq
      · exact hmV
      · exact hq)
    clear N off hrg
    repeat (first | walk1 | (dsimp only; walk1))
    refine item_listL (l := zs) (x := .str r t) ⟨_, (N9 _ (.tail _ (.tail _ (.tail _ (.tail _ hmD))))).1, rfl, _, rfl⟩ (by omega) (by omega) (by rw [Int.toNat_natCast]; exact hzv) ?_
    (try dsimp only)
    repeat (first | walk1 | (dsimp only; walk1))
    refine item_listL (l := ys) (x := .ref Dl) ⟨_, (N9 _ (.tail _ (.tail _ (.tail _ (.tail _ hmY))))).1, rfl, _, rfl⟩ (by omega) (by omega) (by rw [Int.toNat_natCast]; exact hyv) ?_
    (try dsimp only)
    repeat (first | walk1 | (dsimp only; walk1))
    refine max_ways (ls := ls) (vs := vs) rfl (by simp only [units_deeper, Around.mark_units, units_caller]; decide) F N9 ⟨_, (N9 _ (.tail _ (.tail _ (.tail _ (.tail _ (hma _ hDl)))))).1, rfl, _, rfl⟩ ((hvs.mono fun q hq => .tail _ (.tail _ (.tail _ (.tail _ (hma q hq))))).at N9) hp0 (fun j v x h5 tk5 hj1 hj2 hmax F5 N5 => ?_)
    obtain ⟨x', hx', a, tv, nt, rfl, ha, hai⟩ := hvs.2 j v hj1
    obtain rfl : x = x' := Option.some.inj (hj2.symm.trans hx')
    have hrc : r.cps.toList.length = r.length := by simp [Str.length]
    have hkc : key.cps.toList.length = key.length := by simp [Str.length]
    have hvc : val.cps.toList.length = val.length := by simp [Str.length]
    have hway := ((hB x).mp (List.mem_of_getElem? hj2)).1
    rw [List.take_of_length_le (by rw [hrc]; exact Nat.le_refl _)] at hway
    have hin := way_in (by rw [hkc]; exact hk1) hway
    have hear := latest (v := val.cps.toList) (by rw [hkc]; exact hk1) (by rw [hkc, hvc]; exact hvk) (by rw [hrc]; exact hB) (List.mem_of_getElem? hj2) hmax
    clear F N9
    repeat (first | walk1 | (dsimp only; walk1))
    rename Fr _ _ _ _ => F6
    rename News _ _ _ _ => N6
    refine' laid03 (ls := x) (below_caller h₀) F6 KX N6 T ?hA ?hf ?hke ?hr rfl (.tail _ (.tail _ (.tail _ (.tail _ (hma _ ha))))) hai (by omega) (by omega) ?hls ?_
    case hA => exact rfl
    case hf => exact rfl
    case hke => exact rfl
    case hr => show (callerA.depth + 1 : Nat) < recursionLimit; decide
    case hls => intro s0 hs0; have := hin s0 hs0; rw [hkc, hrc] at this; omega
    intro sg t7 h7 k7 hsg F7 N7
    exact ⟨_, _, rfl, F7, fun q hq => N7 q (.tail _ (.tail _ (.tail _ (.tail _ hq)))), r, sg, t7, hri, rfl, by rw [hsg, hear]⟩
  case fin =>
    intro g5 ws hwl hws
    obtain ⟨ss, h1, h2, h3⟩ := strs_by (fun r => (rep key.cps.toList.reverse val.cps.toList.reverse 0 r.reverse).reverse ++ [124]) hwl hws
    unfold LCg.FinE
    intro D2 h2 tk2 F2 N2 o2
    repeat (first | walk1 | (dsimp only; walk1))
    have hsl := sum_by (g := fun r => (rep key.cps.toList.reverse val.cps.toList.reverse 0 r.reverse).reverse ++ [124]) (B := 29) h3 (fun r hr9 => by
      have e1 := (hr r hr9).1
      show ((rep key.cps.toList.reverse val.cps.toList.reverse 0 r.cps.toList.reverse).reverse ++ [124]).length ≤ 29
      have e2 := rep_length key.cps.toList.reverse val.cps.toList.reverse r.cps.toList.reverse 0
      have hrc : r.cps.toList.length = r.length := by simp [Str.length]
      have hvc : val.cps.toList.length = val.length := by simp [Str.length]
      rw [List.length_append, List.length_singleton, List.length_reverse]
      rw [List.length_reverse, List.length_reverse] at e2
      have e3 : r.cps.toList.length * val.cps.toList.length ≤ 7 * 3 := Nat.mul_le_mul (by omega) (by omega)
      omega)
    refine' join_listW (lst_at N2 (.head _)) (by simpa using h1) (by decide) ?wt ?_
    case wt => have := h1.len_eq; omega
    intro t7 k7
    have hj : (Txt.join (Str.ofString "") ss).cps.toList = (rows.map fun r => r.cps.toList).flatMap (fun r => (rep key.cps.toList.reverse val.cps.toList.reverse 0 r.reverse).reverse ++ [124]) := by
      rw [join_list_eq, h3, List.flatMap_def, List.map_map]; rfl
    generalize Txt.join (Str.ofString "") ss = x at *
    repeat (first | walk1 | (dsimp only; walk1))
    rename News _ _ _ _ => N9
    exact k _ _ x _ hj (by k_asm) (fun q hq => N9 q (.tail _ hq))
end
end Mine
end
section
theorem Mine.fresh_U03d : True := by
  w_top off
  trivial
open PySem PySem.W PyProof.Rows PySem.Spec PySem.Calls
set_option Elab.async false
set_option maxRecDepth 100000
set_option maxHeartbeats 8000000
namespace Mine
section
variable {w : World} {A A₀ : Around} {s : Shared} {base h₀ : Heap} {outer : List Env} {L : Addr} {env : Env} {m : Str → Option Value} {news : List (Addr × Obj)} {p : Program} {loose : List Str} {mean : ExcName → Option Value} {mg mb : Str → Option Value}
local macro_rules | `(tactic| walk_at "eval Name") => `(tactic| (k_here; k_dflt (refine' ld ?k1 ?k2 ?_; (case k1 => k_asm); (case k2 => first | exact rfl | (repeat (first | assumption | exact if_pos rfl | refine (if_neg (by decide)).trans ?_))); k_whole)))
local macro_rules | `(tactic| walk_at "execs cons") => `(tactic| (k_here; (with_reducible refine execs_tok 1 (by first | assumption | (dsimp only; omega)) ?_); (try dsimp only)))
local macro_rules | `(tactic| walk_at "forall") => `(tactic| (intro ht'; (with_reducible change 1 ≤ _ at ht'); (try dsimp only at ht')))
theorem unescape03d {x : Str} {t : Tok} {Q E : Value → Shared → Prop}
    (B : Below A₀ base outer h₀) (F : Fr h₀ L s.heap m) (KX : (hd03.heap_39 w.params).In h₀) (N : News h₀ L s.heap news) (T : Top p loose mean mg mb h₀) (hA : A.frames = some (env :: outer)) (hf : env.frame = some L) (hke : env.scope.kind = .function)
    (hroom : A.depth + 1 < recursionLimit) (hh : A.handled = none) (hx : x.length ≤ 1000)
    (k : ∀ t' h' tk, Fr h₀ L h' m → News h₀ L h' news → Q (.str (ampT (unT x)) t') { s with heap := h', toks := tk }) :
    wpAny (model PySem.Challenge.rw_kt0002_03.row.prog w) A (call (.ref 39) [.str x t]) Q E s := by
  revert KX; k_fill; intro KX
  refine wpAny_call ?_
  refine' code_def B F KX N T hA hf hke ?k6 ?k7 (by omega) ?k9 ?kB ?_ ?c2 ?c3 ?c4 ?c5
  case k6 => k_is
  case k7 => k_is
  case k9 => exact binds_K (by k_in) rfl (by k_is) rfl rfl rfl
  case kB => exact locs rfl
  case c2 => exact rfl
  case c3 => exact rfl
  case c4 => exact rfl
  case c5 => decide
  k_whole
  intro g L' h₁ FG F' N' B' KX' T'
  refine wpAny_mono (E := fun _ _ => False) ?_ (fun _ _ x => x) (fun _ _ x => x.elim)
  have l1 : (Txt.replace x (Str.ofString "&lt;") (Str.ofString "<")).length ≤ 2001 := Nat.le_trans (rep_len _ _ _ (by decide)) (by rw [show (Str.ofString "<").length = 1 by decide]; omega)
  have l2 : (Txt.replace (Txt.replace x (Str.ofString "&lt;") (Str.ofString "<")) (Str.ofString "&gt;") (Str.ofString ">")).length ≤ 4003 := Nat.le_trans (rep_len _ _ _ (by decide)) (by rw [show (Str.ofString ">").length = 1 by decide]; omega)
  repeat (first | walk1 | (dsimp only; walk1))
  rename Fr _ _ _ _ => F₅
  refine wpAny_truthy_dict (knd := PySem.strKind _ _) (d := 31) (kvs := xKV []) (by decide) (Heap.dictOf_iff.mpr ⟨_, (KX'.keeps F₅.keep) 31 _ (by k_is), xd_isDict (l := []) _ (by simp)⟩) (by decide) ?_
  rw [if_neg (by decide)]
  repeat (first | walk1 | (dsimp only; walk1))
  refine SC.replaceW (by show @Ne Nat _ _; omega) (by show @Ne Nat _ _; omega) (by show @Ne Nat _ _; omega) (by decide) (by omega) (by decide) (fun t6 k6 => ?_)
  repeat (first | walk1 | (dsimp only; walk1))
  exact k _ _ _ (by k_asm) (by k_asm)
end
end Mine
end
section
theorem Mine.fresh_J15 : True := by
  w_top off
  trivial
open PySem PySem.W PyProof.Rows PySem.Spec PySem.Calls
set_option Elab.async false
set_option maxRecDepth 100000
set_option maxHeartbeats 8000000
namespace Mine
section
variable {w : World} {s : Shared} {h₀ : Heap} {L : Addr} {m : Str → Option Value} {news : List (Addr × Obj)} {p : Program} {loose : List Str} {mean : ExcName → Option Value} {mg mb : Str → Option Value}
  {name qual : Str} {params : Arguments} {body : List Stmt} {scope : Scope} {dV kV doc pm cdv ct oc : Value} {an od : Option Addr} {osl : Array (Option Value)} {oW oR oV oK oZ : Obj}
local macro_rules | `(tactic| walk_at "eval Name") => `(tactic| (k_here; (with_reducible show wpAny _ _ (eval (Expr.Name _ _) (envOfC _ _ _ _ _)) _ _ _); name_kind "local"; k_dflt (refine' nameX_L ?k1 ?k2 ?_; (case k1 => k_asm); (case k2 => first | exact rfl | (repeat (first | assumption | exact if_pos rfl | refine (if_neg (by decide)).trans ?_))); k_whole)))
local macro_rules | `(tactic| walk_at "eval ListComp") => `(tactic| (k_here; k_dflt (refine ListComp_X (_F₀ := by k_asm) (by with_unfolding_all rfl) (by decide) (by rfl) (by decide) (by rfl) ?_)))
local macro_rules | `(tactic| walk_at "pyIter") => `(tactic| fail "stop here")
theorem CompareT {M : Model} {A : Around} {E : Value → Shared → Prop} {env : Env} {l r : Expr} {op : CmpOp} {pos : Pos} {Q : Value → Shared → Prop} (h : wpT M A (eval l env) (fun a s₁ => wpT M A (eval r env) (fun b s₂ => wpAny M A (compareOp op a b) Q E s₂) E s₁) E s)
    (hm : behindInMarks op r = false := by with_unfolding_all rfl) : wpT M A (eval (.Compare l [op] [r] pos) env) Q E s := by
  rw [eval_Compare1, markedBehindIn_of_false hm]
  refine wpT_bind (wpT_mono h (fun a s₁ h₁ => ?_) fun _ _ x => x)
  refine wpT_bind (wpT_holding (wpT_mono h₁ (fun b s₂ h₂ => ?_) fun _ _ x => x))
  exact wpT_leaf (wpAny_standAt (wpT_any (wpAny_operateT h₂)))
theorem j15 {st : Stmt} {wr ea : Str} {twr te : Tok} {Q : Flow → Shared → Prop} {E : Value → Shared → Prop}
    (KX : (hd03.heap_39 w.params).In h₀) (T : Top p loose mean mg mb h₀)
    (hl : (hd03.heap_39 w.params).lookup 68 = some ⟨oc, od, .func (fnOf name qual params body scope dV kV doc pm an cdv ct), osl⟩) (hb : body[15]? = some st)
    (F : Fr h₀ L s.heap m) (N : News h₀ L s.heap news) (mw : m (Str.ofString "written") = some (.str wr twr)) (me : m (Str.ofString "earliest") = some (.str ea te)) (hz : wr.length ≤ 1000) (ht : 1 ≤ s.toks)
    (h1 : ampT (unT wr) = ea)
    (k : ∀ h' tk, Fr h₀ L h' m → News h₀ L h' news → Q .next { s with heap := h', toks := tk }) :
    wpAny (model PySem.Challenge.rw_kt0002_03.row.prog w) (callerA.deeper (envOfC (Str.ofString "law") scope L 68 cdv)) (exec st (envOfC (Str.ofString "law") scope L 68 cdv)) Q E s := by
  revert KX; k_fill; intro KX
  have e := hl.symm.trans (by k_is)
  cases e
  cases hb
  repeat (first | walk1 | (dsimp only; walk1))
  refine' unescape03d (below_caller h₀) F KX N T ?hA ?hf ?hke ?hr rfl hz ?_
  case hA => exact rfl
  case hf => exact rfl
  case hke => exact rfl
  case hr => show (callerA.depth + 1 + 1 : Nat) < recursionLimit; decide
  intro t' h' tk' F₆ N₆
  clear N F
  rw [h1]
  repeat (first | walk1 | (dsimp only; walk1))
  · rename ((ea : Str) != ea) = true => hc
    exact absurd hc (by simp)
  repeat (first | walk1 | (dsimp only; walk1))
  exact k _ _ F₆ N₆
theorem j16 {st : Stmt} {w1 n : Nat} {mi y la : Str} {tmi tl tz : Tok} {Q : Flow → Shared → Prop} {E : Value → Shared → Prop}
    (KX : (hd03.heap_39 w.params).In h₀) (T : Top p loose mean mg mb h₀)
    (hl : (hd03.heap_39 w.params).lookup 68 = some ⟨oc, od, .func (fnOf name qual params body scope dV kV doc pm an cdv ct), osl⟩) (hb : body[16]? = some st)
    (F : Fr h₀ L s.heap m) (N : News h₀ L s.heap ((L + 1, oZ) :: news)) (dZ : oZ.data = .cell (some (.int (w1 : Int) tz))) (mm : m (Str.ofString "mirrored") = some (.str mi tmi)) (me : m (Str.ofString "latest") = some (.str la tl)) (hz : mi.length ≤ 1000) (hw1 : 4 ≤ w1) (hw7 : w1 ≤ 7)
    (h1 : ampT (unT mi) = y) (hy : y.length ≤ 1000) (hlow : ∀ c ∈ y.cps.toList, c < 128) (hsz : y.length = n * (w1 + 1)) (h2 : swapL y.cps.toList (w1 + 1) = la.cps.toList)
    (k : ∀ h' tk, Fr h₀ L h' m → News h₀ L h' ((L + 1, oZ) :: news) → Q (.ret (.bool true)) { s with heap := h', toks := tk }) :
    wpT (model PySem.Challenge.rw_kt0002_03.row.prog w) (callerA.deeper (envOfC (Str.ofString "law") scope L 68 cdv)) (exec st (envOfC (Str.ofString "law") scope L 68 cdv)) Q E s := by
  revert KX; k_fill; intro KX
  have e := hl.symm.trans (by k_is)
  cases e
  cases hb
  refine ReturnT (CompareT ?_)
  refine CallT (a := 51) 2 rfl (Nat.le_of_ble_eq_true rfl) ?_
  walk1
  refine ⟨rfl, splicedT_cons (wpT_any ?_)⟩
  repeat (first | walk1 | (dsimp only; walk1))
  refine' unescape03d (below_caller h₀) F KX N T ?hA ?hf ?hke ?hr rfl hz ?_
  case hA => exact rfl
  case hf => exact rfl
  case hke => exact rfl
  case hr => show (callerA.depth + 1 + 1 : Nat) < recursionLimit; decide
  intro t' h' tk' F₆ N₆
  clear N F
  rw [h1]
  refine splicedT_cons (wpT_any ?_)
  repeat (first | walk1 | (dsimp only; walk1))
  refine splicedT_nil ⟨⟨_, _, (KX.keeps F₆.keep) _ _ (by k_is), rfl⟩, ?_⟩
  dsimp only
  rw [show ((w1 : Int) + 1) = ((w1 + 1 : Nat) : Int) by omega]
  refine' words03 (below_caller h₀) F₆ KX N₆ T ?hA ?hf ?hke hy hlow (by omega) (by omega) hsz ?hr ?hg rfl ?_
  case hA => exact rfl
  case hf => exact rfl
  case hke => exact rfl
  case hr => show (callerA.depth + 1 + 1 : Nat) < recursionLimit; decide
  case hg => exact rfl
  intro y' t2 h2' tk2 hy2 F7 N7
  obtain rfl : y' = la := str_ext (hy2.trans h2)
  clear N₆ F₆
  refine wpT_any ?_
  repeat (first | walk1 | (dsimp only; walk1))
  rw [beq_self_eq_true]
  exact k _ _ F7 N7
end
end Mine
end
section
theorem Mine.fresh_P13 : True := by
  w_top off
  trivial
open PySem PySem.W PyProof.Rows
set_option Elab.async false
set_option maxRecDepth 100000
namespace Mine
theorem swapAt_low {w p : Nat} (h : p < w) : swapAt w p = w - 1 - p := by
  unfold swapAt
  rw [Nat.div_eq_of_lt h, Nat.mod_eq_of_lt h]; omega
theorem swapAt_add {w q : Nat} (h : 0 < w) : swapAt w (w + q) = w + swapAt w q := by
  unfold swapAt
  rw [Nat.add_div_left q h, Nat.add_mod_left, Nat.succ_mul]; omega
theorem swapL_word {r l : List Nat} {w : Nat} (hw : 0 < w) (hr : r.length = w) : swapL (r ++ l) w = r.reverse ++ swapL l w := by
  unfold swapL
  rw [List.length_append, hr, List.range_add, List.map_append, List.map_map]
  congr 1
  · refine List.ext_getElem (by simp [hr]) fun p h1 h2 => ?_
    have hp : p < w := by simpa using h1
    simp only [List.getElem_map, List.getElem_range]
    rw [swapAt_low hp, List.getD_eq_getElem?_getD, List.getElem?_append_left (by omega), List.getElem?_eq_getElem (by omega), List.getElem_reverse]
    simp [hr]
  · refine List.map_congr_left fun q _ => ?_
    show (r ++ l).getD (swapAt w (w + q)) 0 = l.getD (swapAt w q) 0
    rw [swapAt_add hw, List.getD_eq_getElem?_getD, List.getD_eq_getElem?_getD, List.getElem?_append_right (by omega), hr, Nat.add_sub_cancel_left]
/-- the rows, each with its bar, turned -/
theorem swapL_rows {w : Nat} : ∀ rows : List (List Nat), (∀ r ∈ rows, r.length = w) → swapL (rows.flatMap fun r => r ++ [124]) (w + 1) = rows.flatMap fun r => 124 :: r.reverse
  | [], _ => rfl
  | r :: rows, h => by
    rw [List.flatMap_cons, List.flatMap_cons, swapL_word (by omega) (by simp [h r (.head _)]), swapL_rows rows fun q hq => h q (.tail _ hq)]
    simp
/-- and turned back -/
theorem swapL_back {w : Nat} : ∀ rows : List (List Nat), (∀ r ∈ rows, r.length = w) → swapL (rows.flatMap fun r => 124 :: r) (w + 1) = rows.flatMap fun r => r.reverse ++ [124]
  | [], _ => rfl
  | r :: rows, h => by
    rw [List.flatMap_cons, List.flatMap_cons, swapL_word (by omega) (by simp [h r (.head _)]), swapL_back rows fun q hq => h q (.tail _ hq)]
    simp
theorem rows_len {w : Nat} : ∀ rows : List (List Nat), (∀ r ∈ rows, r.length = w) → (rows.flatMap fun r => r ++ [124]).length = rows.length * (w + 1)
  | [], _ => by simp
  | r :: rows, h => by
    rw [List.flatMap_cons, List.length_append, rows_len rows fun q hq => h q (.tail _ hq), List.length_append, h r (.head _)]
    simp only [List.length_cons, List.length_nil]
    rw [Nat.succ_mul]; omega
end Mine
end
section
theorem Mine.fresh_P18 : True := by
  w_top off
  trivial
open PySem PyProof.Rows PySem.Spec
set_option Elab.async false
set_option maxRecDepth 100000
namespace Mine
theorem pre_bar {y : List Nat} {b : Nat} (hb : b ∉ y) : ∀ {r l : List Nat}, y <+: r ++ b :: l ↔ y <+: r := by
  induction y with
  | nil => intro r l; simp
  | cons c y ih =>
    intro r l
    have hc : c ≠ b := fun e => hb (e ▸ .head _)
    cases r with
    | nil => simp [List.cons_prefix_cons, hc]
    | cons d r =>
      rw [List.cons_append, List.cons_prefix_cons, List.cons_prefix_cons, ih (fun h => hb (.tail _ h))]
/-- the replacing passes no bar -/
theorem rep_bar {y v : List Nat} {b : Nat} (hy : 1 ≤ y.length) (hb : b ∉ y) : ∀ (n : Nat) (r l : List Nat), r.length ≤ n → rep y v 0 (r ++ b :: l) = rep y v 0 r ++ b :: rep y v 0 l
  | _, [], l, _ => by
    have h : ¬ y <+: b :: l := by
      intro q
      have h1 := ((pre_bar hb (r := []) (l := l)).mp q).length_le
      rw [List.length_nil] at h1; omega
    show rep y v 0 (b :: l) = rep y v 0 [] ++ b :: rep y v 0 l
    rw [show rep y v 0 [] = [] by simp [rep], rep, if_neg (fun q => h (List.isPrefixOf_iff_prefix.mp q))]; rfl
  | 0, _ :: _, _, h => by simp at h
  | n + 1, c :: r, l, h => by
    rw [List.cons_append, rep, rep]
    by_cases hp : y <+: c :: r
    · have hp2 : y <+: c :: (r ++ b :: l) := (pre_bar hb (r := c :: r)).mpr hp
      have hl := hp.length_le
      rw [List.length_cons] at hl
      rw [if_pos (List.isPrefixOf_iff_prefix.mpr hp), if_pos (List.isPrefixOf_iff_prefix.mpr hp2), rep_skip, rep_skip _ _ _ r, List.drop_append_of_le_length (by omega),
        rep_bar hy hb n _ l (by rw [List.length_drop]; simp at h; omega), List.append_assoc]
    · have hp2 : ¬ y <+: c :: (r ++ b :: l) := fun q => hp ((pre_bar hb (r := c :: r)).mp q)
      rw [if_neg (fun q => hp (List.isPrefixOf_iff_prefix.mp q)), if_neg (fun q => hp2 (List.isPrefixOf_iff_prefix.mp q)), rep_bar hy hb n r l (by simpa using h), List.cons_append]
/-- rows, a bar behind each -/
theorem rep_rows {y v : List Nat} (hy : 1 ≤ y.length) (hb : 124 ∉ y) : ∀ rows : List (List Nat), rep y v 0 (rows.flatMap fun r => r ++ [124]) = rows.flatMap fun r => rep y v 0 r ++ [124]
  | [] => by simp [rep]
  | r :: rows => by
    rw [List.flatMap_cons, List.flatMap_cons, List.append_assoc, List.append_assoc]
    show rep y v 0 (r ++ 124 :: (rows.flatMap fun r => r ++ [124])) = _
    rw [rep_bar hy hb _ r _ (Nat.le_refl _), rep_rows hy hb rows]; rfl
theorem rep_ahead {y v : List Nat} (hy : 1 ≤ y.length) (hb : 124 ∉ y) : ∀ (rows : List (List Nat)) (r : List Nat), rep y v 0 (r ++ rows.flatMap fun r => 124 :: r) = rep y v 0 r ++ rows.flatMap fun r => 124 :: rep y v 0 r
  | [], r => by simp
  | q :: rows, r => by
    rw [List.flatMap_cons, List.flatMap_cons]
    show rep y v 0 (r ++ 124 :: (q ++ rows.flatMap fun r => 124 :: r)) = rep y v 0 r ++ 124 :: (rep y v 0 q ++ rows.flatMap fun r => 124 :: rep y v 0 r)
    rw [rep_bar hy hb _ r _ (Nat.le_refl _), rep_ahead hy hb rows q]
/-- rows, a bar ahead of each -/
theorem rep_rows' {y v : List Nat} (hy : 1 ≤ y.length) (hb : 124 ∉ y) (rows : List (List Nat)) : rep y v 0 (rows.flatMap fun r => 124 :: r) = rows.flatMap fun r => 124 :: rep y v 0 r := by
  have := rep_ahead (v := v) hy hb rows []
  rw [show rep y v 0 [] = [] by simp [rep], List.nil_append, List.nil_append] at this
  exact this
/-- and back: the value's first sign stands in no text and once in the value -/
theorem rep_back {y v : List Nat} {h : Nat} {t : List Nat} (hv : v = h :: t) (hy : 1 ≤ y.length) : ∀ (n : Nat) (l : List Nat), l.length ≤ n → h ∉ l → rep v y 0 (rep y v 0 l) = l
  | _, [], _, _ => by simp [rep]
  | 0, _ :: _, hn, _ => by simp at hn
  | n + 1, c :: r, hn, hl => by
    rw [rep]
    by_cases hp : y <+: c :: r
    · rw [if_pos (List.isPrefixOf_iff_prefix.mpr hp), rep_hit (by rw [hv]; simp), rep_skip y v (y.length - 1) r]
      obtain ⟨z, hz⟩ := hp
      have ed : r.drop (y.length - 1) = z := by
        have : (c :: r).drop y.length = z := by rw [← hz, List.drop_left]
        rw [← this, show y.length = (y.length - 1) + 1 by omega, List.drop_succ_cons]; simp
      rw [ed, rep_back hv hy n z (by have := congrArg List.length hz; simp at this hn; omega) (fun q => hl (by rw [← hz]; exact List.mem_append_right _ q)), hz]
    · rw [if_neg (fun q => hp (List.isPrefixOf_iff_prefix.mp q))]
      have hc : h ≠ c := fun e => hl (e ▸ .head _)
      have hnp : ¬ v <+: c :: rep y v 0 r := by
        rw [hv, List.cons_prefix_cons]; exact fun q => hc q.1
      rw [rep, if_neg (fun q => hnp (List.isPrefixOf_iff_prefix.mp q)), rep_back hv hy n r (by simpa using hn) (fun q => hl (.tail _ q))]
end Mine
end
section
theorem Mine.fresh_P19 : True := by
  w_top off
  trivial
open PySem PyProof.Rows PySem.Spec
set_option Elab.async false
set_option maxRecDepth 100000
namespace Mine
/-- signs of the key stand for themselves, all else is written without them -/
structure Plain (f : Nat → List Nat) (y : List Nat) : Prop where
  self : ∀ c ∈ y, f c = [c]
  other : ∀ c, c ∉ y → ∀ d ∈ f c, d ∉ y
  some : ∀ c, f c ≠ []
theorem pre_flat {f : Nat → List Nat} {y : List Nat} (P : Plain f y) : ∀ {z l : List Nat}, (∀ c ∈ z, c ∈ y) → (z <+: l.flatMap f ↔ z <+: l)
  | [], _, _ => by simp
  | c :: z, [], _ => by simp
  | c :: z, d :: l, hz => by
    have hc := hz c (.head _)
    rw [List.flatMap_cons, List.cons_prefix_cons]
    by_cases hd : d ∈ y
    · rw [P.self d hd, List.singleton_append, List.cons_prefix_cons, pre_flat P fun q hq => hz q (.tail _ hq)]
    · constructor
      · intro h
        exfalso
        cases hf : f d with
        | nil => exact P.some d hf
        | cons e r =>
          rw [hf, List.cons_append, List.cons_prefix_cons] at h
          have := P.other d hd e (by rw [hf]; exact .head _)
          exact this (h.1 ▸ hc)
      · rintro ⟨rfl, _⟩; exact absurd hc hd
theorem rep_pass_over {y v : List Nat} (hy : 1 ≤ y.length) : ∀ {b : List Nat} {z : List Nat}, (∀ c ∈ b, c ∉ y) → rep y v 0 (b ++ z) = b ++ rep y v 0 z
  | [], _, _ => rfl
  | c :: b, z, h => by
    have hc := h c (.head _)
    have hn : ¬ y <+: c :: (b ++ z) := by
      intro q
      cases y with
      | nil => simp at hy
      | cons d y => rw [List.cons_prefix_cons] at q; exact hc (q.1 ▸ .head _)
    rw [List.cons_append, rep, if_neg (fun q => hn (List.isPrefixOf_iff_prefix.mp q)), rep_pass_over hy fun q hq => h q (.tail _ hq), List.cons_append]
theorem flat_self {f : Nat → List Nat} : ∀ {l : List Nat}, (∀ c ∈ l, f c = [c]) → l.flatMap f = l
  | [], _ => rfl
  | c :: l, h => by rw [List.flatMap_cons, h c (.head _), flat_self fun q hq => h q (.tail _ hq)]; rfl
/-- the replacing and the writing change places -/
theorem rep_flat {f : Nat → List Nat} {y v : List Nat} (hy : 1 ≤ y.length) (P : Plain f y) (hv : ∀ c ∈ v, f c = [c]) : ∀ (n : Nat) (l : List Nat), l.length ≤ n → rep y v 0 (l.flatMap f) = (rep y v 0 l).flatMap f
  | _, [], _ => by simp [rep]
  | 0, _ :: _, h => by simp at h
  | n + 1, c :: r, h => by
    by_cases hp : y <+: c :: r
    · obtain ⟨z, hz⟩ := hp
      have hl : z.length ≤ n := by
        have := congrArg List.length hz
        simp at this h; omega
      rw [← hz, List.flatMap_append, flat_self P.self, rep_hit hy, rep_hit hy, List.flatMap_append, flat_self hv, rep_flat hy P hv n z hl]
    · by_cases hc : c ∈ y
      · have hn : ¬ y <+: c :: r.flatMap f := by
          intro q
          have e : (c :: r).flatMap f = c :: r.flatMap f := by rw [List.flatMap_cons, P.self c hc]; rfl
          exact hp ((pre_flat P fun _ h => h).mp (e ▸ q))
        rw [List.flatMap_cons, P.self c hc, List.singleton_append, rep, rep, if_neg (fun q => hp (List.isPrefixOf_iff_prefix.mp q)), if_neg (fun q => hn (List.isPrefixOf_iff_prefix.mp q)), rep_flat hy P hv n r (by simpa using h), List.flatMap_cons, P.self c hc]
        rfl
      · rw [List.flatMap_cons, rep_pass_over hy (P.other c hc), rep_flat hy P hv n r (by simpa using h)]
        have e := rep_pass_over (v := v) hy (b := [c]) (z := r) (by simpa using hc)
        rw [List.singleton_append] at e
        rw [e, List.singleton_append, List.flatMap_cons]
theorem chain_mapS {ss : List (List Nat × List Nat)} {f g : Nat → List Nat} {S : List Nat} (h : ∀ c ∈ S, okS ss (f c) = true ∧ chain ss (f c) = g c) : ∀ (q : List Nat), (∀ c ∈ q, c ∈ S) → chain ss (q.flatMap f) = q.flatMap g
  | [], _ => by
    have : ∀ ss : List (List Nat × List Nat), chain ss [] = [] := chain_nil
    exact this ss
  | c :: q, hq => by
    have hc := h c (hq c (.head _))
    rw [List.flatMap_cons, List.flatMap_cons, chain_app _ _ _ hc.1, hc.2, chain_mapS h q fun d hd => hq d (.tail _ hd)]
end Mine
end
section
theorem Mine.fresh_P20 : True := by
  w_top off
  trivial
open PySem PyProof.Rows PySem.Spec
set_option Elab.async false
set_option maxRecDepth 100000
namespace Mine
def ref3 (c : Nat) : List Nat := if c = 38 then oAm else if c = 60 then oLt else if c = 62 then oGt else [c]
def ref1 (c : Nat) : List Nat := if c = 38 then oAm else [c]
def esc3 (l : List Nat) : List Nat := rep [60] oLt 0 (rep [62] oGt 0 (rep [38] oAm 0 l))
theorem esc3_eq (l : List Nat) : esc3 l = l.flatMap ref3 := by
  unfold esc3
  rw [rep_one, rep_one, rep_one, List.flatMap_assoc, List.flatMap_assoc]
  congr 1
  funext d
  by_cases h1 : d = 38
  · subst h1; rfl
  by_cases h2 : d = 60
  · subst h2; rfl
  by_cases h3 : d = 62
  · subst h3; rfl
  simp [ref3, h1, h2, h3]
/-- the signs of law 03 -/
def sg3 : List Nat := [120, 121, 38, 60, 124, 111, 40, 41, 45]
theorem rep_mem {y v : List Nat} : ∀ (l : List Nat) (k : Nat), ∀ c ∈ rep y v k l, c ∈ l ∨ c ∈ v
  | [], k, c, h => by cases k <;> simp [rep] at h
  | d :: r, k + 1, c, h => by
    rw [rep] at h
    exact (rep_mem r k c h).imp (fun q => .tail _ q) id
  | d :: r, 0, c, h => by
    rw [rep] at h
    split at h
    · rcases List.mem_append.mp h with h | h
      · exact .inr h
      · exact (rep_mem r _ c h).imp (fun q => .tail _ q) id
    · rcases List.mem_cons.mp h with rfl | h
      · exact .inl (.head _)
      · exact (rep_mem r _ c h).imp (fun q => .tail _ q) id
theorem plain3 {y : List Nat} (h : ∀ c ∈ y, c = 120 ∨ c = 121) : Plain ref3 y where
  self := fun c hc => by rcases h c hc with rfl | rfl <;> rfl
  other := fun c hc d hd hy => by
    unfold ref3 at hd
    have := h d hy
    split at hd
    · simp [oAm] at hd; omega
    · split at hd
      · simp [oLt] at hd; omega
      · split at hd
        · simp [oGt] at hd; omega
        · obtain rfl : d = c := by simpa using hd
          exact hc hy
  some := fun c => by
    unfold ref3
    split
    · decide
    · split
      · decide
      · split
        · decide
        · simp
theorem plain1 {v : List Nat} (h : ∀ c ∈ v, c = 111 ∨ c = 40 ∨ c = 41 ∨ c = 45) : Plain ref1 v where
  self := fun c hc => by rcases h c hc with rfl | rfl | rfl | rfl <;> rfl
  other := fun c hc d hd hy => by
    unfold ref1 at hd
    have := h d hy
    split at hd
    · simp [oAm] at hd; omega
    · obtain rfl : d = c := by simpa using hd
      exact hc hy
  some := fun c => by
    unfold ref1
    split
    · decide
    · simp
theorem val3 {v : List Nat} (h : ∀ c ∈ v, c = 111 ∨ c = 40 ∨ c = 41 ∨ c = 45) : ∀ c ∈ v, ref3 c = [c] := fun c hc => by
  rcases h c hc with rfl | rfl | rfl | rfl <;> rfl
theorem key1 {y : List Nat} (h : ∀ c ∈ y, c = 120 ∨ c = 121) : ∀ c ∈ y, ref1 c = [c] := fun c hc => by
  rcases h c hc with rfl | rfl <;> rfl
/-- what escape writes with a key -/
theorem written3 {y v l : List Nat} (hy : 1 ≤ y.length) (hk : ∀ c ∈ y, c = 120 ∨ c = 121) (hv : ∀ c ∈ v, c = 111 ∨ c = 40 ∨ c = 41 ∨ c = 45) : rep y v 0 (esc3 l) = (rep y v 0 l).flatMap ref3 := by
  rw [esc3_eq]
  exact rep_flat hy (plain3 hk) (val3 hv) _ l (Nat.le_refl _)
theorem un2 {R : List Nat} (hR : ∀ c ∈ R, c ∈ sg3) : rep oGt [62] 0 (rep oLt [60] 0 (R.flatMap ref3)) = R.flatMap ref1 :=
  chain_mapS (ss := [(oLt, [60]), (oGt, [62])]) (f := ref3) (g := ref1) (S := sg3) (by decide) R hR
theorem un1 {R : List Nat} (hR : ∀ c ∈ R, c ∈ sg3) : rep oAm [38] 0 (R.flatMap ref1) = R := by
  have := chain_mapS (ss := [(oAm, [38])]) (f := ref1) (g := fun c => [c]) (S := sg3) (by decide) R hR
  rw [flat_self (f := fun c => [c]) fun _ _ => rfl] at this
  exact this
/-- unescape without a table reads the rows with the values laid -/
theorem reads03 {R : List Nat} (hR : ∀ c ∈ R, c ∈ sg3) : rep oAm [38] 0 (rep oGt [62] 0 (rep oLt [60] 0 (R.flatMap ref3))) = R := by
  rw [un2 hR, un1 hR]
/-- unescape with the value as key reads the rows that were written -/
theorem back3 {y v l : List Nat} {h : Nat} {t : List Nat} (hvt : v = h :: t) (hy : 1 ≤ y.length) (hk : ∀ c ∈ y, c = 120 ∨ c = 121) (hv : ∀ c ∈ v, c = 111 ∨ c = 40 ∨ c = 41 ∨ c = 45) (hl : ∀ c ∈ l, c = 120 ∨ c = 121 ∨ c = 38 ∨ c = 60 ∨ c = 124) :
    rep oAm [38] 0 (rep v y 0 (rep oGt [62] 0 (rep oLt [60] 0 ((rep y v 0 l).flatMap ref3)))) = l := by
  have hls : ∀ c ∈ l, c ∈ sg3 := fun c hc => by rcases hl c hc with rfl | rfl | rfl | rfl | rfl <;> decide
  have hvs : ∀ c ∈ v, c ∈ sg3 := fun c hc => by rcases hv c hc with rfl | rfl | rfl | rfl <;> decide
  rw [un2 fun c hc => (rep_mem l 0 c hc).elim (hls c) (hvs c)]
  have hv1 : 1 ≤ v.length := by rw [hvt]; simp
  rw [rep_flat hv1 (plain1 hv) (key1 hk) _ _ (Nat.le_refl _), rep_back hvt hy _ l (Nat.le_refl _) (fun q => by
    have h1 := hl h q
    have h2 := hv h (by rw [hvt]; exact .head _)
    omega), un1 hls]
end Mine
end
section
theorem Mine.fresh_P23 : True := by
  w_top off
  trivial
open PySem PySem.W PyProof.Rows PySem.Spec PySem.Calls
set_option Elab.async false
set_option maxRecDepth 100000
set_option maxHeartbeats 4000000
namespace Mine
theorem esc_cps (x : Str) : (escT x).cps.toList = esc3 x.cps.toList := by
  unfold escT esc3
  rw [rep_spec _ _ _ (by decide), rep_spec _ _ _ (by decide), rep_spec _ _ _ (by decide)]
  rfl
theorem un_cps (x : Str) : (unT x).cps.toList = rep oGt [62] 0 (rep oLt [60] 0 x.cps.toList) := by
  unfold unT
  rw [rep_spec _ _ _ (by decide), rep_spec _ _ _ (by decide)]
  rfl
theorem amp_cps (x : Str) : (ampT x).cps.toList = rep oAm [38] 0 x.cps.toList := by
  unfold ampT
  rw [rep_spec _ _ _ (by decide)]
  rfl
theorem rep_same {y v : List Nat} (hv : v.length = y.length) (hy : 1 ≤ y.length) : ∀ (l : List Nat) (k : Nat), k ≤ l.length → (rep y v k l).length = l.length - k
  | [], k, h => by cases k <;> simp [rep]
  | c :: r, k + 1, h => by
    rw [rep, rep_same hv hy r k (by simpa using h), List.length_cons, Nat.add_sub_add_right]
  | c :: r, 0, h => by
    rw [rep]
    split
    · rename_i hp
      have hl := (List.isPrefixOf_iff_prefix.mp hp).length_le
      rw [List.length_cons] at hl
      rw [List.length_append, rep_same hv hy r _ (by omega), List.length_cons]; omega
    · rw [List.length_cons, rep_same hv hy r 0 (Nat.zero_le _), List.length_cons]; omega
theorem ref3_len (c : Nat) : (ref3 c).length ≤ 5 := by
  unfold ref3
  split
  · decide
  · split
    · decide
    · split
      · decide
      · simp
theorem flat_len3 : ∀ l : List Nat, (l.flatMap ref3).length ≤ l.length * 5
  | [] => by simp
  | c :: l => by
    have h1 := ref3_len c
    have h2 := flat_len3 l
    rw [List.flatMap_cons, List.length_append, List.length_cons, Nat.succ_mul]; omega
theorem key_facts : ∀ key ∈ keyL, 1 ≤ key.length ∧ key.length ≤ 3 ∧ (valL.getD (key.length - 1) (Str.ofString "")).length = key.length ∧ (∀ c ∈ key.cps.toList, c = 120 ∨ c = 121) ∧ (∀ c ∈ (valL.getD (key.length - 1) (Str.ofString "")).cps.toList, c = 111 ∨ c = 40 ∨ c = 41 ∨ c = 45) ∧
    (key == valL.getD (key.length - 1) (Str.ofString "")) = false ∧ (valL.getD (key.length - 1) (Str.ofString "") == key) = false ∧ (revS key == revS (valL.getD (key.length - 1) (Str.ofString ""))) = false ∧ (revS (valL.getD (key.length - 1) (Str.ofString "")) == revS key) = false := by decide +kernel
/-- what the key, the value and the rows are -/
structure Given (key val : Str) (rows : List Str) (w1 : Nat) : Prop where
  k1 : 1 ≤ key.length
  k3 : key.length ≤ 3
  vl : val.length = key.length
  kc : ∀ c ∈ key.cps.toList, c = 120 ∨ c = 121
  vc : ∀ c ∈ val.cps.toList, c = 111 ∨ c = 40 ∨ c = 41 ∨ c = 45
  rr : ∀ r ∈ rows, r.length = w1 ∧ ∀ c ∈ r.cps.toList, sgR c
  w7 : w1 ≤ 7
  r11 : rows.length ≤ 11
abbrev rowsL (rows : List Str) : List (List Nat) := rows.map fun r => r.cps.toList
theorem rowsL_len {rows : List Str} {w1 : Nat} (h : ∀ r ∈ rows, r.length = w1 ∧ ∀ c ∈ r.cps.toList, sgR c) : ∀ r ∈ rowsL rows, r.length = w1 := fun r hr => by
  obtain ⟨q, hq, rfl⟩ := List.mem_map.mp hr
  rw [← (h q hq).1]; simp [Str.length]
theorem rowsL_sg {rows : List Str} {w1 : Nat} (h : ∀ r ∈ rows, r.length = w1 ∧ ∀ c ∈ r.cps.toList, sgR c) : ∀ r ∈ rowsL rows, ∀ c ∈ r, sgR c := fun r hr => by
  obtain ⟨q, hq, rfl⟩ := List.mem_map.mp hr
  exact (h q hq).2
theorem bar_len {w : Nat} : ∀ rows : List (List Nat), (∀ r ∈ rows, r.length = w) → (rows.flatMap fun r => 124 :: r).length = rows.length * (w + 1)
  | [], _ => by simp
  | r :: rows, h => by
    rw [List.flatMap_cons, List.length_append, List.length_cons, bar_len rows fun q hq => h q (.tail _ hq), h r (.head _), List.length_cons, Nat.succ_mul]; omega
theorem bar_map (f : List Nat → List Nat) : ∀ rows : List (List Nat), (rows.flatMap fun r => 124 :: f r) = (rows.map f).flatMap fun r => 124 :: r
  | [] => rfl
  | r :: rows => by rw [List.flatMap_cons, List.map_cons, List.flatMap_cons, bar_map f rows]
section
variable {key val : Str} {rows : List Str} {w1 : Nat} {x y : Str}
theorem Given.kl (G : Given key val rows w1) : 1 ≤ key.cps.toList.length := by have := G.k1; simpa [Str.length] using this
theorem Given.vlc (G : Given key val rows w1) : val.cps.toList.length = key.cps.toList.length := by have := G.vl; simpa [Str.length] using this
theorem Given.nb (G : Given key val rows w1) : 124 ∉ key.cps.toList := fun h => by have := G.kc _ h; omega
/-- all five signs of a text -/
def sg5 (c : Nat) : Prop := c = 120 ∨ c = 121 ∨ c = 38 ∨ c = 60 ∨ c = 124
theorem text_sg (G : Given key val rows w1) (hx : x.cps.toList = (rowsL rows).flatMap fun r => r ++ [124]) : ∀ c ∈ x.cps.toList, sg5 c := fun c hc => by
  rw [hx] at hc
  obtain ⟨r, hr, hc⟩ := List.mem_flatMap.mp hc
  rcases List.mem_append.mp hc with hc | hc
  · rcases rowsL_sg G.rr r hr c hc with h | h | h | h <;> simp [sg5, h]
  · simp [sg5, List.mem_singleton.mp hc]
theorem turned_sg (G : Given key val rows w1) (hy : y.cps.toList = (rowsL rows).flatMap fun r => 124 :: r.reverse) : ∀ c ∈ y.cps.toList, sg5 c := fun c hc => by
  rw [hy] at hc
  obtain ⟨r, hr, hc⟩ := List.mem_flatMap.mp hc
  rcases List.mem_cons.mp hc with hc | hc
  · simp [sg5, hc]
  · rcases rowsL_sg G.rr r hr c (List.mem_reverse.mp hc) with h | h | h | h <;> simp [sg5, h]
theorem text_len (G : Given key val rows w1) (hx : x.cps.toList = (rowsL rows).flatMap fun r => r ++ [124]) : x.length = rows.length * (w1 + 1) := by
  have := congrArg List.length hx
  rw [rows_len _ (rowsL_len G.rr), List.length_map] at this
  simpa [Str.length] using this
theorem turned_len (G : Given key val rows w1) (hy : y.cps.toList = (rowsL rows).flatMap fun r => 124 :: r.reverse) : y.length = rows.length * (w1 + 1) := by
  have := congrArg List.length hy
  rw [bar_map List.reverse, bar_len (w := w1) _ (fun r hr => by
    obtain ⟨q, hq, rfl⟩ := List.mem_map.mp hr
    rw [List.length_reverse]; exact rowsL_len G.rr q hq), List.length_map, List.length_map] at this
  simpa [Str.length] using this
theorem sg5_low {c : Nat} (h : sg5 c) : c < 128 := by rcases h with rfl | rfl | rfl | rfl | rfl <;> decide
theorem sg5_in {c : Nat} (h : sg5 c) : c ∈ sg3 := by rcases h with rfl | rfl | rfl | rfl | rfl <;> decide
/-- what escape writes, in signs -/
theorem wr_cps (G : Given key val rows w1) : (Txt.replace (escT x) key val).cps.toList = (rep key.cps.toList val.cps.toList 0 x.cps.toList).flatMap ref3 := by
  rw [rep_spec _ _ _ G.k1, esc_cps, written3 G.kl G.kc G.vc]
theorem Given.rev (G : Given key val rows w1) : Given (revS key) (revS val) rows w1 :=
  ⟨by rw [revS_len]; exact G.k1, by rw [revS_len]; exact G.k3, by rw [revS_len, revS_len]; exact G.vl, fun c hc => G.kc c (List.mem_reverse.mp (by rw [revS_cps] at hc; exact hc)), fun c hc => G.vc c (List.mem_reverse.mp (by rw [revS_cps] at hc; exact hc)), G.rr, G.w7, G.r11⟩
theorem wr_len (G : Given key val rows w1) (hx : x.length = rows.length * (w1 + 1)) : (Txt.replace (escT x) key val).length ≤ 440 := by
  have h := congrArg List.length (wr_cps (x := x) G)
  have h2 := flat_len3 (rep key.cps.toList val.cps.toList 0 x.cps.toList)
  rw [← h, rep_same G.vlc G.kl _ 0 (Nat.zero_le _)] at h2
  have h3 : rows.length * (w1 + 1) ≤ 11 * 8 := Nat.mul_le_mul G.r11 (by have := G.w7; omega)
  have e1 : (Txt.replace (escT x) key val).cps.toList.length = (Txt.replace (escT x) key val).length := by simp [Str.length]
  have e2 : x.cps.toList.length = x.length := by simp [Str.length]
  omega
theorem un_len {z : Str} (h : z.length ≤ 440) : (unT z).length ≤ 200000 := by
  have l1 : (Txt.replace z (Str.ofString "&lt;") (Str.ofString "<")).length ≤ 881 := Nat.le_trans (rep_len _ _ _ (by decide)) (by rw [show (Str.ofString "<").length = 1 by decide]; omega)
  exact Nat.le_trans (rep_len _ _ _ (by decide)) (by rw [show (Str.ofString ">").length = 1 by decide]; omega)
/-- what is written is read again -/
theorem read_back (G : Given key val rows w1) (hs : ∀ c ∈ x.cps.toList, sg5 c) : ampT (Txt.replace (unT (Txt.replace (escT x) key val)) val key) = x := by
  obtain ⟨h, t, hvt⟩ : ∃ h t, val.cps.toList = h :: t := by
    have := G.kl; rw [← G.vlc] at this
    cases e : val.cps.toList with
    | nil => rw [e] at this; simp at this
    | cons h t => exact ⟨h, t, rfl⟩
  refine str_ext ?_
  rw [amp_cps, rep_spec _ _ _ (by rw [G.vl]; exact G.k1), un_cps, wr_cps G]
  exact back3 hvt G.kl G.kc G.vc hs
/-- and without the table it is read as it was laid -/
theorem read_plain (G : Given key val rows w1) (hs : ∀ c ∈ x.cps.toList, sg5 c) : (ampT (unT (Txt.replace (escT x) key val))).cps.toList = rep key.cps.toList val.cps.toList 0 x.cps.toList := by
  rw [amp_cps, un_cps, wr_cps G]
  refine reads03 fun c hc => ?_
  rcases rep_mem _ _ c hc with h | h
  · exact sg5_in (hs c h)
  · rcases G.vc c h with rfl | rfl | rfl | rfl <;> decide
theorem read_low (G : Given key val rows w1) (hs : ∀ c ∈ x.cps.toList, sg5 c) : ∀ c ∈ (ampT (unT (Txt.replace (escT x) key val))).cps.toList, c < 128 := fun c hc => by
  rw [read_plain G hs] at hc
  rcases rep_mem _ _ c hc with h | h
  · exact sg5_low (hs c h)
  · rcases G.vc c h with rfl | rfl | rfl | rfl <;> decide
theorem read_len (G : Given key val rows w1) (hs : ∀ c ∈ x.cps.toList, sg5 c) : (ampT (unT (Txt.replace (escT x) key val))).length = x.length := by
  have h := congrArg List.length (read_plain G hs)
  rw [rep_same G.vlc G.kl _ 0 (Nat.zero_le _)] at h
  simpa [Str.length] using h
theorem read_rows (G : Given key val rows w1) (hx : x.cps.toList = (rowsL rows).flatMap fun r => r ++ [124]) : (ampT (unT (Txt.replace (escT x) key val))).cps.toList = (rowsL rows).flatMap fun r => rep key.cps.toList val.cps.toList 0 r ++ [124] := by
  rw [read_plain G (text_sg G hx), hx, rep_rows G.kl G.nb]
/-- what is read of the turned rows, turned back -/
theorem read_turned (G : Given key val rows w1) (hy : y.cps.toList = (rowsL rows).flatMap fun r => 124 :: r.reverse) :
    swapL (ampT (unT (Txt.replace (escT y) (revS key) (revS val)))).cps.toList (w1 + 1) = (rowsL rows).flatMap fun r => (rep key.cps.toList.reverse val.cps.toList.reverse 0 r.reverse).reverse ++ [124] := by
  have hb : 124 ∉ (revS key).cps.toList := G.rev.nb
  rw [read_plain G.rev (turned_sg G hy), hy, bar_map List.reverse, rep_rows' G.rev.kl hb, bar_map (fun r => rep (revS key).cps.toList (revS val).cps.toList 0 r), swapL_back]
  · rw [List.flatMap_map, List.flatMap_map]; rfl
  · intro r hr
    obtain ⟨q, hq, rfl⟩ := List.mem_map.mp hr
    obtain ⟨r0, hr0, rfl⟩ := List.mem_map.mp hq
    rw [rep_same G.rev.vlc G.rev.kl _ 0 (Nat.zero_le _), List.length_reverse, Nat.sub_zero]
    exact rowsL_len G.rr r0 hr0
end
end Mine
end
section
theorem Mine.fresh_J17 : True := by
  w_top off
  trivial
open PySem PySem.W PyProof.Rows PySem.Spec PySem.Calls
set_option Elab.async false
set_option maxRecDepth 100000
set_option maxHeartbeats 8000000
namespace Mine
section
variable {w : World} {s : Shared} {h₀ : Heap} {L : Addr} {m : Str → Option Value} {news : List (Addr × Obj)} {p : Program} {loose : List Str} {mean : ExcName → Option Value} {mg mb : Str → Option Value}
  {name qual : Str} {params : Arguments} {body : List Stmt} {scope : Scope} {dV kV doc pm cdv ct oc : Value} {an od : Option Addr} {osl : Array (Option Value)} {oW oR oV oK oZ : Obj}
local macro_rules | `(tactic| walk_at "eval Name") => `(tactic| (k_here; (with_reducible show wpAny _ _ (eval (Expr.Name _ _) (envOfC _ _ _ _ _)) _ _ _); name_kind "local"; k_dflt (refine' nameX_L ?k1 ?k2 ?_; (case k1 => k_asm); (case k2 => first | exact rfl | (repeat (first | assumption | exact if_pos rfl | refine (if_neg (by decide)).trans ?_))); k_whole)))
local macro_rules | `(tactic| walk_at "eval ListComp") => `(tactic| (k_here; k_dflt (refine ListComp_X (_F₀ := by k_asm) (by with_unfolding_all rfl) (by decide) (by rfl) (by decide) (by rfl) ?_)))
local macro_rules | `(tactic| walk_at "pyIter") => `(tactic| fail "stop here")
theorem law_shape (hl : (hd03.heap_39 w.params).lookup 68 = some ⟨oc, od, .func (fnOf name qual params body scope dV kV doc pm an cdv ct), osl⟩) (KX : (hd03.heap_39 w.params).In h₀) : PySem.Challenge.rw_kt0002_03.row.prog = PySem.Challenge.rw_kt0002_03.row.prog →
    ∃ s0 s1 s2 s3 s4 s5 s6 s7 s8 s9 s10 s11 s12 s13 s14 s15 s16, body = [s0, s1, s2, s3, s4, s5, s6, s7, s8, s9, s10, s11, s12, s13, s14, s15, s16] := by
  revert KX; k_fill; intro KX _
  have e := hl.symm.trans (by k_is); cases e
  exact ⟨_, _, _, _, _, _, _, _, _, _, _, _, _, _, _, _, _, rfl⟩
theorem tail03 {total : Int} {tt tz : Tok} {w1 : Nat} {vW vR vV vK : Option Value} {Sa Dp : Addr} {xs ys : List Value} {ps : List Int} {Q : Flow → Shared → Prop} {E : Value → Shared → Prop}
    (KX : (hd03.heap_39 w.params).In h₀) (T : Top p loose mean mg mb h₀)
    (hl : (hd03.heap_39 w.params).lookup 68 = some ⟨oc, od, .func (fnOf name qual params body scope dV kV doc pm an cdv ct), osl⟩)
    (F : Fr h₀ L s.heap m) (N : News h₀ L s.heap ((L + 1 + 1 + 1 + 1 + 1, oW) :: (L + 1 + 1 + 1 + 1, oR) :: (L + 1 + 1 + 1, oV) :: (L + 1 + 1, oK) :: (L + 1, oZ) :: [(Dp, LCg.lst ys)])) (dW : oW.data = .cell vW) (dR : oR.data = .cell vR) (dV9 : oV.data = .cell vV) (dK : oK.data = .cell vK) (dZ : oZ.data = .cell (some (.int (w1 : Int) tz)))
    (ap : ∀ q ∈ [(Dp, LCg.lst ys)], q.1 ≠ L + 1 + 1 + 1 + 1 + 1 ∧ q.1 ≠ L + 1 + 1 + 1 + 1 ∧ q.1 ≠ L + 1 + 1 + 1 ∧ q.1 ≠ L + 1 + 1 ∧ q.1 ≠ L + 1) (ht : 1 ≤ s.toks) (hw4 : 4 ≤ w1) (hw7 : w1 ≤ 7)
    (mt : m (Str.ofString "total") = some (.int total tt)) (ms : m (Str.ofString "script") = some (.ref Sa)) (mp : m (Str.ofString "parts") = some (.ref Dp)) (hLa : h₀.IsList Sa xs.toArray) (hn : xs.length ≤ 63) (hi : IntsAre ys ps) (hz : ps.length ≤ 10)
    (k : ∀ h' tk m', Fr h₀ L h' m' → Q (.ret (.bool true)) { s with heap := h', toks := tk }) :
    wpT (model PySem.Challenge.rw_kt0002_03.row.prog w) (callerA.deeper (envOfC (Str.ofString "law") scope L 68 cdv)) (execs (body.drop 3) (envOfC (Str.ofString "law") scope L 68 cdv)) Q E s := by
  obtain ⟨s0, s1, s2, s3, s4, s5, s6, s7, s8, s9, s10, s11, s12, s13, s14, s15, s16, rfl⟩ := law_shape hl KX rfl
  show wpT _ _ (execs [s3, s4, s5, s6, s7, s8, s9, s10, s11, s12, s13, s14, s15, s16] _) _ _ _
  refine execsT_tok 1 ht (wpT_any (j3 KX T hl rfl F N dK ap ht mt (fun h3 tk3 oK key tK hkm hk1 hkt F3 N3 dK ht3 => ?_)))
  dsimp only at ht3 ⊢
  clear N F
  refine execsT_tok 1 ht3 (wpT_any (j4 KX T hl rfl F3 N3 dV9 dK ap hkm hkt (fun h4 tk4 oV tV val hval hkv F4 N4 dV' ht4 => ?_)))
  dsimp only at ht4 ⊢
  clear N3 F3
  refine execsT_tok 1 ht4 (wpT_any (j5 (ns := []) KX T hl rfl F4 N4 dR dZ ap hw4 hw7 ms mp hLa hn hi hz (fun h5 tk5 oR D zs rows hzr hrn hrr hDW F5 N5 dR ht5 => ?_)))
  dsimp only at ht5 ⊢
  clear N4 F4
  obtain ⟨f1, f2, f3, f4, f5, f6, f7, f8, f9⟩ := key_facts key hkm
  rw [← hval] at f3 f5 f6 f7 f8 f9
  have G : Given key val rows w1 := ⟨f1, f2, f3, f4, f5, hrr, hw7, by omega⟩
  have hwz : rows.length * (w1 + 1) ≤ 11 * 8 := Nat.mul_le_mul G.r11 (by omega)
  refine execsT_tok 1 ht5 (wpT_any (j6 (news := [(L + 1 + 1 + 1 + 1 + 1, oW), (L + 1 + 1 + 1, oV), (L + 1 + 1, oK), (L + 1, oZ)]) KX T hl rfl F5 (fun q hq => N5 q (by simp only [List.mem_cons, List.not_mem_nil, or_false] at hq ⊢; grind)) dR hzr G.r11 hrr hw7 (fun h6 tk6 x tx hx F6 N6 ht6 => ?_)))
  dsimp only at ht6 ⊢
  clear N5 F5
  have hxl := text_len G hx
  have hxs := text_sg G hx
  refine execsT_tok 1 ht6 (j7 (x := x) (t := tx) (news := [(L + 1 + 1 + 1 + 1 + 1, oW), (L + 1 + 1 + 1 + 1, oR), (D, LCg.lst zs), (L + 1 + 1 + 1, oV), (L + 1 + 1, oK)]) KX T hl rfl F6 (fun q hq => N6 q (by simp only [List.mem_cons, List.not_mem_nil, or_false] at hq ⊢; grind)) dZ (if_pos rfl) hw4 hw7 (by omega) (fun c hc => sg5_low (hxs c hc)) hxl (fun h7 tk7 y ty hy F7 N7 ht7 => ?_))
  dsimp only at ht7 ⊢
  clear N6 F6
  rw [hx, swapL_rows _ (rowsL_len hrr)] at hy
  have hyl := turned_len G hy
  have hys := turned_sg G hy
  refine execsT_tok 1 ht7 (wpT_any (j8 (y := y) (t := ty) (news := [(L + 1 + 1 + 1 + 1 + 1, oW), (L + 1 + 1 + 1, oV), (L + 1 + 1, oK), (L + 1, oZ)]) KX T hl rfl F7 (fun q hq => N7 q (by simp only [List.mem_cons, List.not_mem_nil, or_false] at hq ⊢; grind)) dR hzr G.r11 hrr hw7 (if_pos rfl) hy (fun h8 tk8 F8 N8 ht8 => ?_)))
  dsimp only at ht8 ⊢
  clear N7 F7
  refine execsT_tok 1 ht8 (wpT_any (j9 (x := x) (tx := tx) (news := [(L + 1 + 1 + 1 + 1 + 1, oW), (L + 1 + 1 + 1 + 1, oR), (D, LCg.lst zs), (L + 1, oZ)]) KX T hl rfl F8 (fun q hq => N8 q (by simp only [List.mem_cons, List.not_mem_nil, or_false] at hq ⊢; grind)) dV' dK (by repeat (first | exact if_pos rfl | refine (if_neg (by decide)).trans ?_)) ht8 (by omega) hk1 hkv f6 (by omega) (fun h9 tk9 twr F9 N9 ht9 => ?_)))
  dsimp only at ht9 ⊢
  clear N8 F8
  refine execsT_tok 1 ht9 (wpT_any (j10 (x := y) (tx := ty) (news := [(L + 1 + 1 + 1 + 1 + 1, oW), (L + 1 + 1 + 1 + 1, oR), (D, LCg.lst zs), (L + 1, oZ)]) KX T hl rfl F9 N9 dV' dK (by repeat (first | exact if_pos rfl | refine (if_neg (by decide)).trans ?_)) ht9 (by omega) f8 (by omega) f2 (fun h10 tk10 tmi F10 N10 ht10 => ?_)))
  dsimp only at ht10 ⊢
  clear N9 F9
  have hwl := wr_len (x := x) G hxl
  have hml := wr_len (x := y) G.rev hyl
  refine execsT_tok 1 ht10 (wpT_any (j11 (x := x) (tx := tx) (y := y) (ty := ty) (wr := Txt.replace (escT x) key val) (mi := Txt.replace (escT y) (revS key) (revS val)) (twr := twr) (tmi := tmi) (news := [(L + 1 + 1 + 1 + 1 + 1, oW), (L + 1 + 1 + 1 + 1, oR), (D, LCg.lst zs), (L + 1, oZ)]) KX T hl rfl F10 N10 dV' dK (by repeat (first | exact if_pos rfl | refine (if_neg (by decide)).trans ?_)) (by repeat (first | exact if_pos rfl | refine (if_neg (by decide)).trans ?_)) (by repeat (first | exact if_pos rfl | refine (if_neg (by decide)).trans ?_)) (by repeat (first | exact if_pos rfl | refine (if_neg (by decide)).trans ?_)) ht10 (by omega) (by omega) hk1 hkv f7 f9 (by omega) (by omega) f2 (read_back G hxs) (read_back G.rev hys) (un_len hwl) (un_len hml) (fun h11 tk11 F11 N11 ht11 => ?_)))
  dsimp only at ht11 ⊢
  clear N10 F10
  have N11' : News h₀ L h11 ((L + 1 + 1 + 1 + 1 + 1, oW) :: (L + 1 + 1 + 1 + 1, oR) :: (L + 1 + 1, oK) :: (D, LCg.lst zs) :: [(L + 1 + 1 + 1, oV), (L + 1, oZ)]) := fun q hq => N11 q (by simp only [List.mem_cons, List.not_mem_nil, or_false] at hq ⊢; grind)
  refine execsT_tok 1 ht11 (wpT_any (j12 (rows := rows) (news := [(L + 1 + 1 + 1, oV), (L + 1, oZ)]) KX T hl rfl F11 N11' dW dR dK ?ap hzr G.r11 hrr hw7 f1 f2 (fun h12 tk12 oW Dw ws add hwsl hWs F12 N12 dW ht12 => ?_)))
  case ap =>
    intro q hq
    rcases List.mem_cons.mp hq with rfl | hq
    · exact hDW
    rcases List.mem_cons.mp hq with rfl | hq
    · show @Ne Nat _ _; omega
    rw [List.mem_singleton.mp hq]; show @Ne Nat _ _; omega
  dsimp only at ht12 ⊢
  clear N11 N11' F11
  have N12' : News h₀ L h12 ((L + 1 + 1 + 1 + 1 + 1, oW) :: (L + 1 + 1 + 1 + 1, oR) :: (L + 1 + 1 + 1, oV) :: (D, LCg.lst zs) :: (Dw, LCg.lst ws) :: (add ++ [(L + 1, oZ)])) := fun q hq => N12 q (by simp only [List.mem_cons, List.mem_append, List.not_mem_nil, or_false] at hq ⊢; grind)
  refine execsT_tok 1 ht12 (wpT_any (j13 (key := key) (rows := rows) (news := [(L + 1, oZ)]) KX T hl rfl F12 N12' dW dR dV' hzr G.r11 hrr hw7 f1 f2 f3 hwsl hWs (fun h13 tk13 ea te hea F13 N13 ht13 => ?_)))
  dsimp only at ht13 ⊢
  clear N12 N12' F12
  refine execsT_tok 1 ht13 (wpT_any (j14 (key := key) (rows := rows) (news := [(L + 1, oZ)]) KX T hl rfl F13 N13 dW dR dV' hzr G.r11 hrr hw7 f1 f2 f3 hwsl hWs (fun h14 tk14 la tl hla F14 N14 ht14 => ?_)))
  dsimp only at ht14 ⊢
  clear N13 F13
  have N14' : News h₀ L h14 ((L + 1, oZ) :: []) := fun q hq => N14 q (by simp only [List.mem_cons, List.mem_append, List.not_mem_nil, or_false] at hq ⊢; grind)
  refine execsT_tok 1 ht14 (wpT_any (j15 (wr := Txt.replace (escT x) key val) (twr := twr) (ea := ea) (te := te) KX T hl rfl F14 N14' (by repeat (first | exact if_pos rfl | refine (if_neg (by decide)).trans ?_)) (by repeat (first | exact if_pos rfl | refine (if_neg (by decide)).trans ?_)) (by omega) ht14 (str_ext ((read_rows G hx).trans hea.symm)) (fun h15 tk15 F15 N15 ht15 => ?_)))
  dsimp only at ht15 ⊢
  clear N14 N14' F14
  have hrl := read_len G.rev hys
  refine execsT_tok 1 ht15 (j16 (n := rows.length) (mi := Txt.replace (escT y) (revS key) (revS val)) (tmi := tmi) (la := la) (tl := tl) KX T hl rfl F15 N15 dZ (by repeat (first | exact if_pos rfl | refine (if_neg (by decide)).trans ?_)) (by repeat (first | exact if_pos rfl | refine (if_neg (by decide)).trans ?_)) (by omega) hw4 hw7 rfl (by omega) (read_low G.rev hys) (by omega) ((read_turned G hy).trans hla.symm) (fun h16 tk16 F16 N16 ht16 => ?_))
  exact k _ _ _ F16
end
end Mine
end
section
theorem Mine.fresh_H03 : True := by
  w_top off
  trivial
open PySem PySem.W PyProof.Rows PySem.Spec PySem.Calls
set_option Elab.async false
set_option maxRecDepth 100000
set_option maxHeartbeats 8000000
namespace Mine
theorem good_true {c : ClaimW} {cl : Str → Option Addr} {mean : ExcName → Option Value} {args : List WData} {s₁ s' : Shared} (hg : s'.gens = #[]) (hk : ∀ b o, s₁.heap.get? b = some o → s'.heap.get? b = some o) (hos : s'.os = s₁.os) (hn : ∀ cls, c.raises args cls = false) (hp : c.post args (.bool true) args = true) :
    GoodWG c cl mean args s₁ (.ok (.ret (.bool true))) s' := GoodW.toG ⟨.inl ⟨_, _, _, rfl, hn, .bool true, hp, unshared_nil⟩, hk, hos, hg⟩
theorem size_of (a S : Int) (h : 4 + a.fmod 4 = S) : ∃ w1 : Nat, S = (w1 : Int) ∧ 4 ≤ w1 ∧ w1 ≤ 7 := by
  rw [Int.fmod_eq_emod_of_nonneg _ (by decide)] at h
  exact ⟨S.toNat, by omega, by omega, by omega⟩
theorem w03 : PySem.Challenge.rw_kt0002_03.Holds := by
  w_on; o_law
  refine holds_tame (q := hd03.view_39) (loose := [Str.ofString "escape", Str.ofString "unescape"]) (Xt := fun s => xlAt hd03.view_39 [] s && recOk (RowW.records PySem.Challenge.rw_kt0002_03.row.toRowW) s) (XP := XL hd03.view_39 []) (Yf := Hook.obs hook03) (Ya := Hook.val hook03) (YP := Hook.says hook03) (N := 900) left03 (Hook.of hook03) (Hook.keeps hook03) (fun s e => xl_of s (Bool.and_eq_true_iff.mp e).1) XL.keeps (by rfl) (by rfl) (by rfl) (fun s e => recFacts_of (Bool.and_eq_true_iff.mp e).2) (by rfl) (by first | assumption | decide +kernel) (by decide +kernel) ⟨rfl, rfl, rfl, rfl, rfl, by decide +kernel⟩ ?hw ?hc
  case hw => w_witness2
  case hc =>
    intro w s₀ s₁ mg mb G Y fa o pm cd doc dV kV ho hd hcd hD hmg hg args vals as hpre hlay hrd hwl hlo
    have KX : (hd03.heap_39 w.params).In s₁.heap := kIn_of Y
    revert KX; k_fill; intro KX
    have X := (Ground.X G).1
    refine Ground.open G ?_
    intro T B D TE TW
    wrow_args hpre hlay hrd hwl hlo
    refine ⟨?main, ?triv⟩
    case triv =>
      refine good_true hg (fun _ _ e => e) rfl (raisesW_false ?_) ?_
      · wrow_none_raised
      · kc_post
    case main =>
      have hfa : fa = 68 := by
        have h1 := mg_of KX T.g (by k_is : nsIn (hd03.heap_39 w.params) mainGlobals (Str.ofString "law") = some (some _))
        have h2 := hmg.symm.trans h1
        exact Value.ref.inj (Option.some.inj h2)
      subst hfa
      refine wpT_call ?_
      refine' codeT_top_K KX T.nolimit ?k6 ?k7 ?hroom ?k9 ?kD ?kB1 ?kN ?_ ?c2 ?c3 ?c4
      case k6 => k_is
      case k7 => k_is
      case hroom => decide
      case k9 => exact BindsTo.of_eq rfl
      case kD => exact kindsX (by rfl)
      case kB1 => exact ⟨_, _, rfl, rfl⟩
      case kN => decide +kernel
      case c2 => exact rfl
      case c3 => exact rfl
      case c4 => exact rfl
      intro L' h₁ tk cells ht F N Y'
      k_cells Y'
      clear ho hd hcd hD hmg
      refine nameT (fun Qf hQf => ?_)
      refine execsT_tok 1 ht (wpT_any ?_)
      k_fold
      repeat (first | (k_unfold; (try dsimp only)) | walk1 | (dsimp only; walk1))
      clear ht
      rename 1 ≤ _ => ht
      (try dsimp only at ht)
      refine execsT_tok 1 ht (wpT_any ?_)
      k_fold
      repeat (first | (k_unfold; (try dsimp only)) | walk1 | (dsimp only; walk1))
      clear ht
      rename 1 ≤ _ => ht
      (try dsimp only at ht)
      refine execsT_tok 1 ht (wpT_any ?_)
      k_fold
      repeat (first | (k_unfold; (try dsimp only)) | walk1 | (dsimp only; walk1))
      clear ht
      rename 1 ≤ _ => ht
      (try dsimp only at ht)
      rename s₁.heap.IsList _ _ => hLa
      rename ¬ ((63 : Nat) : Int) < _ => hc63
      rename_i oW oR oV oK oZ0 dW dR dV9 dK dZ0 q1 e1 D1 ws1 h4 hI1 hC1 hL1 l1 hk1 hk2 g1 hIy hLy Dp h3 tk1 hDp q2 e2 h2 tk2 t2 h1' h0 oZ F2 N2 dZ
      generalize hS : ((4 : Int) + Int.fmod _ 4) = S at dZ
      obtain ⟨w1, hw1, hw4, hw7⟩ := size_of _ S hS
      rw [hw1] at dZ
      have N3 : News s₁.heap L' h0 ((L' + 1 + 1 + 1 + 1 + 1, oW) :: (L' + 1 + 1 + 1 + 1, oR) :: (L' + 1 + 1 + 1, oV) :: (L' + 1 + 1, oK) :: (L' + 1, oZ) :: [(Dp, LCg.lst ys)]) := fun q hq => N2 q (by simp only [List.mem_cons, List.not_mem_nil, or_false] at hq ⊢; grind)
      have ap3 : ∀ q ∈ [(Dp, LCg.lst ys)], q.1 ≠ L' + 1 + 1 + 1 + 1 + 1 ∧ q.1 ≠ L' + 1 + 1 + 1 + 1 ∧ q.1 ≠ L' + 1 + 1 + 1 ∧ q.1 ≠ L' + 1 + 1 ∧ q.1 ≠ L' + 1 := fun q hq => by
        rw [List.mem_singleton.mp hq]
        exact ⟨hDp.2.1.symm, hDp.2.2.1.symm, hDp.2.2.2.1.symm, hDp.2.2.2.2.1.symm, hDp.2.2.2.2.2.symm⟩
      have hl := (by k_is : (hd03.heap_39 w.params).lookup 68 = some _)
      refine tail03 (oW := oW) (oR := oR) (oV := oV) (oK := oK) (oZ := oZ) KX T hl F2 N3 dW dR dV9 dK dZ ap3 ht hw4 hw7 (if_pos rfl) ?ms ?mp hLa ?hn hIy ?hz (fun h' tk' m' F' => ?_)
      case ms => repeat (first | exact rfl | refine (if_neg (by decide)).trans ?_)
      case mp => repeat (first | exact if_pos rfl | refine (if_neg (by decide)).trans ?_)
      case hn => omega
      case hz => rw [List.length_map, List.length_take]; omega
      refine hQf () _ _ ?_
      have hkp := F'.keep
      clear hQf ap3 N3 N2 F2 F' dZ hw1 hw4 hw7 hS hl hDp hIy hLy hI1 hC1 hL1 hk1 hk2 ht hLa l1 dW dR dV9 dK
      dsimp only
      refine good_true hg hkp rfl (raisesW_false ?_) ?_
      · wrow_none_raised
      · kc_post
end Mine
end
theorem PySem.Challenge.cw_kt0002_03_holds : PySem.Challenge.rw_kt0002_03.Holds := by
  exact Mine.w03
