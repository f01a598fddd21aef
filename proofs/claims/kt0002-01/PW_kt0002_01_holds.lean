import PyProof.Rows.All
import Wide.All
import OpenK.AllK
import Wide.FinOn
import PySem.Challenge.RW_kt0002_01
set_option Elab.async false
section
theorem Mine.fresh_B1 : True := by
  w_top off
  trivial
open PySem PySem.W PyProof.Rows PySem.Spec PySem.Calls
set_option Elab.async false
set_option maxRecDepth 100000
set_option maxHeartbeats 4000000
namespace Mine
open PySem.Builtin

theorem ba_mro : mroOf (.type "bytearray") = pure [.type "bytearray", .type "object"] := by rw [mroOf_type]; kernel_rfl
theorem ba_lookup_new : typeLookup (.type "bytearray") "__new__" = pure (some (.builtin "bytearray.__new__")) := by rw [typeLookup_type, builtinLookup_eq_fast]; kernel_rfl
theorem ba_slot_init : Slot "bytearray" "__init__" "bytearray.__init__" :=
  .of (owner := "bytearray") (n := "__init__") (by rw [typeLookup_type, builtinLookup_eq_fast]; kernel_rfl) (by decide +kernel) (by decide +kernel) (by decide +kernel)
    (by first | exact .inl (by decide +kernel) | exact .inr (by decide +kernel)) (by rw [isSubtype_type]; kernel_rfl)
theorem ba_called : TypeCalled "bytearray" "bytearray.__new__" "bytearray.__init__" :=
  ⟨by decide +kernel, by decide +kernel, ⟨_, _, ba_mro⟩, madeBy_type ba_mro ba_lookup_new (by decide +kernel), by decide +kernel, by rw [isSubtype_type]; kernel_rfl, ba_slot_init⟩
theorem ba_typeCall (a : Value) : checkTypeCall "bytearray" ⟨[a], []⟩ = pure () := by kernel_rfl
theorem ba_newCall (a : Value) : checkBuiltinCall "bytearray.__new__" ⟨[.type "bytearray", a], []⟩ = pure () := by kernel_rfl
theorem ba_plain : plainId "bytearray.__new__" = true := by decide +kernel
theorem ba_entry_new : entryFor table "bytearray.__new__" = some Builtin.«list.__new__» :=
  entryFor_alias (id' := "list.__new__") (by kernel_rfl) (by first | rfl | decide +kernel | (unfold String.splitOn; simp +decide [String.splitOnAux])) (by decide +kernel) (by kernel_rfl)
theorem ba_entry_init : entryFor table "bytearray.__init__" = some Builtin.«bytearray.__init__» := by first | exact entryFor_of_fast (by kernel_rfl) | exact entryFor_of_tree (by kernel_rfl)
theorem ba_args_init (a b : Value) : argsOk "bytearray.__init__" ⟨[a, b], []⟩ := by
  unfold argsOk; kernel_rfl
theorem ba_sub : isSubtype (.type "bytearray") (.type "bytearray") = pure true := by rw [isSubtype_type]; kernel_rfl
theorem ba_no_release : typeLookup (.type "bytearray") "__release_buffer__" = pure (some (.builtin "bytearray.__release_buffer__")) := by rw [typeLookup_type, builtinLookup_eq_fast]; kernel_rfl
theorem ba_buffer : typeLookup (.type "bytearray") "__buffer__" = pure (some (.builtin "bytearray.__buffer__")) := by rw [typeLookup_type, builtinLookup_eq_fast]; kernel_rfl
theorem ba_slot_setitem : Slot "bytearray" "__setitem__" "bytearray.__setitem__" :=
  .of (owner := "bytearray") (n := "__setitem__") (by rw [typeLookup_type, builtinLookup_eq_fast]; kernel_rfl) (by decide +kernel) (by decide +kernel) (by decide +kernel)
    (by first | exact .inl (by decide +kernel) | exact .inr (by decide +kernel)) (by rw [isSubtype_type]; kernel_rfl)
theorem ba_entry_setitem : entryFor table "bytearray.__setitem__" = some Builtin.«bytearray.__setitem__» := by first | exact entryFor_of_fast (by kernel_rfl) | exact entryFor_of_tree (by kernel_rfl)
theorem ba_args_setitem (a b c : Value) : argsOk "bytearray.__setitem__" ⟨[a, b, c], []⟩ := by
  unfold argsOk; kernel_rfl
end Mine
end
section
theorem Mine.fresh_B2 : True := by
  w_top off
  trivial
open PySem PySem.W PyProof.Rows PySem.Spec PySem.Calls
set_option Elab.async false
set_option maxRecDepth 100000
set_option maxHeartbeats 4000000
namespace Mine
open PySem.Builtin

set_option maxRecDepth 1000000 in
theorem ba_owner : ("bytearray.__new__".splitOn ".__new__").headD "" = "bytearray" := by simp +decide [String.splitOn, String.splitOnAux]

/-- a bytearray as an object -/
abbrev ba (b : Array UInt8) : Obj := { cls := .type "bytearray", data := .bytearray b }

section
variable {prog : Program} {w : World} {A : Around} {E : Value → Shared → Prop} {s : Shared}

theorem ba_code_new (a : Value) {Q₁ : Value → Shared → Prop}
    (h : Q₁ (.ref s.heap.objs.size) { s with heap := s.heap.push (ba #[]) }) :
    codeAny (model prog w) A (.call (.builtin "bytearray.__new__") ⟨[.type "bytearray", a], []⟩) (wants Q₁ E) s := by
  refine codeAny_of_tree ?_
  show wpAny _ A.in1 (do checkBuiltinCall "bytearray.__new__" ⟨[.type "bytearray", a], []⟩; again (.builtin "bytearray.__new__" ⟨[.type "bytearray", a], []⟩)) _ _ s
  refine wpAny_bind (wpAny_of_eq (ba_newCall a) (wpAny_pure ⟨plainId_quiet ba_plain _, codeAny_builtin_stack ba_entry_new rfl fun p st => ?_⟩))
  rw [Around.under_plainId ba_plain _]
  have hsub := ba_sub
  have hown := ba_owner
  obtain ⟨hp, g, d, tk, os⟩ := s
  simp only [hown]
  wp_walk
  exact h

theorem ba_typeIs {h : Heap} {a : Addr} {b : Array UInt8} {g d t os} (e : h.get? a = some (ba b)) : Shared.TypeIs ⟨h, g, d, t, os⟩ (.ref a) "bytearray" := ⟨_, e, rfl⟩

theorem ba_ownRelease {a : Addr} {b : Array UInt8} {Q : Bool → Shared → Prop} (e : s.heap.get? a = some (ba b)) (h : Q false s) : wpAny (model prog w) A (Bytes.ownRelease (.ref a)) Q E s := by
  have hT : s.TypeIs (.ref a) "bytearray" := ⟨_, e, rfl⟩
  unfold Bytes.ownRelease Bytes.slotIsOwn
  refine wpAny_bind (wpAny_bind (wpAny_specialOf hT ba_no_release ?_))
  dsimp only
  rw [if_neg (by decide +kernel)]
  refine wpAny_isInstance (b := true) hT ?_ (wpAny_pure h)
  have e : ("bytearray.__release_buffer__".dropRight ("__release_buffer__".length + 1)) = "bytearray" := by decide +kernel
  rw [e]; exact ba_sub

theorem ba_write {a : Addr} {b : Array UInt8} {f : Array UInt8 → Array UInt8} {Q : Unit → Shared → Prop} (e : s.heap.get? a = some (ba b)) (hz : (f b).size ≤ sizeLine)
    (h : (s.heap.update a (Obj.mapBytearray f)).get? a = some (ba (f b)) → Q () { s with heap := s.heap.update a (Obj.mapBytearray f) }) : wpAny (model prog w) A (Bytes.write (.ref a) f) Q E s := by
  show wpAny _ _ (updateBytearray a f) _ _ _
  unfold updateBytearray
  refine wpAny_bind (wpAny_load e ?_)
  show wpAny _ _ (update a (Obj.mapBytearray f) >>= fun _ => lookBehind a) _ _ _
  refine wpAny_bind (wpAny_update e ?_)
  have e' : (s.heap.update a (Obj.mapBytearray f)).get? a = some (ba (f b)) := Heap.get?_update_self (Obj.mapBytearray f) e rfl
  refine wpAny_lookBehind e' ?_ (h e')
  show (if (f b).size > sizeLine then some "bytearray:memory" else none) = none
  rw [if_neg (Nat.not_lt.mpr hz)]

theorem ba_payload {a : Addr} {b : Array UInt8} {Q : Array UInt8 → Shared → Prop} (e : s.heap.get? a = some (ba b)) (h : Q b s) : wpAny (model prog w) A (Bytes.payload (.ref a)) Q E s := by
  unfold Bytes.payload Bytes.payload?
  exact wpAny_bind (wpAny_bind (wpAny_load e (wpAny_pure (wpAny_pure h))))
end
end Mine
end
section
theorem Mine.fresh_B3 : True := by
  w_top off
  trivial
open PySem PySem.W PyProof.Rows PySem.Spec PySem.Calls
set_option Elab.async false
set_option maxRecDepth 100000
set_option maxHeartbeats 4000000
namespace Mine
open PySem.Builtin
open Sem (wp)

/-- a code that holds no buffer open while it runs -/
def tame : Code → Bool
  | .builtin i _ => !Bytes.decodersThatHold.contains i
  | _ => true
def Tame (l : List (Code × Pos)) : Prop := ∀ x ∈ l, tame x.1 = true
theorem Tame.cons {c : Code} {p : Pos} {l : List (Code × Pos)} (h : tame c = true) (hl : Tame l) : Tame ((c, p) :: l) := fun x hx => by
  rcases List.mem_cons.mp hx with rfl | hx
  · exact h
  · exact hl x hx

/-- wpAny, over the contexts alone whose codes are tame -/
structure wpT {α : Type} (M : Model) (A : Around) (t : Sem α) (Q : α → Shared → Prop) (E : Value → Shared → Prop) (s : Shared) : Prop where
  out : ∀ Γ p, Γ.In A → tame Γ.code = true → Tame Γ.below → wp M Γ t (fun a _ s' => Q a s') (fun e _ s' => E e s') p s
structure codeT (M : Model) (A : Around) (c : Code) (R : Result → Shared → Prop) (s : Shared) : Prop where
  out : ∀ Γ p, Γ.code = c → Γ.Below A → Tame Γ.below → wpCode M Γ R p s

section
variable {α β : Type} {M : Model} {A : Around} {E : Value → Shared → Prop} {s : Shared}
theorem wpT_any {t : Sem α} {Q : α → Shared → Prop} (h : wpAny M A t Q E s) : wpT M A t Q E s := ⟨fun Γ p hi _ _ => h Γ p hi⟩
theorem codeT_any {c : Code} {R : Result → Shared → Prop} (h : codeAny M A c R s) : codeT M A c R s := ⟨fun Γ p hc hb _ => h Γ p hc hb⟩
theorem wpT_mono {t : Sem α} {Q Q' : α → Shared → Prop} {E' : Value → Shared → Prop} (h : wpT M A t Q E s)
    (hQ : ∀ a s, Q a s → Q' a s) (hE : ∀ e s, E e s → E' e s) : wpT M A t Q' E' s :=
  ⟨fun Γ p hi hc hb => Sem.wp_mono M Γ t (fun a _ s => hQ a s) (fun e _ s => hE e s) p s (h.out Γ p hi hc hb)⟩
theorem wpT_pure {a : α} {Q : α → Shared → Prop} (h : Q a s) : wpT M A (pure a) Q E s := ⟨fun _ _ _ _ _ => h⟩
theorem wpT_bind {m : Sem α} {f : α → Sem β} {Q : β → Shared → Prop} (h : wpT M A m (fun a s' => wpT M A (f a) Q E s') E s) :
    wpT M A (m >>= f) Q E s := ⟨fun Γ p hi hc hb => by
  rw [Sem.wp_bind']
  exact Sem.wp_mono M Γ m (fun a p' s' h' => h'.out Γ p' hi hc hb) (fun _ _ _ h' => h') p s (h.out Γ p hi hc hb)⟩
/-- a leaf of the library's ahead of a tame rest -/
theorem wpT_leaf {m : Sem α} {f : α → Sem β} {Q : β → Shared → Prop} (h : wpAny M A m (fun a s' => wpT M A (f a) Q E s') E s) :
    wpT M A (m >>= f) Q E s := wpT_bind (wpT_any h)
theorem wpT_holding {vs : List Value} {m : Sem α} {Q : α → Shared → Prop} (h : wpT M A m Q E s) : wpT M A (holding vs m) Q E s :=
  ⟨fun Γ p hi hc hb => by rw [Sem.wp_holding]; exact h.out Γ p hi hc hb⟩
theorem wpT_keep {vs : List Value} {m : Sem α} {Q : α → Shared → Prop} (h : wpT M A m Q E s) : wpT M A (m.keep vs) Q E s :=
  ⟨fun Γ p hi hc hb => by rw [Sem.wp_keep]; exact h.out Γ p hi hc hb⟩
theorem wpT_onRaise {m : Sem α} {k : Value → Sem Unit} {Q : α → Shared → Prop}
    (h : wpT M A m Q (fun e s' => wpT M A (k e) (fun _ s'' => E e s'') E s') s) : wpT M A (m.onRaise k) Q E s := ⟨fun Γ p hi hc hb => by
  rw [Sem.wp_onRaise]
  exact Sem.wp_mono M Γ m (fun _ _ _ h' => h') (fun e p' s' h' => h'.out Γ p' hi hc hb) p s (h.out Γ p hi hc hb)⟩
theorem wpT_attempt {m : Sem α} {Q : Except Value α → Shared → Prop} (h : wpT M A m (fun a => Q (.ok a)) (fun e => Q (.error e)) s) :
    wpT M A m.attempt Q E s := ⟨fun Γ p hi hc hb => by rw [Sem.wp_attempt]; exact h.out Γ p hi hc hb⟩
theorem codeT_mono {c : Code} {R R' : Result → Shared → Prop} (h : codeT M A c R s) (hR : ∀ r s, R r s → R' r s) : codeT M A c R' s :=
  ⟨fun Γ p hc hb ht => wpCode_mono hR (h.out Γ p hc hb ht)⟩
theorem wpT_run {c : Code} {h : Option Value} {Q : Flow → Shared → Prop}
    (hc : codeT M (A.mark h) c (fun r s' => match r with | .ok f => Q f s' | .error e => E e s') s) (hnb : h ≠ some byPass := by intro x; cases x) :
    wpT M A (run c h) Q E s :=
  ⟨fun Γ p hi hct hb => by rw [Sem.wp_run]; exact hc.out _ p rfl (hi.enter c h p hnb) (Tame.cons hct hb)⟩
theorem wpT_runValue {c : Code} {Q : Value → Shared → Prop}
    (hc : codeT M A c (fun r s' => match r with | .ok (.ret v) => Q v s' | .ok _ => False | .error e => E e s') s) :
    wpT M A (runValue c) Q E s := ⟨fun Γ p hi hct hb => by rw [Sem.wp_runValue]; exact hc.out _ p rfl (hi.enter c none p (by intro x; cases x)) (Tame.cons hct hb)⟩
theorem wpT_call {f : Value} {pos : List Value} {kw : List (Str × Value)} {Q : Value → Shared → Prop}
    (hc : codeT M A (.call f ⟨pos, kw⟩) (fun r s' => match r with | .ok (.ret v) => Q v s' | .ok _ => False | .error e => E e s') s) :
    wpT M A (call f pos kw) Q E s := wpT_runValue hc
theorem codeT_of_tree {c : Code} {R : Result → Shared → Prop} (hc : tame c = true)
    (h : wpT M (A.under c) (M.den c) (fun fin s' => match fin with | .done f => R (.ok f) s' | .again c' => c'.quiet = true ∧ codeT M A c' R s')
      (fun e s' => R (.error e) s') s) : codeT M A c R s := ⟨fun Γ p e hb ht => by
  rw [wpCode_iff_wp, e]
  refine Sem.wp_mono M Γ _ (fun fin p' s' h' => ?_) (fun _ _ _ h' => h') p s (h.out Γ p (e ▸ hb.in) (e ▸ hc) ht)
  cases fin with
  | done f => exact h'
  | again c' => exact ⟨h'.1, h'.2.out (Γ.goto c') p' rfl (hb.goto c') ht⟩⟩
end

section
variable {prog : Program} {w : World} {A : Around} {s : Shared} {R : Result → Shared → Prop}
theorem codeT_func {body env}
    (h : wpT (model prog w) (A.deeper env) (execs body env) (fun f s' => R (.ok (.ret (match f with | .ret v => v | _ => .none))) s')
      (fun e s' => wpT (model prog w) (A.deeper env) (leaving env e) (fun _ s'' => R (.error e) s'') (fun e' s'' => R (.error e') s'') s') s) :
    codeT (model prog w) A (.func body env) R s := by
  refine codeT_of_tree rfl ?_
  show wpT _ (A.deeper env) (do point; match ← (execs body env).onRaise (leaving env) with | .ret v => ret v | _ => ret .none) _ _ s
  refine wpT_leaf (wpAny_point (wpT_bind (wpT_onRaise (wpT_mono h (fun f s' h' => ?_) fun _ _ h' => h'))))
  cases f <;> exact wpT_pure h'
theorem codeT_call_function {a : Addr} {args : Args} {o : Obj} {fd : FuncData} {body : List Stmt} (hroom : A.depth < recursionLimit)
    (ho : s.heap.get? a = some o)
    (hd' : o.data = .func fd) (hco : fd.scope.isCoroutine = false) (hgen : fd.scope.isGenerator = false) (hbody : fd.body = .stmts body) (hcd : s.heap.CodeRec fd.code fd.qualname)
    (h : wpAny (model prog w) A.in1 (bindArgs fd args) (fun binds s₁ =>
      wpAny (model prog w) A.in1 (newFunctionEnv fd.scope fd.globals fd.closure binds (fd.qualname ++ ".<locals>.") (some a) fd.code none fd.builtins)
        (fun env s₂ => s₂.heap.NoLimit ∧ codeT (model prog w) A (.func body env) R s₂) (fun e s' => R (.error e) s') s₁) (fun e s' => R (.error e) s') s) :
    codeT (model prog w) A (.call (.ref a) args) R s := by
  refine codeT_of_tree rfl ?_
  show wpT _ A.in1 (callAny (.ref a) args) _ _ s
  simp only [callAny]
  refine wpT_leaf (wpAny_load ho ?_)
  obtain ⟨c, oc, vs, tq, hc, hoc, hdc, hq⟩ := hcd
  simp only [hd', callFunction, hco, hgen, hbody, hc]
  rw [hc] at h
  refine wpT_leaf (m := field (.ref c) 1) (wpAny_field hoc hdc hq (wpT_leaf (wpAny_pure ?_)))
  exact wpT_leaf (wpAny_mono h (fun binds s₁ h₁ => wpT_leaf (wpAny_mono h₁ (fun env s₂ h₂ => wpT_leaf (wpAny_enterFrame h₂.1 hroom
    (wpT_pure (And.intro rfl h₂.2)))) fun _ _ h' => h')) fun _ _ h' => h')
end
end Mine
end
section
theorem Mine.fresh_B4 : True := by
  w_top off
  trivial
open PySem PySem.W PyProof.Rows PySem.Spec PySem.Calls
set_option Elab.async false
set_option maxRecDepth 100000
set_option maxHeartbeats 4000000
namespace Mine
open PySem.Builtin
open Sem (wp)
section
variable {prog : Program} {w : World} {A : Around} {E : Value → Shared → Prop} {s : Shared}
theorem codeT_call_builtin {i : String} {args : Args} {b : Builtin} {R : Result → Shared → Prop} (hq : plainId i = true) (ht : tame (.builtin i args) = true) (hb : entryFor table i = some b)
    (h : wpAny (model prog w) A.in1 (checkBuiltinCall i args) (fun _ s₁ => wpT (model prog w) A.in1 (b args)
      (fun fin s' => match fin with | .done f => R (.ok f) s' | .again c' => c'.quiet = true ∧ codeT (model prog w) A c' R s') (fun e s' => R (.error e) s') s₁)
      (fun e s' => R (.error e) s') s) : codeT (model prog w) A (.call (.builtin i) args) R s := by
  refine codeT_of_tree rfl ?_
  show wpT _ A.in1 (do checkBuiltinCall i args; again (.builtin i args)) _ _ s
  refine wpT_leaf (wpAny_mono h (fun _ s₁ h₁ => wpT_pure (And.intro (plainId_quiet hq args) (codeT_of_tree ht ?_))) fun _ _ h' => h')
  show wpT _ _ (match entryFor table i with | some b => b args | none => unsupported ((withoutEnding? i "#data").getD i)) _ _ s₁
  rw [hb, Around.under_plainId hq args]; exact h₁

theorem codeT_builtin {i : String} {args : Args} {b : Builtin} {R : Result → Shared → Prop} (ht : tame (.builtin i args) = true) (hb : entryFor table i = some b)
    (h : wpT (model prog w) (A.under (.builtin i args)) (b args)
      (fun fin s' => match fin with | .done f => R (.ok f) s' | .again c' => c'.quiet = true ∧ codeT (model prog w) A c' R s') (fun e s' => R (.error e) s') s) :
    codeT (model prog w) A (.builtin i args) R s := by
  refine codeT_of_tree ht ?_
  show wpT _ _ (match entryFor table i with | some b => b args | none => unsupported ((withoutEnding? i "#data").getD i)) _ _ s
  rw [hb]; exact h

theorem callSpecialT_slot {self : Value} {T : String} {name : Str} {i : String} {args : List Value}
    {Q : Option Value → Shared → Prop} (hT : s.TypeIs self T) (h : Slot T name i)
    (hc : wpT (model prog w) A (call (.builtin i) (self :: args)) (fun v => Q (some v)) E s) : wpT (model prog w) A (callSpecial? self name args) Q E s := by
  simp only [callSpecial?]
  refine wpT_leaf (wpAny_specialOf hT h.lookup ?_)
  simp only [h.bind]
  exact wpT_holding (wpT_leaf (wpAny_pure (wpT_bind (wpT_mono hc (fun v s' h' => wpT_pure h') fun _ _ h' => h'))))

theorem ift_false {α : Type} {M : Model} {c : Bool} {a b : Sem α} {Q : α → Shared → Prop} (hc : c = false) (h : wpT M A b Q E s) : wpT M A (if c = true then a else b) Q E s := by
  subst hc
  exact h
theorem ift_true {α : Type} {M : Model} {c : Bool} {a b : Sem α} {Q : α → Shared → Prop} (hc : c = true) (h : wpT M A a Q E s) : wpT M A (if c = true then a else b) Q E s := by
  subst hc
  exact h

theorem callT_type {T newId initId : String} {Bi : Builtin} {args : List Value} {Q Q₁ : Value → Shared → Prop} (ft : TypeCalled T newId initId)
    (hct : checkTypeCall T ⟨args, []⟩ = pure ()) (entryI : entryFor table initId = some Bi) (hti : ∀ a, tame (.builtin initId a) = true)
    (hnew : codeAny (model prog w) A.in1 (.call (.builtin newId) ⟨.type T :: args, []⟩) (wants Q₁ E) s)
    (hnext : ∀ obj s₁, Q₁ obj s₁ → s₁.TypeIs obj T ∧ argsOk initId ⟨obj :: args, []⟩ ∧
      wpT (model prog w) A.in1.in1 (Bi ⟨obj :: args, []⟩)
        (fun fin s' => ∃ s'', fin = .done (.ret .none) ∧ s' = s'' ∧ Q obj s'') E s₁) :
    wpT (model prog w) A (call (.type T) args) Q E s := by
  obtain ⟨c, tl, hmro⟩ := ft.mro
  have hmade := ft.made
  have hsub := ft.sub
  refine wpT_call (codeT_of_tree rfl ?_)
  show wpT _ _ (callAny (.type T) _) _ _ _
  refine wpT_pure ⟨Code.quiet_builtin _ (by decide +kernel), codeT_builtin rfl F.entry_type_call ?_⟩
  rw [Around.under_plain (weight_type_call_type T args []) rfl]
  refine ift_false ft.notType ?_
  refine ift_false ft.canCreate ?_
  refine wpT_leaf (wpAny_of_eq hct ?_)
  refine wpT_leaf (wpAny_of_eq hmro ?_)
  refine ift_false rfl ?_
  refine wpT_leaf (wpAny_of_eq hmade (wpT_leaf (wpAny_pure ?_)))
  refine wpT_leaf (wpAny_holding (wpAny_call (codeAny_mono hnew fun r s₁ hr => ?_)))
  cases r with
  | error e => exact hr
  | ok fl =>
    cases fl with
    | ret obj =>
      obtain ⟨hT, hok, hsi⟩ := hnext _ _ hr
      refine wpT_leaf (wpAny_isInstance (b := true) hT hsub ?_)
      refine ift_false rfl ?_
      refine wpT_bind (wpT_holding (callSpecialT_slot (name := Str.ofString "__init__") hT ft.init ?_))
      refine wpT_call (codeT_call_builtin ft.init.plain (hti _) entryI (ft.init.check _ _ _ _ _ _ _ _ hT hok (wpT_mono hsi (fun fin s' h' => ?_) fun _ _ x => x)))
      obtain ⟨s'', rfl, rfl, hq⟩ := h'
      show wpT _ _ (if (Value.none != Value.none) = true then _ else _) _ _ _
      refine ift_false (by decide) ?_
      exact wpT_pure hq
    | _ => exact hr.elim
end
end Mine
end
section
theorem Mine.fresh_B5 : True := by
  w_top off
  trivial
open PySem PySem.W PyProof.Rows PySem.Spec PySem.Calls
set_option Elab.async false
set_option maxRecDepth 100000
set_option maxHeartbeats 4000000
namespace Mine
open PySem.Builtin
open Sem (wp)

def holdF (self : Value) : Code × Pos → Bool
    | (.builtin "bytearray.__contains__" ⟨v :: _, _⟩, _) | (.builtin "bytearray.__mod__" ⟨v :: _, _⟩, _)
    | (.builtin "bytearray.__rmod__" ⟨_ :: v :: _, _⟩, _) | (.builtin "_struct.pack_into.held" ⟨v :: _, _⟩, _) => Bytes.sameRef v self
    | (.builtin "bytearray.find.held" ⟨_ :: _ :: held, _⟩, _) => held.any (Bytes.sameRef self)
    | (.builtin i ⟨v :: _, _⟩, _) => Bytes.sameRef v self && Bytes.decodersThatHold.contains i
    | _ => false
theorem exported_eq (self : Value) : Bytes.exported self = (do return (← stack).any (holdF self)) := rfl

theorem holdF_false {self : Value} {c : Code} {p : Pos} (ht : tame c = true) (hg : c.isGuard = false) : holdF self (c, p) = false := by
  cases hh : holdF self (c, p) with
  | false => rfl
  | true =>
    exfalso
    unfold holdF at hh
    split at hh
    · rename_i e; cases e; exact absurd hg (by show ¬ (guardIds.contains "bytearray.__contains__" = false); decide +kernel)
    · rename_i e; cases e; exact absurd hg (by show ¬ (guardIds.contains "bytearray.__mod__" = false); decide +kernel)
    · rename_i e; cases e; exact absurd hg (by show ¬ (guardIds.contains "bytearray.__rmod__" = false); decide +kernel)
    · rename_i e; cases e; exact absurd hg (by show ¬ (guardIds.contains "_struct.pack_into.held" = false); decide +kernel)
    · rename_i e; cases e; exact absurd hg (by show ¬ (guardIds.contains "bytearray.find.held" = false); decide +kernel)
    · rename_i e
      cases e
      simp only [tame, Bool.not_eq_true'] at ht
      rw [ht] at hh
      simp at hh
    · cases hh

theorem guards_none : ∀ {l : List (Code × Pos)}, guardsOf l = [] → ∀ x ∈ l, x.1.isGuard = false
  | [], _, _, h => nomatch h
  | (c, p) :: l, e, x, h => by
    rw [guardsOf_cons] at e
    obtain ⟨e1, e2⟩ := List.append_eq_nil_iff.mp e
    rcases List.mem_cons.mp h with rfl | h
    · cases hc : c.isGuard with
      | false => rfl
      | true => simp [Code.guards, hc] at e1
    · exact guards_none e2 x h

section
variable {M : Model} {A : Around} {E : Value → Shared → Prop} {s : Shared}
theorem exportedT {self : Value} {Q : Bool → Shared → Prop} (hg : A.guards = some []) (h : Q false s) : wpT M A (Bytes.exported self) Q E s := ⟨fun Γ p hi hc hb => by
  rw [exported_eq]
  show Q (((Γ.code, p) :: Γ.below).any (holdF self)) s
  have e : ((Γ.code, p) :: Γ.below).any (holdF self) = false := by
    have hgs := hi.2.2.2.1 [] hg
    obtain ⟨e1, e2⟩ := List.append_eq_nil_iff.mp hgs
    rw [List.any_eq_false]
    intro x hx
    rcases List.mem_cons.mp hx with rfl | hx
    · rw [holdF_false hc (by
        cases hq : Γ.code.isGuard with
        | false => rfl
        | true => simp [Code.guards, hq] at e1)]
      simp
    · obtain ⟨c, q⟩ := x
      rw [holdF_false (hb _ hx) (guards_none e2 _ hx)]
      simp
  rw [e]; exact h⟩
end
end Mine
end
section
theorem Mine.fresh_B6 : True := by
  w_top off
  trivial
open PySem PySem.W PyProof.Rows PySem.Spec PySem.Calls
set_option Elab.async false
set_option maxRecDepth 100000
set_option maxHeartbeats 4000000
namespace Mine
open PySem.Builtin
open Sem (wp)

theorem ba_bind (v : Value) : Bytes.bindOptional "bytearray.__init__" "bytearray" ["source", "encoding", "errors"] [v] [] = pure [some v, none, none] := by kernel_rfl

section
variable {prog : Program} {w : World} {A : Around} {E : Value → Shared → Prop} {s : Shared}

theorem ift_prop_neg {α : Type} {M : Model} {c : Prop} [Decidable c] {a b : Sem α} {Q : α → Shared → Prop} (hc : ¬ c) (h : wpT M A b Q E s) : wpT M A (if c then a else b) Q E s := by
  rw [if_neg hc]; exact h
theorem ift_prop_pos {α : Type} {M : Model} {c : Prop} [Decidable c] {a b : Sem α} {Q : α → Shared → Prop} (hc : c) (h : wpT M A a Q E s) : wpT M A (if c then a else b) Q E s := by
  rw [if_pos hc]; exact h
theorem ba_init {a : Addr} {n : Int} {t : Tok} {Q : Fin → Shared → Prop} (hg : A.guards = some []) (e : s.heap.get? a = some (ba #[])) (h0 : 0 ≤ n) (hn : n ≤ 16777216)
    (h : ∀ h', h'.get? a = some (ba (Array.replicate n.toNat 0)) → Heap.SameBut a s.heap h' → Q (.done (.ret .none)) { s with heap := h' }) :
    wpT (model prog w) A (Builtin.«bytearray.__init__» ⟨[.ref a, .int n t], []⟩) Q E s := by
  unfold Builtin.«bytearray.__init__»
  refine wpT_leaf (ba_ownRelease e ?_)
  refine ift_false rfl ?_
  refine wpT_leaf (wpAny_of_eq (ba_bind _) ?_)
  refine wpT_leaf (wpAny_of_eq (a := ()) rfl ?_)
  refine wpT_leaf (wpAny_of_eq (a := ()) rfl ?_)
  refine wpT_bind ?_
  unfold orM
  refine wpT_bind (exportedT hg ?_)
  show wpT _ _ (Bytes.exportsOf (Value.ref a) >>= fun n => pure (decide (n > 0))) _ _ _
  refine wpT_leaf ?_
  unfold Bytes.exportsOf
  refine wpAny_bind (wpAny_load e (wpAny_pure ?_))
  refine wpT_pure ?_
  refine ift_false rfl ?_
  refine wpT_leaf (ba_write e (Nat.zero_le _) fun e₁ => ?_)
  refine wpT_leaf (wpAny_of_eq (a := none) rfl ?_)
  refine ift_false rfl ?_
  refine wpT_leaf (wpAny_of_eq (a := ()) rfl ?_)
  refine wpT_leaf (wpAny_specialOf (T := "int") (typeIs_int _ n t) int_index ?_)
  refine ift_true rfl ?_
  refine wpT_leaf (wpAny_attempt (wpAny_of_eq (rfl : asIndex (.int n t) = pure n) ?_))
  dsimp only
  refine ift_false (by simp [Bytes.fitsIndex]; omega) ?_
  refine ift_prop_neg (by omega) ?_
  refine ift_false (by simp; omega) ?_
  refine ift_false (by simp [Bytes.tooLong, sizeLine_eq]; omega) ?_
  refine wpT_leaf (wpAny_rule ?_)
  have hb₁ : Heap.SameBut a s.heap (s.heap.update a (Obj.mapBytearray fun _ => #[])) := Heap.SameBut.update ..
  by_cases hp : n > 0
  · refine ift_prop_pos hp ?_
    refine wpT_leaf (ba_write e₁ (by simp [sizeLine_eq]; omega) fun e₂ => ?_)
    exact wpT_leaf (wpAny_pure (wpT_pure (h _ e₂ (hb₁.trans (Heap.SameBut.update ..)))))
  · refine ift_prop_neg hp ?_
    have hn0 : n = 0 := by omega
    subst hn0
    exact wpT_leaf (wpAny_pure (wpT_pure (h _ e₁ hb₁)))
end
end Mine
end
section
theorem Mine.fresh_B7 : True := by
  w_top off
  trivial
open PySem PySem.W PyProof.Rows PySem.Spec PySem.Calls
set_option Elab.async false
set_option maxRecDepth 100000
set_option maxHeartbeats 4000000
namespace Mine
open PySem.Builtin
open Sem (wp)

section
variable {prog : Program} {w : World} {A : Around} {E : Value → Shared → Prop} {s : Shared} {h₀ : Heap} {L : Addr} {m : Str → Option Value} {news : List (Addr × Obj)}

theorem ba_callT {n : Int} {t : Tok} {Q : Value → Shared → Prop} (hg : A.guards = some []) (F : Fr h₀ L s.heap m) (N : News h₀ L s.heap news) (h0 : 0 ≤ n) (hn : n ≤ 16777216)
    (h : ∀ D h', Fr h₀ L h' m → News h₀ L h' ((D, ba (Array.replicate n.toNat 0)) :: news) → (∀ p ∈ news, p.1 < D) → Q (.ref D) { s with heap := h' }) :
    wpT (model prog w) A (call (.type "bytearray") [.int n t]) Q E s := by
  refine callT_type (Q₁ := fun obj s₁ => obj = .ref s.heap.objs.size ∧ s₁ = { s with heap := s.heap.push (ba #[]) }) ba_called (ba_typeCall _) ba_entry_init (fun _ => by show (!Bytes.decodersThatHold.contains "bytearray.__init__") = true; decide +kernel)
    (ba_code_new _ ⟨rfl, rfl⟩) ?_
  rintro obj s₁ ⟨rfl, rfl⟩
  have hD : (s.heap.push (ba #[])).get? s.heap.objs.size = some (ba #[]) := Heap.get?_push_size _ rfl
  refine ⟨⟨_, hD, rfl⟩, ba_args_init _ _, ba_init hg hD h0 hn fun h' e' hs => ⟨_, rfl, rfl, ?_⟩⟩
  have N1 := News.push F N (ba #[])
  exact h _ h' ((F.push _).change hs (N1 _ (.head _)).2.1 (N1.fresh (.head _))) (N1.setHead N.apart hs e') fun p hp => Heap.lt_size (N p hp).1

theorem subscript_int {k : Int} {t : Tok} {Q : Option Int → Shared → Prop} (hl : -(2 ^ 63) ≤ k) (hf : k < 2 ^ 63) (h : Q (some k) s) : wpAny (model prog w) A (Bytes.subscript? (.int k t)) Q E s := by
  unfold Bytes.subscript?
  refine wpAny_bind (wpAny_specialOf (T := "int") (typeIs_int s k t) int_index ?_)
  refine bm_if_false rfl ?_
  refine wpAny_bind (wpAny_of_eq (a := k) rfl ?_)
  refine bm_if_false (by simp only [Bytes.fitsIndex, Bool.not_eq_false', Bool.and_eq_true, decide_eq_true_eq]; omega) ?_
  exact wpAny_pure h

theorem ba_setItem {a : Addr} {b : Array UInt8} {k x : Int} {t u : Tok} {Q : Unit → Shared → Prop} (e : s.heap.get? a = some (ba b)) (hz : b.size ≤ 16777216) (h0 : 0 ≤ k) (hk : k < (b.size : Int)) (hx0 : 0 ≤ x) (hx : x < 256)
    (h : ∀ h', h'.get? a = some (ba (b.setIfInBounds k.toNat x.toNat.toUInt8)) → Heap.SameBut a s.heap h' → Q () { s with heap := h' }) :
    wpAny (model prog w) A (setItem (.ref a) (.int k t) (.int x u)) Q E s := by
  have hT : s.TypeIs (.ref a) "bytearray" := ⟨_, e, rfl⟩
  unfold setItem
  refine wpAny_holding ?_
  refine wpAny_bind (wpAny_sequenceKey hT (by decide) ?_)
  refine wpAny_bind (wpAny_callSpecial?_slot (name := Str.ofString "__setitem__") hT ba_slot_setitem
    (wpAny_call_entry ba_slot_setitem hT ba_entry_setitem ?_ (ba_args_setitem _ _ _)))
  unfold Builtin.«bytearray.__setitem__»
  refine bm_if_false rfl ?_
  refine wpAny_bind (subscript_int (by omega) (by omega) ?_)
  refine wpAny_bind ?_
  unfold Bytes.byteValue
  refine wpAny_bind (wpAny_of_eq (a := x) rfl ?_)
  refine bm_if_false (by simp; omega) (wpAny_pure ?_)
  refine wpAny_bind (ba_payload e ?_)
  have hi : seqIndex? k b.size = some k.toNat := by
    unfold seqIndex?
    have : ¬ k < 0 := by omega
    simp only [this, if_false]
    rw [if_pos]
    simp; omega
  rw [hi]
  refine wpAny_bind (ba_write e (by simp [sizeLine_eq]; omega) fun e' => ?_)
  exact wpAny_bind (wpAny_pure (wpAny_pure ⟨_, rfl, wpAny_pure (h _ e' (Heap.SameBut.update ..))⟩))

theorem ba_setItem_out {a : Addr} {b : Array UInt8} {k x : Int} {t u : Tok} {Q : Unit → Shared → Prop} (hA : A.handled = none) (e : s.heap.get? a = some (ba b)) (hk : (b.size : Int) ≤ k) (hf : k < 2 ^ 63) (hx0 : 0 ≤ x) (hx : x < 256)
    (hE : ∀ h' tk e, Heap.NewExc s.heap h' e "IndexError" → E (.ref e) { s with heap := h', toks := tk }) :
    wpAny (model prog w) A (setItem (.ref a) (.int k t) (.int x u)) Q E s := by
  have hT : s.TypeIs (.ref a) "bytearray" := ⟨_, e, rfl⟩
  unfold setItem
  refine wpAny_holding ?_
  refine wpAny_bind (wpAny_sequenceKey hT (by decide) ?_)
  refine wpAny_bind (wpAny_callSpecial?_slot (name := Str.ofString "__setitem__") hT ba_slot_setitem
    (wpAny_call_entry ba_slot_setitem hT ba_entry_setitem ?_ (ba_args_setitem _ _ _)))
  unfold Builtin.«bytearray.__setitem__»
  refine bm_if_false rfl ?_
  refine wpAny_bind (subscript_int (by omega) (by omega) ?_)
  refine wpAny_bind ?_
  unfold Bytes.byteValue
  refine wpAny_bind (wpAny_of_eq (a := x) rfl ?_)
  refine bm_if_false (by simp; omega) (wpAny_pure ?_)
  refine wpAny_bind (ba_payload e ?_)
  have hi : seqIndex? k b.size = none := by
    unfold seqIndex?
    have : ¬ k < 0 := by omega
    simp only [this, if_false]
    rw [if_neg]
    simp; omega
  rw [hi]
  clear hf
  first
      | exact wpAny_bind (wpAny_rule (by exact_raiseError plainExc_IndexError hA hE))
      | exact wpAny_rule (by exact_raiseError plainExc_IndexError hA hE)
      | exact wpAny_bind (wpAny_bind (wpAny_rule (by exact_raiseError plainExc_IndexError hA hE)))

theorem ba_slotOwn {a : Addr} {b : Array UInt8} {Q : Bool → Shared → Prop} (e : s.heap.get? a = some (ba b)) (h : Q true s) : wpAny (model prog w) A (Bytes.slotIsOwn (.ref a) "__buffer__") Q E s := by
  have hT : s.TypeIs (.ref a) "bytearray" := ⟨_, e, rfl⟩
  unfold Bytes.slotIsOwn
  refine wpAny_bind (wpAny_specialOf hT ba_buffer ?_)
  dsimp only
  rw [if_neg (by decide +kernel)]
  refine wpAny_isInstance (b := true) hT ?_ h
  have e : ("bytearray.__buffer__".dropRight ("__buffer__".length + 1)) = "bytearray" := by decide +kernel
  rw [e]; exact ba_sub

theorem ba_buffer? {a : Addr} {b : Array UInt8} {i : String} {Q : Option (Array UInt8) → Shared → Prop} (e : s.heap.get? a = some (ba b)) (h : Q (some b) s) : wpAny (model prog w) A (Bytes.buffer? i (.ref a) true) Q E s := by
  have hT : s.TypeIs (.ref a) "bytearray" := ⟨_, e, rfl⟩
  unfold Bytes.buffer?
  refine wpAny_bind (wpAny_specialOf hT ba_buffer ?_)
  refine wpAny_bind (ba_slotOwn e ?_)
  refine bm_if_false rfl ?_
  refine wpAny_bind (wpAny_specialOf hT ba_buffer ?_)
  refine wpAny_bind (ba_ownRelease e ?_)
  refine bm_if_false rfl ?_
  exact wpAny_bind (ba_payload e (wpAny_pure h))

theorem ba_no_bytes : typeLookup (.type "bytearray") "__bytes__" = pure none := by rw [typeLookup_type, builtinLookup_eq_fast]; kernel_rfl
theorem ba_no_index : typeLookup (.type "bytearray") "__index__" = pure none := by rw [typeLookup_type, builtinLookup_eq_fast]; kernel_rfl

theorem ba_bytes_new {a : Addr} {b : Array UInt8} {Q : Value → Shared → Prop} (e : s.heap.get? a = some (ba b)) (hz : b.size ≤ 16777216)
    (h : ∀ t k, Q (.bytes b t) { s with toks := k }) : codeAny (model prog w) A (.call (.builtin "bytes.__new__") ⟨[.type "bytes", .ref a], []⟩) (wants Q E) s := by
  refine codeAny_of_tree ?_
  show wpAny _ A.in1 (do checkBuiltinCall "bytes.__new__" ⟨[.type "bytes", .ref a], []⟩; again (.builtin "bytes.__new__" ⟨[.type "bytes", .ref a], []⟩)) _ _ s
  refine wpAny_bind (wpAny_of_eq (F.bm_newCall _) (wpAny_pure ⟨plainId_quiet F.bm_plain _, codeAny_builtin F.bm_entry ?_⟩))
  rw [Around.under_plainId F.bm_plain _]
  have hT : s.TypeIs (.ref a) "bytearray" := ⟨_, e, rfl⟩
  unfold Builtin.«bytes.__new__»
  refine wpAny_bind (wpAny_of_eq (a := true) rfl ?_)
  refine bm_if_false rfl ?_
  refine wpAny_bind (wpAny_of_eq F.bm_sub ?_)
  refine bm_if_false rfl ?_
  refine wpAny_bind (wpAny_of_eq (F.bm_bind _) ?_)
  refine wpAny_bind (wpAny_of_eq (a := ()) rfl ?_)
  refine wpAny_bind (wpAny_of_eq (a := ()) rfl ?_)
  refine bm_if_false rfl ?_
  refine wpAny_bind (wpAny_specialOf hT ba_no_bytes ?_)
  refine wpAny_bind (wpAny_bind ?_)
  show wpAny _ _ (load a >>= _) _ _ _
  refine wpAny_bind (wpAny_load e ?_)
  refine wpAny_pure (wpAny_pure ?_)
  refine bm_if_false rfl ?_
  refine wpAny_bind (wpAny_specialOf hT ba_no_index ?_)
  refine bm_if_true rfl ?_
  refine wpAny_bind (ba_buffer? e ?_)
  refine wpAny_bind (wpAny_rule ?_)
  refine wpAny_bind (wpAny_mkBytes ?_ (by simp [sizeLine_eq]; omega))
  show wpAny _ _ (if (Value.type "bytes" == Value.type "bytes") = true then _ else _) _ _ _
  refine bm_if_true (by decide) ?_
  first
    | exact wpAny_pure (h _ _)
    | exact wpAny_bind (wpAny_pure (wpAny_pure (h _ _)))

theorem ba_bytes {a : Addr} {b : Array UInt8} {Q : Value → Shared → Prop} (e : s.heap.get? a = some (ba b)) (hz : b.size ≤ 16777216)
    (h : ∀ t k, Q (.bytes b t) { s with toks := k }) : wpAny (model prog w) A (call (.type "bytes") [.ref a]) Q E s := by
  refine callType_codes (Q₁ := fun obj s₁ => s₁.TypeIs obj "bytes" ∧ Q obj s₁) F.bm_called (F.bm_typeCall _) F.entry_object_init
    (ba_bytes_new e hz fun t k => ⟨typeIs_bytes _ _ _, h t k⟩) fun obj s₁ h₁ => ?_
  exact ⟨h₁.1, F.args_object_init_2 obj _, object_init_meets F.bm_called.init.lookup F.bm_called.made (by decide) prog w A.in1 _ s₁ ⟨h₁.1, rfl, h₁.2⟩⟩
end
end Mine
end
section
theorem Mine.fresh_B8 : True := by
  w_top off
  trivial
open PySem PySem.W PyProof.Rows PySem.Spec PySem.Calls
set_option Elab.async false
set_option maxRecDepth 100000
set_option maxHeartbeats 4000000
namespace Mine
open Sem (wp)

theorem sched_skip {den : Code → Sem Fin} {prog : Program} {w : World} {s s' : Shared} {k : List (Code × Pos) → Sem Fin} {c : Code} {p : Pos} {n : Nat} {o : Outcome} (hs : s.asleep)
    (h : schedN den prog w n (.single s ⟨stack >>= k, c, p, []⟩) = .halted o s') : ∃ n', schedN den prog w n' (.single s ⟨k [(c, p)], c, p, []⟩) = .halted o s' := by
  cases n with
  | zero => cases h
  | succ n =>
    have hst : step den prog w s ⟨stack >>= k, c, p, []⟩ = .go s ⟨k [(c, p)], c, p, []⟩ := by
      obtain ⟨a, b, d, t, os⟩ := s; rfl
    rcases sstep_single den prog w s ⟨stack >>= k, c, p, []⟩ rfl hs with e | e
    · rw [hst] at e
      refine ⟨n, ?_⟩
      simp only [schedN, e] at h
      exact h
    · rw [hst] at e; cases e

/-- the stack is the claim's caller alone -/
def alone : List (Code × Pos) → Bool
  | [(.builtin "claim.caller" _, _)] => true
  | _ => false

theorem callFrom_conv {c : ClaimW} {w : World} {free : Addr → Prop} {gens : Prop} {kept : Heap → Prop} {s : Shared} {tree : List Value → Sem Fin} {other : Sem Fin} (hs : s.asleep)
    (h : c.CallFrom (fun vs => ⟨stack >>= fun st => if alone st then tree vs else other, .builtin "claim.caller" {}, default, []⟩) w free gens kept s) :
    c.CallFrom (fun vs => ⟨tree vs, .builtin "claim.caller" {}, default, []⟩) w free gens kept s := by
  intro args hpre hlay ord hord
  obtain ⟨vs, s₁, hlaid, n, o, s', hr, rest⟩ := h args hpre hlay ord hord
  have hal := layAllW_rest _ _ _ hlaid
  obtain ⟨n', hr'⟩ := sched_skip (Shared.asleep_of_life hal.2.2.2 hs) hr
  exact ⟨vs, s₁, hlaid, n', o, s', hr', rest⟩

theorem holdsOpenBy_conv {c : ClaimW} {defs keeps : List Str} {writes : Bool} {tree : List Value → Sem Fin} {other : Sem Fin}
    (hs : ∀ w s, AfterRun (opening c.prog) w s → ∃ s₀, fenceModules? c.prog s = some s₀ ∧ s₀.asleep)
    (h : c.HoldsOpenBy (fun vs => ⟨stack >>= fun st => if alone st then tree vs else other, .builtin "claim.caller" {}, default, []⟩) defs keeps writes) :
    c.HoldsOpenBy (fun vs => ⟨tree vs, .builtin "claim.caller" {}, default, []⟩) defs keeps writes := by
  refine ⟨h.1, h.2.1, fun w => ⟨(h.2.2 w).1, fun s hr => ?_⟩⟩
  obtain ⟨s₀, a, b, s₁, d, e, f, g, k⟩ := (h.2.2 w).2 s hr
  obtain ⟨s₀', a', hz⟩ := hs w s hr
  rw [a] at a'
  cases a'
  exact ⟨s₀, a, b, s₁, d, e, f, g, callFrom_conv (Shared.asleep_of_life d.2.1 hz) k⟩
end Mine
end
section
theorem Mine.fresh_B9 : True := by
  w_top off
  trivial
open PySem PySem.W PyProof.Rows PySem.Spec PySem.Calls
set_option Elab.async false
set_option maxRecDepth 100000
set_option maxHeartbeats 4000000
namespace Mine
open Sem (wp)

theorem wp_stack_bind {α : Type} {M : Model} {Γ : PySem.Ctx} {k : List (Code × Pos) → Sem α} {Q : α → Pos → Shared → Prop} {E : Value → Pos → Shared → Prop} {p : Pos} {s : Shared} :
    wp M Γ (stack >>= k) Q E p s = wp M Γ (k ((Γ.code, p) :: Γ.below)) Q E p s := by
  rw [Sem.wp_bind']; unfold stack; rw [Sem.wp_stack, Sem.wp_pure]

theorem alone_ctx {Γ : PySem.Ctx} {p : Pos} (h : alone ((Γ.code, p) :: Γ.below) = true) : tame Γ.code = true ∧ Tame Γ.below := by
  unfold alone at h
  split at h
  · rename_i a q e
    obtain ⟨e1, e2⟩ := List.cons.inj e
    obtain ⟨e3, _⟩ := Prod.mk.inj e1
    rw [e3, e2]
    exact ⟨by show (!Builtin.Bytes.decodersThatHold.contains "claim.caller") = true; decide +kernel, fun _ h => nomatch h⟩
  · cases h

/-- a call that is run where the stack is the caller's alone -/
def runA (f : Value) (vs : List Value) : Sem Value := stack >>= fun st => if alone st then call f vs else pure (.bool true)
def treeA (name : Str) (vs : List Value) : Sem Fin := do
  match ← nsGet mainNs name with
  | some f => do ret (← call f vs)
  | none => unsupported "claim.caller:no-such-global"

theorem runA_of {M : Model} {f : Value} {vs : List Value} {Q : Value → Shared → Prop} {E : Value → Shared → Prop} {s : Shared} (h : wpT M callerA (call f vs) Q E s) (ht : Q (.bool true) s) :
    wpAny M callerA (runA f vs) Q E s := fun Γ p hi => by
  unfold runA
  rw [wp_stack_bind]
  cases ha : alone ((Γ.code, p) :: Γ.below) with
  | false => exact ht
  | true =>
    obtain ⟨t1, t2⟩ := alone_ctx ha
    exact h.out Γ p hi t1 t2

theorem treeA_of {M : Model} {name : Str} {vs : List Value} {f : Value} {mg : Str → Option Value} {Q : Fin → Shared → Prop} {E : Value → Shared → Prop} {s : Shared} (hg : s.heap.Ns mainGlobals mg) (hf : mg name = some f)
    (h : wpAny M callerA (runA f vs) (fun v s' => Q (.done (.ret v)) s') E s) :
    wpAny M callerA (stack >>= fun st => if alone st then treeA name vs else ret (.bool true)) Q E s := fun Γ p hi => by
  have h' := h Γ p hi
  unfold runA at h'
  rw [wp_stack_bind] at h' ⊢
  cases ha : alone ((Γ.code, p) :: Γ.below) with
  | false => rw [ha] at h'; exact h'
  | true =>
    rw [ha] at h'
    simp only [if_true] at h' ⊢
    show wp M Γ (nsGet mainGlobals name >>= _) _ _ p s
    rw [Sem.wp_bind', Sem.wp_nsGet M Γ _ p s hg name, hf]
    show wp M Γ (call f vs >>= fun v => ret v) _ _ p s
    rw [Sem.wp_bind']
    exact Sem.wp_mono M Γ _ (fun v p' s' hv => hv) (fun _ _ _ x => x) p s h'

abbrev WalkT (q : Program) (loose : List Str) (XP : (Str → Option Value) → Heap → Prop) (YP : World → Heap → Prop) (r : RowW) (d : DefRec) (kwd : List (Str × Expr)) : Prop :=
  ∀ (w : World) (s₀ s₁ : Shared) (mg mb : Str → Option Value), Ground q loose r.records XP w s₀ mg mb s₁.heap → YP w s₁.heap → ∀ (a : Addr) (o : Obj) (pm cd doc dV kV : Value), s₁.heap.get? a = some o →
    o.data = .func { docDef d.name d.params d.body d.scope pm cd doc with defaults := dV, kwdefaults := kV } → s₁.heap.CodeRec cd d.name → Dflts mg s₁.heap d.params kwd dV kV → mg d.name = some (.ref a) → s₁.gens = #[] →
    ∀ (args : List WData) (vals : List Value) (as : List Addr), r.claim.pre args = true → WData.layableAll args = true → ReadsAllW r.records (classAt s₀.heap) s₁.heap vals args as → WellAll w.params s₁.heap vals args → (∀ a ∈ as, (a == sysModules) = false) →
      wpT (model r.prog w) callerA (call (.ref a) vals) (fun v s' => GoodWG r.claim (classAt s₀.heap) (ExcName.means s₀.heap) args s₁ (.ok (.ret v)) s')
        (fun e s' => GoodWG r.claim (classAt s₀.heap) (ExcName.means s₀.heap) args s₁ (.error e) s') s₁ ∧
      GoodWG r.claim (classAt s₀.heap) (ExcName.means s₀.heap) args s₁ (.ok (.ret (.bool true))) s₁

theorem holds_tame {r : OpenRow} {q : Program} {loose : List Str} {Xt : Shared → Bool} {XP : (Str → Option Value) → Heap → Prop} {α : Type} {Yf : Shared → α} {Ya : World → α} {YP : World → Heap → Prop} {d : DefRec} {kwd : List (Str × Expr)} {N : Nat}
    (left : LeftO r.prog q loose Xt Yf Ya N) (hY : ∀ w s, Yf s = Ya w → YP w s.heap) (hYk : ∀ w h h', YP w h → (∀ b o, h.get? b = some o → h'.get? b = some o) → YP w h')
    (hX : ∀ s, Xt s = true → XP (s.heap.nsMap mainGlobals) s.heap) (hXk : ∀ mg h h', XP mg h → (∀ b o, h.get? b = some o → h'.get? b = some o) → XP mg h')
    (hdef : defOf q r.name = some (d, kwd)) (hp : r.prog.theDef r.name = some (d.params, d.body, d.scope)) (hk : kwWritten? d.params.kwonlyargs d.params.kw_defaults = some kwd) (hRf : ∀ s, Xt s = true → RecFacts r.records s.heap) (hwr : (!r.writes || r.records.isEmpty) = true)
    (k1 : r.wellSaid = true) (ok : (chainsOk q && opensWell r.prog && (frees r.toRowW && r.within.isEmpty)) = true) (hb : r.prog.bare) (hw : r.toRowW.promised)
    (call : WalkT q loose XP YP r.toRowW d kwd) : r.Holds := by
  refine ⟨k1, hw, ?_⟩
  refine holdsOpenBy_conv (tree := treeA r.name) (other := ret (.bool true)) (fun w s hr => ?_) ?_
  · have ok' := ok
    obtain ⟨ok', _⟩ := Bool.and_eq_true_iff.mp ok'
    obtain ⟨hch, _⟩ := Bool.and_eq_true_iff.mp ok'
    obtain ⟨s₀, hf, _, s₁, hT, hz, _⟩ := (left.behind hX hch w).2 s hr
    exact ⟨s₀, hf, Shared.asleep_of_life hT.2.1.symm hz⟩
  · refine open_anyG (r := r.toRowW) (run := runA) left hY hYk hX hXk hRf hwr ok hb hw (fun vs w s mg f Q E hg hf h => treeA_of hg hf h) (fun w s hg G n hn => ?_) fun w s₀ s₁ mg mb G Y args vs as hpre hlay L low => ?_
    · obtain rfl : n = r.name := by split at hn <;> simp_all
      exact pinned_of_view hg G hdef hp hk
    · obtain ⟨a, o, pm, cd, doc, dV, kV, h1, h2, h3, h4, h5⟩ := G.fn hdef
      obtain ⟨w1, w2⟩ := call w s₀ s₁ mg mb G Y a o pm cd doc dV kV h2 h3 h4 h5 (defOf_name hdef ▸ h1) L.gens args vs as hpre hlay L.reads L.well (L.low low)
      exact ⟨.ref a, h1, runA_of w1 w2⟩
end Mine
end
section
theorem Mine.fresh_T0 : True := by
  w_top off
  trivial
open PySem PySem.W PyProof.Rows PySem.Spec PySem.Calls
set_option Elab.async false
set_option maxRecDepth 100000
set_option maxHeartbeats 4000000
namespace Mine
/-- a run hands out tokens, it takes none back -/
theorem runs_toks {M : Model} {Γ : PySem.Ctx} {p : Pos} {t : Sem Fin} {fs : List Frame} {s s' : Shared} {e : End} (h : Runs M Γ p t fs s e s') : s.toks ≤ s'.toks := by
  induction h with
  | done | raise | yield => exact Nat.le_refl _
  | fresh _ ih => exact Nat.le_trans (Nat.le_succ _) ih
  | call _ _ i1 i2 | resumeFresh _ _ _ _ i1 i2 | resumeSuspended _ _ _ _ i1 i2 | segRet _ _ i1 i2 | segGen _ _ i1 i2 | segSuspGen _ _ _ _ i1 i2 => exact Nat.le_trans i1 i2
  | _ => assumption

theorem wakes_toks {M : Model} {Γ : PySem.Ctx} {p : Pos} {g : Nat} {r : Resume} {s s' : Shared} {res : GenResult} (h : Wakes M Γ p g r s res s') : s.toks ≤ s'.toks := by
  unfold Wakes at h
  split at h
  · exact h.elim
  · split at h
    · obtain ⟨e₁, s₁, h₁, _, _, rfl⟩ := h; have e := runs_toks h₁; exact e
    · exact Nat.le_of_eq (by rw [h.2])
    · exact Nat.le_of_eq (by rw [h.2]; rfl)
  · obtain ⟨e₁, s₁, h₁, _, _, rfl⟩ := h; have e := runs_toks h₁; exact e
  · exact Nat.le_of_eq (by rw [h.2])
  · exact Nat.le_of_eq (by rw [h.2])

theorem wp_toks {α : Type} (M : Model) (Γ : PySem.Ctx) (t : Sem α) : ∀ (n : Nat) (Q : α → Pos → Shared → Prop) (E : Value → Pos → Shared → Prop) (p : Pos) (s : Shared), n ≤ s.toks →
    Sem.wp M Γ t Q E p s → Sem.wp M Γ t (fun a p s' => n ≤ s'.toks ∧ Q a p s') (fun e p s' => n ≤ s'.toks ∧ E e p s') p s := by
  induction t with
  | pure x => intro n Q E p s hn h; exact ⟨hn, h⟩
  | raise v => intro n Q E p s hn h; exact ⟨hn, h⟩
  | unsupported | finish | yield | fork | await | register => intro n Q E p s hn h; exact h
  | rule _ k ih | «at» _ k ih | alloc _ k ih | loadIfAlive _ k ih | point _ k ih | ask k ih | os _ _ k ih | handled _ k ih | newGen _ k ih | stack k ih | thread k ih => intro n Q E p s hn h; exact ih _ n Q E _ _ hn h
  | fresh k ih => intro n Q E p s hn h; exact ih _ n Q E _ _ (Nat.le_trans hn (Nat.le_succ _)) h
  | load a _ k ih | genState a k ih => intro n Q E p s hn h; obtain ⟨o, ho, h⟩ := h; exact ⟨o, ho, ih _ n Q E _ _ hn h⟩
  | update a _ f k ih | choose _ _ k ih => intro n Q E p s hn h; exact ⟨h.1, ih _ n Q E _ _ hn h.2⟩
  | call c hd g l k ih => intro n Q E p s hn h; obtain ⟨r, s', hr, h⟩ := h; exact ⟨r, s', hr, ih _ n Q E _ _ (Nat.le_trans hn (runs_toks hr)) h⟩
  | resume g r l k ih => intro n Q E p s hn h; obtain ⟨res, s', hw, h⟩ := h; exact ⟨res, s', hw, ih _ n Q E _ _ (Nat.le_trans hn (wakes_toks hw)) h⟩

section
variable {M : Model} {A : Around} {E : Value → Shared → Prop} {s : Shared} {α : Type}
theorem wpAny_toks {t : Sem α} {Q : α → Shared → Prop} (n : Nat) (hn : n ≤ s.toks) (h : wpAny M A t (fun a s' => n ≤ s'.toks → Q a s') E s) : wpAny M A t Q E s :=
  fun Γ p hΓ => Sem.wp_mono M Γ t (fun _ _ _ x => x.2 x.1) (fun _ _ _ x => x.2) p s (wp_toks M Γ t n _ _ p s hn (h Γ p hΓ))
end

/-- every way through the tree hands out a token -/
def Spends {α : Type} : Sem α → Prop
  | .pure _ => False
  | .raise _ => False
  | .unsupported _ => True
  | .finish _ => True
  | .rule _ k => ∀ x, Spends (k x)
  | .at _ k => ∀ x, Spends (k x)
  | .load _ _ k => ∀ x, Spends (k x)
  | .update _ _ _ k => ∀ x, Spends (k x)
  | .alloc _ k => ∀ x, Spends (k x)
  | .loadIfAlive _ k => ∀ x, Spends (k x)
  | .point _ k => ∀ x, Spends (k x)
  | .register _ _ => True
  | .fresh _ => True
  | .ask k => ∀ x, Spends (k x)
  | .choose _ _ k => ∀ x, Spends (k x)
  | .os _ _ k => ∀ x, Spends (k x)
  | .call _ _ _ _ k => ∀ x, Spends (k x)
  | .handled _ k => ∀ x, Spends (k x)
  | .newGen _ k => ∀ x, Spends (k x)
  | .genState _ k => ∀ x, Spends (k x)
  | .resume _ _ _ k => ∀ x, Spends (k x)
  | .yield .. => True
  | .stack k => ∀ x, Spends (k x)
  | .fork .. => True
  | .thread k => ∀ x, Spends (k x)
  | .await .. => True

theorem Spends.left {α β : Type} (f : α → Sem β) (t : Sem α) : Spends t → Spends (t >>= f) := by
  show Spends t → Spends (t.bind f)
  induction t with
  | pure x => exact fun h => h.elim
  | raise v => exact fun h => h.elim
  | unsupported | finish | yield | fork | await | register | fresh => exact fun _ => trivial
  | rule _ k ih | «at» _ k ih | alloc _ k ih | loadIfAlive _ k ih | point _ k ih | ask k ih | os _ _ k ih | handled _ k ih | newGen _ k ih | stack k ih | thread k ih | load a _ k ih | genState a k ih | update a _ f k ih | choose _ _ k ih | call c hd g l k ih | resume g r l k ih => exact fun h x => ih x (h x)

/-- and behind a tree that raises nothing -/
def Calm {α : Type} : Sem α → Prop
  | .raise _ => False
  | .pure _ => True
  | .alloc _ k => ∀ x, Calm (k x)
  | _ => False
theorem Spends.right {α β : Type} (f : α → Sem β) (hf : ∀ a, Spends (f a)) (t : Sem α) : Calm t → Spends (t >>= f) := by
  show Calm t → Spends (t.bind f)
  induction t with
  | pure x => exact fun _ => hf x
  | alloc _ k ih => exact fun h x => ih x (h x)
  | _ => exact fun h => h.elim
theorem Calm.bind {α β : Type} (f : α → Sem β) (hf : ∀ a, Calm (f a)) (t : Sem α) : Calm t → Calm (t >>= f) := by
  show Calm t → Calm (t.bind f)
  induction t with
  | pure x => exact fun _ => hf x
  | alloc _ k ih => exact fun h x => ih x (h x)
  | _ => exact fun h => h.elim

theorem wp_spends {α : Type} (M : Model) (Γ : PySem.Ctx) (t : Sem α) : ∀ (Q : α → Pos → Shared → Prop) (E : Value → Pos → Shared → Prop) (p : Pos) (s : Shared), Spends t →
    Sem.wp M Γ t Q E p s → Sem.wp M Γ t (fun a p s' => 1 ≤ s'.toks ∧ Q a p s') E p s := by
  induction t with
  | pure x => intro Q E p s hn h; exact hn.elim
  | raise v => intro Q E p s hn h; exact hn.elim
  | unsupported | finish | yield | fork | await | register => intro Q E p s hn h; exact h
  | rule _ k ih | «at» _ k ih | alloc _ k ih | loadIfAlive _ k ih | point _ k ih | ask k ih | os _ _ k ih | handled _ k ih | newGen _ k ih | stack k ih | thread k ih => intro Q E p s hn h; exact ih _ Q E _ _ (hn _) h
  | fresh k ih => intro Q E p s hn h; exact Sem.wp_mono M Γ _ (fun _ _ _ x => x) (fun _ _ _ x => x.2) _ _ (wp_toks M Γ (k s.toks) 1 Q E p _ (Nat.le_add_left _ _) h)
  | load a _ k ih | genState a k ih => intro Q E p s hn h; obtain ⟨o, ho, h⟩ := h; exact ⟨o, ho, ih _ Q E _ _ (hn _) h⟩
  | update a _ f k ih | choose _ _ k ih => intro Q E p s hn h; exact ⟨h.1, ih _ Q E _ _ (hn _) h.2⟩
  | call c hd g l k ih => intro Q E p s hn h; obtain ⟨r, s', hr, h⟩ := h; exact ⟨r, s', hr, ih _ Q E _ _ (hn _) h⟩
  | resume g r l k ih => intro Q E p s hn h; obtain ⟨res, s', hw, h⟩ := h; exact ⟨res, s', hw, ih _ Q E _ _ (hn _) h⟩

theorem wpAny_spends {α : Type} {M : Model} {A : Around} {E : Value → Shared → Prop} {s : Shared} {t : Sem α} {Q : α → Shared → Prop} (hn : Spends t) (h : wpAny M A t (fun a s' => 1 ≤ s'.toks → Q a s') E s) : wpAny M A t Q E s :=
  fun Γ p hΓ => Sem.wp_mono M Γ t (fun _ _ _ x => x.2 x.1) (fun _ _ _ x => x) p s (wp_spends M Γ t _ _ p s hn (h Γ p hΓ))

theorem calm_cells (f : Str × NameKind → List (Str × Addr) → Sem (ForInStep (List (Str × Addr)))) (hf : ∀ x a, Calm (f x a)) : ∀ (l : List (Str × NameKind)) (a : List (Str × Addr)), Calm (forIn l a f)
  | [], a => by rw [List.forIn_nil]; exact trivial
  | x :: r, a => by
    rw [List.forIn_cons]
    exact Calm.bind _ (fun b => by cases b with | done _ => exact trivial | yield b => exact calm_cells f hf r b) _ (hf x a)

/-- a call of a function with one parameter hands out a token for its name -/
theorem spends_env {scope : Scope} {globals : Addr} {x : Str} {v : Value} {qual : Str} {func : Option Addr} {code : Value} {builtins : Addr} (hk : scope.kind = .function) (hx : scope.names.lookup x = some .local) :
    Spends (newFunctionEnv scope globals [] [(x, v)] qual func code none builtins) := by
  simp only [newFunctionEnv, Option.isSome_none, Bool.false_eq_true, if_false]
  refine Spends.right _ (fun a => ?_) _ (fun _ => trivial)
  refine Spends.right _ (fun cells => ?_) _ (calm_cells _ (fun y a => ?_) _ _)
  · refine Spends.left _ _ ?_
    rw [List.forIn_cons]
    refine Spends.left _ _ (Spends.left _ _ ?_)
    rw [storeName_local (by exact hx) (by show (scope.kind == .class || (scope.kind == .module && _)) = false; rw [hk]; rfl)]
    exact fun _ => trivial
  · split
    · exact fun _ => trivial
    · exact trivial
end Mine
end
section
theorem Mine.fresh_B10 : True := by
  w_top off
  trivial
open PySem PySem.W PyProof.Rows PySem.Spec PySem.Calls
set_option Elab.async false
set_option maxRecDepth 100000
set_option maxHeartbeats 4000000
namespace Mine
open Sem (wp)
section
variable {prog : Program} {w : World} {A A₀ : Around} {s : Shared} {R : Result → Shared → Prop} {base h₀ : Heap} {outer : List Env} {L : Addr} {m : Str → Option Value} {env : Env} {news : List (Addr × Obj)}
  {name qual : Str} {params : Arguments} {body : List Stmt} {scope : Scope} {cl : List (Str × Addr)} {dV kV doc pm cdv ct : Value} {an : Option Addr} {fo : Obj} {f : Addr} {args : Args} {binds : List (Str × Value)}

theorem codeT_call_def {a : Addr} {o : Obj} {fd : FuncData}
    (hroom : A.depth < recursionLimit) (ho : s.heap.get? a = some o) (hdata : o.data = .func fd) (hlim : s.heap.NoLimit) (hcd : s.heap.CodeRec fd.code fd.qualname)
    (hbody : fd.body = .stmts body) (hbind : BindsTo s fd args binds)
    (hcell : ∀ x ∈ fd.scope.names, x.2 ≠ .cell) (hloc : ∀ x ∈ binds, fd.scope.names.lookup x.1 = some .local)
    (h : ∀ h₀, h₀.Ns s.heap.objs.size (fun x => binds.reverse.lookup x) → (∀ b o, s.heap.get? b = some o → h₀.get? b = some o) →
      wpT (model prog w) (A.deeper (callEnv fd s.heap.objs.size a)) (execs body (callEnv fd s.heap.objs.size a)) (fun f s' => R (.ok (.ret (match f with | .ret v => v | _ => .none))) s')
        (fun e s' => wpT (model prog w) (A.deeper (callEnv fd s.heap.objs.size a)) (leaving (callEnv fd s.heap.objs.size a) e) (fun _ s'' => R (.error e) s'') (fun e' s'' => R (.error e') s'') s')
        { s with heap := h₀, toks := s.toks + binds.length })
    (hco : fd.scope.isCoroutine = false := by rfl) (hgen : fd.scope.isGenerator = false := by rfl) (hk : fd.scope.kind = .function := by rfl) :
    codeT (model prog w) A (.call (.ref a) args) R s := by
  refine codeT_call_function hroom ho hdata hco hgen hbody hcd (hbind _ _ _ _ ?_)
  refine wpAny_newFunctionEnv hcell hloc (fun h₀ hns₀ hsb₀ => ⟨hlim.fresh _ hsb₀, codeT_func (h h₀ hns₀ fun b o e => ?_)⟩) hk
  exact hsb₀.extBut b o (Nat.ne_of_lt (Heap.lt_size e)) (Heap.get?_push_of_some _ e)

/-- a def without cells, called from a def's body -/
theorem callT_plain (B : Below A₀ base outer h₀) (F : Fr h₀ L s.heap m) (N : News h₀ L s.heap news) (hlim : h₀.NoLimit) (hA : A.frames = some (env :: outer)) (hf : env.frame = some L) (hke : env.scope.kind = .function)
    (ho : s.heap.get? f = some fo) (hd : fo.data = .func (fnX name qual params body scope cl dV kV doc pm an cdv ct)) (hcd : s.heap.CodeRec cdv qual) (hroom : A.depth < recursionLimit)
    (hbind : BindsTo s (fnX name qual params body scope cl dV kV doc pm an cdv ct) args binds) (hloc : ∀ y ∈ binds, scope.names.lookup y.1 = some .local)
    (h : ∀ g L' h₁, Fr h₀ L g m → Fr g L' h₁ (fun y => binds.reverse.lookup y) → News g L' h₁ news → Below A base (env :: outer) g → h₀.StaysIn g →
      wpT (model prog w) (A.deeper (envX qual scope L' f cdv cl)) (execs body (envX qual scope L' f cdv cl))
        (fun fl s' => LeaveK h₀ L m g R (match fl with | .ret v => v | _ => .none) s')
        (fun e s' => wpT (model prog w) (A.deeper (envX qual scope L' f cdv cl)) (leaving (envX qual scope L' f cdv cl) e) (fun _ s'' => R (.error e) s'') (fun e' s'' => R (.error e') s'') s')
        { s with heap := h₁, toks := s.toks + binds.length })
    (hcell : ∀ x ∈ scope.names, x.2 ≠ .cell) (hco : scope.isCoroutine = false := by rfl) (hgen : scope.isGenerator = false := by rfl) (hk : scope.kind = .function := by rfl) : codeT (model prog w) A (.call (.ref f) args) R s := by
  obtain ⟨FG, BG, st, lv⟩ := groundX (R := R) B F N hA hf hke
  refine codeT_call_def (fd := fnX name qual params body scope cl dV kV doc pm an cdv ct) (body := body) (binds := binds) hroom ho hd (hlim.keeps F.keep) hcd rfl hbind hcell hloc (fun h₁ hns hk₁ => ?_) hco hgen hk
  exact wpT_mono (h _ s.heap.objs.size h₁ FG ⟨hns, fun b o e => hk₁ b o (of_hideAll _ e), Nat.le_of_eq (hideAll_size _ _)⟩
    (fun p hp => ⟨hk₁ _ _ (N p hp).1, Nat.ne_of_lt (Heap.lt_size (N p hp).1), hideAll_none _ (List.mem_map_of_mem hp)⟩) BG st) (fun fl s' hl => lv _ _ hl) fun _ _ y => y

/-- a def with cells, called from module level -/
theorem callT_top (hlim : s.heap.NoLimit)
    (ho : s.heap.get? f = some fo) (hd : fo.data = .func (fnX name qual params body scope [] dV kV doc pm an cdv ct)) (hcd : s.heap.CodeRec cdv qual) (hroom : A.depth < recursionLimit)
    (hbind : BindsTo s (fnX name qual params body scope [] dV kV doc pm an cdv ct) args binds)
    (hkind : ∀ n, ∀ x ∈ binds, scope.names.lookup x.1 = some .local ∨ (scope.names.lookup x.1 = some .cell ∧ ((cellsFrom n scope.names []).lookup x.1).isSome = true))
    (hb1 : ∃ x v, binds = [(x, v)] ∧ scope.names.lookup x = some .local)
    (hnd : ((cellsFrom 0 scope.names []).map (·.1)).Nodup)
    (h : ∀ L' h₁ tk cells, 1 ≤ tk → Fr s.heap L' h₁ (bindL (envOfC qual scope L' f cdv).kindOf binds fun _ => none) → News s.heap L' h₁ cells →
      CellsAre (bindC (envOfC qual scope L' f cdv).kindOf binds fun _ => none) (cellsFrom (L' + 1) scope.names []) cells →
      wpT (model prog w) (A.deeper (envOfC qual scope L' f cdv)) (execs body (envOfC qual scope L' f cdv))
        (fun fl s' => R (.ok (.ret (match fl with | .ret v => v | _ => .none))) s')
        (fun e s' => wpT (model prog w) (A.deeper (envOfC qual scope L' f cdv)) (leaving (envOfC qual scope L' f cdv) e) (fun _ s'' => R (.error e) s'') (fun e' s'' => R (.error e') s'') s')
        { s with heap := h₁, toks := tk })
    (hco : scope.isCoroutine = false := by rfl) (hgen : scope.isGenerator = false := by rfl) (hk : scope.kind = .function := by rfl) : codeT (model prog w) A (.call (.ref f) args) R s := by
  refine codeT_call_function hroom ho hd hco hgen rfl hcd (hbind _ _ _ _ ?_)
  refine wpAny_spends (by obtain ⟨x, v, rfl, hx⟩ := hb1; exact spends_env hk hx) (wpAny_newFunctionEnv_cells hk (hkind _) fun env' he s' x ht => ?_)
  subst he
  refine ⟨hlim.keeps x.toInCall.keep, codeT_func ?_⟩
  obtain ⟨h₁, tk, rfl, _⟩ := x.done
  obtain ⟨cells, NC, Y⟩ := Cl.news (h₀ := s.heap) (Nat.le_refl _) fun n c hm => ⟨x.cell n c (lookup_of_mem_nodup (cellsFrom_names scope.names 0 (s.heap.objs.size + 1) [] [] rfl ▸ hnd) hm), x.above n c hm⟩
  exact h s.heap.objs.size h₁ tk cells ht ⟨x.toInCall.ns, x.toInCall.keep, Nat.le_refl _⟩ NC Y
end
end Mine
end
section
theorem Mine.fresh_B11 : True := by
  w_top off
  trivial
open PySem PySem.W PyProof.Rows PySem.Spec PySem.Calls
set_option Elab.async false
set_option maxRecDepth 100000
set_option maxHeartbeats 4000000
namespace Mine
open Sem (wp)
section
variable {M : Model} {A : Around} {E : Value → Shared → Prop} {s : Shared} {env : Env}
theorem execsT_cons {st rest} {Q : Flow → Shared → Prop}
    (h : wpT M A (exec st env) (fun f s' => match f with | .next => wpT M A (execs rest env) Q E s' | f => Q f s') E s) :
    wpT M A (execs (st :: rest) env) Q E s := by
  rw [execs_cons]
  refine wpT_bind (wpT_mono h (fun f s' h' => ?_) fun _ _ x => x)
  cases f <;> first | exact h' | exact wpT_pure h'
theorem AssignT {x pos' value pos} {Q : Flow → Shared → Prop}
    (h : wpT M A (eval value env) (fun v s₁ => wpAny M A (storeName env x v) (fun _ => Q .next) E s₁) E s)
    (hs : swapsWith value (some (.Name x pos')) pos.line env = pure false := by rfl) :
    wpT M A (exec (.Assign [.Name x pos'] value pos) env) Q E s := by
  rw [exec_Assign_Name env x pos' value pos hs]
  refine wpT_leaf (wpAny_standAt (wpT_bind (wpT_mono h (fun v s₁ h₁ => ?_) fun _ _ x => x)))
  refine wpT_leaf (wpAny_standAt (wpT_leaf (wpAny_bindName (wpAny_mono h₁ (fun _ _ q => wpT_pure q) fun _ _ x => x))))
theorem ReturnT {e pos} {Q : Flow → Shared → Prop} (h : wpT M A (eval e env) (fun v => Q (.ret v)) E s) :
    wpT M A (exec (.Return (some e) pos) env) Q E s := by
  rw [exec_Return_some]
  exact wpT_leaf (wpAny_standAt (wpT_bind (wpT_mono h (fun v s₁ h₁ => wpT_pure h₁) fun _ _ x => x)))
theorem splicedT_nil {Q : List Value → Shared → Prop} (h : Q [] s) : wpT M A (spliced []) Q E s := wpT_pure h
theorem splicedT_cons {x : Sem Value} {rest : List (Bool × Sem Value)} {Q : List Value → Shared → Prop}
    (h : wpT M A x (fun v s₁ => wpT M A (spliced rest) (fun vs s₂ => Q (v :: vs) s₂) E s₁) E s) : wpT M A (spliced ((false, x) :: rest)) Q E s := by
  rw [spliced]
  refine wpT_bind (wpT_mono h (fun v s₁ h₁ => ?_) fun _ _ x => x)
  exact wpT_leaf (wpAny_pure (wpT_bind (wpT_holding (wpT_mono h₁ (fun vs s₂ h₂ => wpT_pure h₂) fun _ _ x => x))))
theorem BinOpT {l op r pos} {Q : Value → Shared → Prop} (h : wpT M A (eval l env) (fun a s₁ => wpT M A (eval r env) (fun b s₂ => wpAny M A (binaryOp op a b) Q E s₂) E s₁) E s) :
    wpT M A (eval (.BinOp l op r pos) env) Q E s := by
  show wpT M A (do let a ← eval l env; let b ← holding [a] (eval r env); standAt pos; operate [a, b] (binaryOp op a b)) Q E s
  refine wpT_bind (wpT_mono h (fun a s₁ h₁ => ?_) fun _ _ x => x)
  refine wpT_bind (wpT_holding (wpT_mono h₁ (fun b s₂ h₂ => ?_) fun _ _ x => x))
  exact wpT_leaf (wpAny_standAt (wpT_any (wpAny_operateT h₂)))

theorem evalArgsT {f : Value} {l : List (Bool × Sem Value)} {n : Nat} {Q : Args → Shared → Prop} (hl : l.map (·.1) = List.replicate n false)
    (h : wpT M A (spliced l) (fun vs s₁ => Q ⟨vs, []⟩ s₁) E s) : wpT M A (evalArgs f true l []) Q E s := by
  have tail : ∀ vs s₁, Q ⟨vs, []⟩ s₁ → wpT M A (evalAll [] >>= fun ks => pure vs >>= fun ps => pure (⟨ps, (([] : List (Option Str × Sem Value)).filterMap (·.1)).zip ks⟩ : Args)) Q E s₁ :=
    fun vs s₁ h₁ => wpT_leaf (wpAny_pure (wpT_leaf (wpAny_pure (wpT_pure h₁))))
  cases l with
  | nil =>
    unfold evalArgs
    show wpT M A (spliced [] >>= _) Q E s
    refine wpT_bind (wpT_mono h (fun vs s₁ h₁ => wpT_holding (ift_true rfl (tail vs s₁ h₁))) fun _ _ x => x)
  | cons y r =>
    obtain ⟨b, t⟩ := y
    cases n with
    | zero => cases hl
    | succ n =>
      simp only [List.map_cons, List.replicate_succ, List.cons.injEq] at hl
      obtain rfl : b = false := hl.1
      unfold evalArgs
      show wpT M A (spliced ((false, t) :: r) >>= _) Q E s
      refine wpT_bind (wpT_mono h (fun vs s₁ h₁ => wpT_holding (ift_true rfl (tail vs s₁ h₁))) fun _ _ x => x)

theorem allF {l : List (Bool × Sem Value)} : ∀ {n : Nat}, l.map (·.1) = List.replicate n false → l.any (·.1) = false := by
  induction l with
  | nil => intro _ _; rfl
  | cons y r ih =>
    intro k hk
    cases k with
    | zero => cases hk
    | succ k =>
      simp only [List.map_cons, List.replicate_succ, List.cons.injEq] at hk
      rw [List.any_cons, hk.1, ih hk.2]; rfl
theorem backF {pos : Pos} {l : List (Bool × Sem Value)} : ∀ {n : Nat}, l.map (·.1) = List.replicate n false → backTo pos l = l := by
  induction l with
  | nil => intro _ _; rfl
  | cons y r ih =>
    intro k hk
    cases k with
    | zero => cases hk
    | succ k =>
      simp only [List.map_cons, List.replicate_succ, List.cons.injEq] at hk
      obtain ⟨b, t⟩ := y
      obtain rfl : b = false := hk.1
      have := ih hk.2
      unfold backTo at this ⊢
      rw [List.map_cons, this]; rfl

/-- a call by a name that holds a def of the text's -/
theorem CallT {a : Addr} {x : Str} {px pos : Pos} {es : List Expr} {Q : Value → Shared → Prop} (n : Nat) (hst : (starEach es env).map (·.1) = List.replicate n false) (hn : (starEach es env).length ≤ 30)
    (h : wpAny M A (eval (.Name x px) env) (fun f s₁ => f = .ref a ∧ wpT M A (spliced (starEach es env)) (fun vs s₂ => (∃ fo fd, s₂.heap.get? a = some fo ∧ fo.data = .func fd) ∧ wpT M A (call (.ref a) vs) Q E s₂) E s₁) E s) :
    wpT M A (eval (.Call (.Name x px) es [] pos) env) Q E s := by
  show wpT M A (do callWith pos (← eval (.Name x px) env) [] (backTo pos (starEach es env)) (backToKw pos (keywordEach [] env))) Q E s
  refine wpT_leaf (wpAny_mono h (fun f s₁ h₁ => ?_) fun _ _ x => x)
  obtain ⟨rfl, h₁⟩ := h₁
  rw [backF hst]
  unfold callWith
  refine wpT_bind (wpT_holding (evalArgsT hst (wpT_mono h₁ (fun vs s₂ h₂ => ?_) fun _ _ x => x)))
  obtain ⟨⟨fo, fd, ho, hd⟩, h₂⟩ := h₂
  refine wpT_leaf (wpAny_standAt ?_)
  have hk : wpAny M A (keeperOf (.ref a)) (fun k s₃ => k = .frame ∧ s₃ = s₂) E s₂ := by
    unfold keeperOf
    refine wpAny_bind (wpAny_load ho ?_)
    rw [hd]
    exact wpAny_pure ⟨rfl, rfl⟩
  refine wpT_leaf (wpAny_mono hk (fun k s₃ e => ?_) fun _ _ x => x)
  obtain ⟨rfl, rfl⟩ := e
  have e0 : ((starEach es env).any (·.1) || (backToKw pos (keywordEach [] env)).any (·.1.isNone)) = false := by
    rw [allF hst]; rfl
  rw [e0]
  have e1 : ¬ (starEach es env).length + 2 * (backToKw pos (keywordEach [] env)).length > 30 := by
    have : (backToKw pos (keywordEach [] env)).length = 0 := rfl
    omega
  dsimp only
  rw [if_neg e1]
  refine wpT_bind ?_
  unfold callMarked
  exact wpT_keep (wpT_mono h₂ (fun v s₄ h₄ => wpT_leaf (wpAny_holding (wpAny_point (wpT_pure h₄)))) fun _ _ x => x)
end
end Mine
end
section
theorem Mine.fresh_B12 : True := by
  w_top off
  trivial
open PySem PySem.W PyProof.Rows PySem.Spec PySem.Calls
set_option Elab.async false
set_option maxRecDepth 100000
set_option maxHeartbeats 4000000
namespace Mine
open Sem (wp)
section
variable {prog : Program} {w : World} {A : Around} {s : Shared} {env : Env} {h₀ : Heap}

/-- the end of a turn: the iterator's own objects stand, and the word holds -/
def TurnEnd (h₀ : Heap) (L : Addr) (wr : List Addr) (own : List (Addr × Obj)) (J : (Str → Option Value) → List (Addr × Obj) → Prop) (s : Shared) (s₂ : Shared) : Prop :=
  ∃ h' tk m₂ news₂, s₂ = { s with heap := h', toks := tk } ∧ Fr h₀ L h' m₂ ∧ News h₀ L h' (own ++ news₂) ∧ (∀ p ∈ news₂, p.1 ∉ wr) ∧ J m₂ news₂

theorem codeT_loop {c : Code} {R : Result → Shared → Prop} (hc : tame c = true) (hq : c.quiet = true) (I : Nat → Shared → Prop)
    (turn : ∀ n s, I n s → wpT (model prog w) (A.under c) ((model prog w).den c)
      (fun fin s' => match fin with
        | .done f => R (.ok f) s'
        | .again c' => (c' = c ∧ ∃ m, m < n ∧ I m s') ∨ (c'.quiet = true ∧ codeT (model prog w) A c' R s')) (fun e s' => R (.error e) s') s)
    (n : Nat) : ∀ s, I n s → codeT (model prog w) A c R s := by
  induction n using Nat.strongRecOn with
  | ind n ih =>
    intro s h
    refine codeT_of_tree hc (wpT_mono (turn n s h) (fun fin s' hf => ?_) fun _ _ h' => h')
    cases fin with
    | done f => exact hf
    | again c' =>
      rcases hf with ⟨rfl, m, hm, hI⟩ | hf
      · exact ⟨hq, ih m hm _ hI⟩
      · exact hf

theorem ForT {E : Value → Shared → Prop} {Q : Flow → Shared → Prop} {x : Str} {px pos : Pos} {iter : Expr} {body : List Stmt} (hx : env.kindOf x = some .local)
    (hp : (env.scope.kind == .class || (env.scope.kind == .module && env.locals != env.globals)) = false)
    (h : wpAny (model prog w) A (eval iter env) (fun xv s₁ => wpAny (model prog w) A (pyIter xv) (fun it s₂ =>
      ∃ (I : Addr) (fp wr : List Addr) (n : Nat) (P : Nat → Value → Prop) (St : Nat → Heap → Prop) (m : Str → Option Value) (news : List (Addr × Obj)) (J : Nat → (Str → Option Value) → List (Addr × Obj) → Prop),
        it = .ref I ∧ Walks prog w A I fp wr n P St ∧ env.locals ∉ fp ∧ (∀ b ∈ wr, h₀.get? b = none) ∧ (∀ p ∈ news, p.1 ∉ wr) ∧ St 0 s₂.heap ∧ Fr h₀ env.locals s₂.heap m ∧ News h₀ env.locals s₂.heap news ∧ J 0 m news ∧
        (∀ i v m₁ news₁ h tk own, i < n → P i v → J i m₁ news₁ → (∀ p ∈ news₁, p.1 ∉ wr) → (∀ p ∈ own, p.1 ∈ fp) →
          Fr h₀ env.locals h (fun y => if y = x then some v else m₁ y) → News h₀ env.locals h (own ++ news₁) →
          wpT (model prog w) A (execs body env) (fun f s₃ => match f with
            | .next => TurnEnd h₀ env.locals wr own (J (i + 1)) { s₂ with heap := h, toks := tk } s₃
            | .cont => TurnEnd h₀ env.locals wr own (J (i + 1)) { s₂ with heap := h, toks := tk } s₃
            | .ret v => Q (.ret v) s₃
            | .brk => False) (fun _ _ => False) { s₂ with heap := h, toks := tk }) ∧
        ∀ h' tk m' news', Fr h₀ env.locals h' m' → News h₀ env.locals h' news' → (∀ p ∈ news', p.1 ∉ wr) → J n m' news' → Q .next { s₂ with heap := h', toks := tk }) E s₁) E s)
    (hs : ∀ x, foldedSetIterable iter env x = pure x := by intro _; rfl) :
    wpT (model prog w) A (exec (.For (.Name x px) iter body [] pos) env) Q E s := by
  rw [exec_For]
  refine wpT_leaf (wpAny_standAt (wpT_leaf (wpAny_mono h (fun xv s₁ h₁ => ?_) fun _ _ x => x)))
  refine wpT_leaf (wpAny_of_eq (hs xv) (wpT_leaf (wpAny_standAt (wpT_leaf (wpAny_holding (wpAny_mono h₁ (fun it s₂ h₂ => ?_) fun _ _ x => x))))))
  obtain ⟨I, fp, wr, n, P, St, m, news, J, rfl, W, hLf, hwr, hnw, hst, F, N, h0, step, hQ⟩ := h₂
  unfold runOwn
  refine wpT_onRaise (wpT_run (h := none) ?_)
  have hLw : env.locals ∉ wr := fun h => hLf (W.sub _ h)
  have old : ∀ b o, h₀.get? b = some o → b ∉ wr := fun b o e hb => by rw [hwr b hb] at e; cases e
  refine codeT_loop (R := fun r s' => match r with | .ok f => Q f s' | .error e => _) rfl rfl
    (fun k s' => ∃ h' tk m' news' i, s' = { s₂ with heap := h', toks := tk } ∧ St i h' ∧ Fr h₀ env.locals h' m' ∧ News h₀ env.locals h' news' ∧ (∀ p ∈ news', p.1 ∉ wr) ∧ J i m' news' ∧ i ≤ n ∧ k = n + 1 - i) ?_ (n + 1) _
    ⟨s₂.heap, s₂.toks, m, news, 0, rfl, hst, F, N, hnw, h0, Nat.zero_le _, rfl⟩
  rintro k s' ⟨h', tk, m', news', i, rfl, hst', F', N', hnw', hJ, hi, rfl⟩
  have next : ∀ h₁ : Heap, (∀ b o, b ∉ wr → h'.get? b = some o → h₁.get? b = some o) → Fr h₀ env.locals h₁ m' ∧ News h₀ env.locals h₁ news' := fun h₁ hk₁ =>
    ⟨⟨F'.ns.at' fun o e => hk₁ _ o hLw e, fun b o e => hk₁ b o (old b o e) (F'.keep b o e), F'.above⟩, fun p hp => ⟨hk₁ _ _ (hnw' p hp) (N' p hp).1, (N' p hp).2⟩⟩
  show wpT _ A ((forTurn (.Name x px) (.ref I) body [] env).onRaise (fun x => do noteFrame x env; theTreesLotGoes x)) _ _ _
  refine wpT_onRaise (wpT_mono (E := fun _ _ => False) ?_ (fun _ _ q => q) fun _ _ x => x.elim)
  simp only [forTurn]
  refine wpT_leaf (wpAny_standAt (wpT_bind (wpT_any (wpAny_onRaise ?_))))
  by_cases hlt : i < n
  · refine W.item i _ _ _ hlt hst' fun v h₁ tk₁ hP hst₁ hk₁ => ?_
    obtain ⟨F₁, N₁⟩ := next h₁ hk₁
    refine wpT_leaf (wpAny_of_eq (a := ()) rfl ?_)
    refine wpT_leaf (wpAny_assign_Name (wpAny_storeName_local hx F₁.ns (fun h₂ hn₂ hs₂ => ?_) hp))
    have F₂ := F₁.set hn₂ hs₂
    have Nown : News h₀ env.locals h₂ (ownOf h₀ fp h₂) := news_ownOf hLf
    have hst₂ : St (i + 1) h₂ := W.frame _ _ _ hst₁ fun b hb o e => (hs₂.2 b fun q => hLf (q ▸ hb)).trans e
    refine wpT_bind (wpT_mono (step i v m' news' h₂ _ (ownOf h₀ fp h₂) hlt hP hJ hnw' ownOf_sub F₂ (Nown.append (N₁.set hs₂))) (fun f s₃ h₃ => ?_) fun _ _ e => e)
    have fin : TurnEnd h₀ env.locals wr (ownOf h₀ fp h₂) (J (i + 1)) { s₂ with heap := h₂, toks := tk₁ + 1 } s₃ → ∃ m, m < n + 1 - i ∧ ∃ h' tk m' news' i, s₃ = { s₂ with heap := h', toks := tk } ∧ St i h' ∧ Fr h₀ env.locals h' m' ∧ News h₀ env.locals h' news' ∧ (∀ p ∈ news', p.1 ∉ wr) ∧ J i m' news' ∧ i ≤ n ∧ m = n + 1 - i := by
      rintro ⟨h₃', tk₃, m₂, news₂, rfl, F₃, N₃, ha₃, hJ₃⟩
      refine ⟨n + 1 - (i + 1), by omega, h₃', tk₃, m₂, news₂, i + 1, rfl, ?_, F₃, N₃.right, ha₃, hJ₃, hlt, rfl⟩
      refine W.frame _ _ _ hst₂ fun b hb o e₂ => ?_
      cases hn : h₀.get? b with
      | some o₀ =>
        have : o₀ = o := by have := F₂.keep b o₀ hn; rw [e₂] at this; exact (Option.some.inj this).symm
        exact this ▸ F₃.keep b o₀ hn
      | none => exact (N₃ _ (List.mem_append_left _ (mem_ownOf hb hn e₂))).1
    cases f with
    | next => exact wpT_pure (.inl ⟨rfl, fin h₃⟩)
    | cont => exact wpT_pure (.inl ⟨rfl, fin h₃⟩)
    | brk => exact h₃.elim
    | ret v => exact wpT_pure h₃
  · have hin : i = n := by omega
    subst hin
    refine W.done _ _ _ hst' fun h₁ tk₁ hk₁ => ?_
    obtain ⟨F₁, N₁⟩ := next h₁ hk₁
    exact wpT_pure (.inr ⟨rfl, codeT_any (codeAny_block (wpAny_execs_nil (hQ h₁ tk₁ m' news' F₁ N₁ hnw' hJ)))⟩)
end
end Mine
end
section
theorem Mine.fresh_B13 : True := by
  w_top off
  trivial
open PySem PySem.W PyProof.Rows PySem.Spec PySem.Calls
set_option Elab.async false
set_option maxRecDepth 100000
set_option maxHeartbeats 4000000
namespace Mine
open Sem (wp)
section
variable {M : Model} {A : Around} {E : Value → Shared → Prop} {s : Shared} {env : Env}
theorem foldT {α : Type} {t : Sem α} {Q : α → Shared → Prop} (h : ∀ Q' : α → Shared → Prop, (∀ a s, Q' a s → Q a s) → wpT M A t Q' (fun _ _ => False) s) : wpT M A t Q E s :=
  wpT_mono (h Q fun _ _ x => x) (fun _ _ x => x) fun _ _ x => x.elim
theorem foldA {α : Type} {t : Sem α} {Q : α → Shared → Prop} (h : ∀ Q' : α → Shared → Prop, (∀ a s, Q' a s → Q a s) → wpAny M A t Q' (fun _ _ => False) s) : wpAny M A t Q E s :=
  wpAny_mono (h Q fun _ _ x => x) (fun _ _ x => x) fun _ _ x => x.elim
/-- a call by a name that holds a built-in type -/
theorem CallT_type {ty : String} {x : Str} {px pos : Pos} {es : List Expr} {Q : Value → Shared → Prop} (n : Nat) (hst : (starEach es env).map (·.1) = List.replicate n false)
    (h : wpAny M A (eval (.Name x px) env) (fun f s₁ => f = .type ty ∧ wpT M A (spliced (starEach es env)) (fun vs s₂ => wpT M A (call (.type ty) vs) Q E s₂) E s₁) E s) :
    wpT M A (eval (.Call (.Name x px) es [] pos) env) Q E s := by
  show wpT M A (do callWith pos (← eval (.Name x px) env) [] (backTo pos (starEach es env)) (backToKw pos (keywordEach [] env))) Q E s
  refine wpT_leaf (wpAny_mono h (fun f s₁ h₁ => ?_) fun _ _ x => x)
  obtain ⟨rfl, h₁⟩ := h₁
  rw [backF hst]
  unfold callWith
  refine wpT_bind (wpT_holding (evalArgsT hst (wpT_mono h₁ (fun vs s₂ h₂ => ?_) fun _ _ x => x)))
  refine wpT_leaf (wpAny_standAt ?_)
  refine wpT_leaf (wpAny_of_eq (a := Keeper.machine) rfl ?_)
  have e0 : ((starEach es env).any (·.1) || (backToKw pos (keywordEach [] env)).any (·.1.isNone)) = false := by
    rw [allF hst]; rfl
  rw [e0]
  dsimp only
  refine wpT_bind ?_
  exact wpT_mono h₂ (fun v s₄ h₄ => wpT_leaf (wpAny_holding (wpAny_point (wpT_pure h₄)))) fun _ _ x => x
end
section
variable {prog : Program} {w : World} {A A₀ : Around} {s : Shared} {R : Result → Shared → Prop} {base h₀ : Heap} {outer : List Env} {L : Addr} {m : Str → Option Value} {env : Env} {news : List (Addr × Obj)} {K : Frag}
  {name qual : Str} {params : Arguments} {body : List Stmt} {scope : Scope} {dV kV doc pm cdv ct oc : Value} {an od : Option Addr} {osl : Array (Option Value)} {f : Addr} {args : Args} {binds : List (Str × Value)}
theorem codeT_K (B : Below A₀ base outer h₀) (F : Fr h₀ L s.heap m) (X₀ : K.In h₀) (N : News h₀ L s.heap news) (hlim : h₀.NoLimit) (hA : A.frames = some (env :: outer)) (hf : env.frame = some L) (hke : env.scope.kind = .function)
    (ho : K.lookup f = some ⟨oc, od, .func (fnOf name qual params body scope dV kV doc pm an cdv ct), osl⟩) (hcd : codeIn K cdv qual = true) (hroom : A.depth < recursionLimit)
    (hbind : BindsTo s (fnOf name qual params body scope dV kV doc pm an cdv ct) args binds) (hloc : ∀ y ∈ binds, scope.names.lookup y.1 = some .local)
    (h : ∀ g L' h₁, Fr h₀ L g m → Fr g L' h₁ (fun y => binds.reverse.lookup y) → News g L' h₁ news → Below A base (env :: outer) g → h₀.StaysIn g →
      wpT (model prog w) (A.deeper (envOf qual scope L' f cdv)) (execs body (envOf qual scope L' f cdv))
        (fun fl s' => LeaveK h₀ L m g R (match fl with | .ret v => v | _ => .none) s')
        (fun e s' => wpT (model prog w) (A.deeper (envOf qual scope L' f cdv)) (leaving (envOf qual scope L' f cdv) e) (fun _ s'' => R (.error e) s'') (fun e' s'' => R (.error e') s'') s')
        { s with heap := h₁, toks := s.toks + binds.length })
    (hcell : ∀ x ∈ scope.names, x.2 ≠ .cell) (hco : scope.isCoroutine = false) (hgen : scope.isGenerator = false) (hk : scope.kind = .function) : codeT (model prog w) A (.call (.ref f) args) R s :=
  callT_plain (cl := []) B F N hlim hA hf hke ((X₀.keeps F.keep) _ _ ho) rfl (codeRec_of (X₀.keeps F.keep) hcd) hroom hbind hloc h hcell hco hgen hk
theorem codeT_top_K (X : K.In s.heap) (hlim : s.heap.NoLimit)
    (ho : K.lookup f = some ⟨oc, od, .func (fnOf name qual params body scope dV kV doc pm an cdv ct), osl⟩) (hcd : codeIn K cdv qual = true) (hroom : A.depth < recursionLimit)
    (hbind : BindsTo s (fnOf name qual params body scope dV kV doc pm an cdv ct) args binds)
    (hkind : ∀ n, ∀ x ∈ binds, scope.names.lookup x.1 = some .local ∨ (scope.names.lookup x.1 = some .cell ∧ ((cellsFrom n scope.names []).lookup x.1).isSome = true))
    (hb1 : ∃ x v, binds = [(x, v)] ∧ scope.names.lookup x = some .local)
    (hnd : ((cellsFrom 0 scope.names []).map (·.1)).Nodup)
    (h : ∀ L' h₁ tk cells, 1 ≤ tk → Fr s.heap L' h₁ (bindL (envOfC qual scope L' f cdv).kindOf binds fun _ => none) → News s.heap L' h₁ cells →
      CellsAre (bindC (envOfC qual scope L' f cdv).kindOf binds fun _ => none) (cellsFrom (L' + 1) scope.names []) cells →
      wpT (model prog w) (A.deeper (envOfC qual scope L' f cdv)) (execs body (envOfC qual scope L' f cdv))
        (fun fl s' => R (.ok (.ret (match fl with | .ret v => v | _ => .none))) s')
        (fun e s' => wpT (model prog w) (A.deeper (envOfC qual scope L' f cdv)) (leaving (envOfC qual scope L' f cdv) e) (fun _ s'' => R (.error e) s'') (fun e' s'' => R (.error e') s'') s')
        { s with heap := h₁, toks := tk })
    (hco : scope.isCoroutine = false) (hgen : scope.isGenerator = false) (hk : scope.kind = .function) : codeT (model prog w) A (.call (.ref f) args) R s :=
  callT_top hlim (X _ _ ho) rfl (codeRec_of X hcd) hroom hbind hkind hb1 hnd h hco hgen hk
end
end Mine
end
section
theorem Mine.fresh_B14 : True := by
  w_top off
  trivial
open PySem PySem.W PyProof.Rows PySem.Spec PySem.Calls
set_option Elab.async false
set_option maxRecDepth 100000
set_option maxHeartbeats 4000000
namespace Mine
open Sem (wp)
section
variable {prog : Program} {w : World} {A : Around} {E : Value → Shared → Prop} {s : Shared} {env : Env} {h₀ : Heap} {x : Str} {body : List Stmt} {Q : Flow → Shared → Prop}

def Apart (own news : List (Addr × Obj)) : Prop := ∀ p ∈ own, ∀ q ∈ news, p.1 ≠ q.1
/-- the end of a turn of a loop that only goes on -/
def Turn (h₀ : Heap) (L : Addr) (own : List (Addr × Obj)) (J : (Str → Option Value) → List (Addr × Obj) → Prop) (s : Shared) (f : Flow) (s₂ : Shared) : Prop :=
  f = .next ∧ ∃ h' tk m₂ news₂, s₂ = { s with heap := h', toks := tk } ∧ Fr h₀ L h' m₂ ∧ News h₀ L h' (own ++ news₂) ∧ Apart own news₂ ∧ J m₂ news₂
theorem Turn.mk {L : Addr} {own news₂ : List (Addr × Obj)} {J : (Str → Option Value) → List (Addr × Obj) → Prop} {m₂ : Str → Option Value} {h' : Heap} {tk : Nat}
    (F : Fr h₀ L h' m₂) (N : News h₀ L h' (own ++ news₂)) (ap : Apart own news₂) (j : J m₂ news₂) : Turn h₀ L own J s .next { s with heap := h', toks := tk } := ⟨rfl, h', tk, m₂, news₂, rfl, F, N, ap, j⟩

theorem loopU_range {r : Addr} {a b c : Int} {t₀ u₀ v₀ : Tok} {n : Nat} {m₀ : Str → Option Value} {news : List (Addr × Obj)} (J : Nat → (Str → Option Value) → List (Addr × Obj) → Prop)
    (hh : A.handled = none) (hr : IsRange s.heap r a b c t₀ u₀ v₀) (hsmall : Builtin.Range.small a b c = true) (hn : Builtin.Range.rangeSize a b c = (n : Int)) (F : Fr h₀ env.locals s.heap m₀) (N : News h₀ env.locals s.heap news) (h0 : J 0 m₀ news)
    (step : ∀ (i : Nat) m₁ news₁ s₁ t own, i < n → J i m₁ news₁ → Apart own news₁ → Fr h₀ env.locals s₁.heap (fun y => if y = x then some (.int (a + i * c) t) else m₁ y) → News h₀ env.locals s₁.heap (own ++ news₁) →
      wpAny (model prog w) A (execs body env) (Turn h₀ env.locals own (J (i + 1)) s₁) E s₁)
    (done : ∀ h' tk m' news', Fr h₀ env.locals h' m' → News h₀ env.locals h' news' → J n m' news' → Q .next { s with heap := h', toks := tk }) :
    wpAny (model prog w) A (pyIter (.ref r)) (fun it s₂ => LoopAtU prog w A h₀ env x body Q E it s₂) E s := by
  refine wpAny_pyIter_range hr hsmall ?_
  have hnew := next_is_new F
  refine ⟨_, _, _, n, _, _, m₀, news, J, rfl, Walks.range hh s.heap.objs.size a c n, ?_, ?_, ?_, (by show IsRangeIter _ _ _ _ _; rw [hn]; simpa using Heap.get?_push_size _ rfl), F.push _, (fun p hp => ⟨Heap.get?_push_of_some _ (N p hp).1, (N p hp).2⟩), h0, ?_, ?_⟩
  · intro hm
    exact absurd F.ns.lt ((List.mem_singleton.mp hm) ▸ Nat.lt_irrefl _)
  · intro b hb
    rw [List.mem_singleton.mp hb]
    exact hnew
  · intro p hp hI
    exact absurd (Heap.lt_size (N p hp).1) ((List.mem_singleton.mp hI) ▸ Nat.lt_irrefl _)
  · rintro i v m₁ news₁ s₁ own hi ⟨t, rfl⟩ hJ hoff hown hget hall hst F₁ N₁
    have hst' : s₁.heap.get? s.heap.objs.size = some _ := hst
    have hmem := hall s.heap.objs.size (List.mem_singleton.mpr rfl) hnew _ hst'
    refine wpAny_mono (step i m₁ news₁ s₁ t own hi hJ (fun p hp q hq e => hoff q hq (by rw [← e]; exact hown p hp)) F₁ N₁) (fun f s₂ h => ?_) fun _ _ e => e
    obtain ⟨rfl, h', tk, m₂, news₂, rfl, F₂, N₂, ap, j⟩ := h
    exact LoopStepU.intro F₂ N₂ (fun p hp hI => ap _ hmem p hp (List.mem_singleton.mp hI).symm) j
  · intro h' tk m' news' F' N' _ hJ
    exact done h' tk m' news' F' N' hJ
end
end Mine
end
section
theorem Mine.fresh_B15 : True := by
  w_top off
  trivial
open PySem PySem.W PyProof.Rows PySem.Spec PySem.Calls
set_option Elab.async false
set_option maxRecDepth 100000
set_option maxHeartbeats 4000000
namespace Mine
section
variable {prog : Program} {w : World} {A : Around} {s : Shared} {h₀ : Heap} {env : Env} {E : Value → Shared → Prop}
/-- the end, under a name of its own -/
theorem nameT {M : Model} {α : Type} {t : Sem α} {Q : α → Shared → Prop} (h : ∀ Q' : α → Shared → Prop, (Unit → ∀ a s, Q a s → Q' a s) → wpT M A t Q' (fun _ _ => False) s) : wpT M A t Q E s :=
  wpT_mono (h Q fun _ _ _ x => x) (fun _ _ x => x) fun _ _ x => x.elim
/-- a loop over a list, with one ledger -/
theorem For_listT {Q : Flow → Shared → Prop} {x : Str} {px pos : Pos} {iter : Expr} {body : List Stmt} (hx : env.kindOf x = some .local)
    (hp : (env.scope.kind == .class || (env.scope.kind == .module && env.locals != env.globals)) = false) (hh : A.handled = none) (J : Nat → (Str → Option Value) → Prop)
    (h : wpAny (model prog w) A (eval iter env) (fun xv s₁ => ∃ ax its m news, xv = .ref ax ∧ s₁.heap.IsList ax its ∧ ax ≠ env.locals ∧ Fr h₀ env.locals s₁.heap m ∧ News h₀ env.locals s₁.heap news ∧ J 0 m ∧
      (∀ i v m₁ h tk own, its[i]? = some v → J i m₁ → Fr h₀ env.locals h (fun y => if y = x then some v else m₁ y) → News h₀ env.locals h (own ++ news) →
        wpT (model prog w) A (execs body env) (fun f s₃ => f = .next ∧ ∃ h' tk' m₂, s₃ = { s₁ with heap := h', toks := tk' } ∧ Fr h₀ env.locals h' m₂ ∧ News h₀ env.locals h' (own ++ news) ∧ J (i + 1) m₂) (fun _ _ => False) { s₁ with heap := h, toks := tk }) ∧
      ∀ h' tk m', Fr h₀ env.locals h' m' → News h₀ env.locals h' news → J its.size m' → Q .next { s₁ with heap := h', toks := tk }) E s)
    (hs : ∀ x, foldedSetIterable iter env x = pure x := by intro _; rfl) :
    wpT (model prog w) A (exec (.For (.Name x px) iter body [] pos) env) Q E s := by
  refine ForT (h₀ := h₀) hx hp (wpAny_mono h (fun xv s₁ h₁ => ?_) fun _ _ e => e) hs
  obtain ⟨ax, its, m, news, rfl, hl, hax, F, N, h0, step, done⟩ := h₁
  have hlt : ax < s₁.heap.objs.size := by obtain ⟨_, e, _⟩ := hl; exact Heap.lt_size e
  refine wpAny_pyIter_list hl ?_
  have hnew := next_is_new F
  refine ⟨s₁.heap.objs.size, _, _, its.size, _, _, m, news, fun i m nw => J i m ∧ nw = news, rfl, Walks.list hh s₁.heap.objs.size ax (Nat.ne_of_lt hlt) its, ?_, ?_, ?_, ⟨⟨_, Heap.get?_push_size _ rfl, rfl, rfl⟩, hl.push _⟩, F.push _, (fun p hp => ⟨Heap.get?_push_of_some _ (N p hp).1, (N p hp).2⟩), ⟨h0, rfl⟩, ?_, ?_⟩
  · intro hm
    rcases List.mem_cons.mp hm with e | hm
    · exact absurd F.ns.lt (e ▸ Nat.lt_irrefl _)
    · exact hax (List.mem_singleton.mp hm).symm
  · intro b hb
    rw [List.mem_singleton.mp hb]
    exact hnew
  · intro p hp hI
    exact absurd (Heap.lt_size (N p hp).1) ((List.mem_singleton.mp hI) ▸ Nat.lt_irrefl _)
  · rintro i v m₁ news₁ h tk own hi hP ⟨hJ, rfl⟩ hoff hown F₁ N₁
    refine wpT_mono (step i v m₁ h tk own hP hJ F₁ N₁) (fun f s₃ h₃ => ?_) fun _ _ e => e
    obtain ⟨rfl, h', tk', m₂, rfl, F₂, N₂, j⟩ := h₃
    exact ⟨h', tk', m₂, news₁, rfl, F₂, N₂, hoff, j, rfl⟩
  · rintro h' tk m' news' F' N' _ ⟨hJ, rfl⟩
    exact done h' tk m' F' N' hJ
end
end Mine
end
section
theorem Mine.fresh_B16 : True := by
  w_top off
  trivial
open PySem PySem.W PyProof.Rows PySem.Spec PySem.Calls
set_option Elab.async false
set_option maxRecDepth 100000
set_option maxHeartbeats 4000000
namespace Mine
section
variable {prog : Program} {w : World} {A : Around} {s : Shared} {h₀ : Heap} {env : Env} {E : Value → Shared → Prop}
/-- a loop over a list, the ledger's things at their places -/
theorem For_listJ {Q : Flow → Shared → Prop} {x : Str} {px pos : Pos} {iter : Expr} {body : List Stmt} (hx : env.kindOf x = some .local)
    (hp : (env.scope.kind == .class || (env.scope.kind == .module && env.locals != env.globals)) = false) (hh : A.handled = none) (J : Nat → (Str → Option Value) → List (Addr × Obj) → Prop) (as : List Addr) (hJ : ∀ i m nw, J i m nw → nw.map (·.1) = as)
    (h : wpAny (model prog w) A (eval iter env) (fun xv s₁ => ∃ ax its m news, xv = .ref ax ∧ s₁.heap.IsList ax its ∧ ax ≠ env.locals ∧ Fr h₀ env.locals s₁.heap m ∧ News h₀ env.locals s₁.heap news ∧ J 0 m news ∧
      (∀ i v m₁ news₁ h tk own, its[i]? = some v → J i m₁ news₁ → (∀ p ∈ own, p.1 = ax ∨ p.1 ∉ as) → Fr h₀ env.locals h (fun y => if y = x then some v else m₁ y) → News h₀ env.locals h (own ++ news₁) →
        wpT (model prog w) A (execs body env) (fun f s₃ => f = .next ∧ ∃ h' tk' m₂ news₂, s₃ = { s₁ with heap := h', toks := tk' } ∧ Fr h₀ env.locals h' m₂ ∧ News h₀ env.locals h' (own ++ news₂) ∧ J (i + 1) m₂ news₂) (fun _ _ => False) { s₁ with heap := h, toks := tk }) ∧
      ∀ h' tk m' news', Fr h₀ env.locals h' m' → News h₀ env.locals h' news' → J its.size m' news' → Q .next { s₁ with heap := h', toks := tk }) E s)
    (hs : ∀ x, foldedSetIterable iter env x = pure x := by intro _; rfl) :
    wpT (model prog w) A (exec (.For (.Name x px) iter body [] pos) env) Q E s := by
  refine ForT (h₀ := h₀) hx hp (wpAny_mono h (fun xv s₁ h₁ => ?_) fun _ _ e => e) hs
  obtain ⟨ax, its, m, news, rfl, hl, hax, F, N, h0, step, done⟩ := h₁
  have hlt : ax < s₁.heap.objs.size := by obtain ⟨_, e, _⟩ := hl; exact Heap.lt_size e
  refine wpAny_pyIter_list hl ?_
  have hnew := next_is_new F
  have has : s₁.heap.objs.size ∉ as := fun hm => by
    rw [← hJ _ _ _ h0] at hm
    obtain ⟨p, hp, e⟩ := List.mem_map.mp hm
    exact absurd (Heap.lt_size (N p hp).1) (e ▸ Nat.lt_irrefl _)
  refine ⟨s₁.heap.objs.size, _, _, its.size, _, _, m, news, J, rfl, Walks.list hh s₁.heap.objs.size ax (Nat.ne_of_lt hlt) its, ?_, ?_, ?_, ⟨⟨_, Heap.get?_push_size _ rfl, rfl, rfl⟩, hl.push _⟩, F.push _, (fun p hp => ⟨Heap.get?_push_of_some _ (N p hp).1, (N p hp).2⟩), h0, ?_, ?_⟩
  · intro hm
    rcases List.mem_cons.mp hm with e | hm
    · exact absurd F.ns.lt (e ▸ Nat.lt_irrefl _)
    · exact hax (List.mem_singleton.mp hm).symm
  · intro b hb
    rw [List.mem_singleton.mp hb]
    exact hnew
  · intro p hp hI
    exact absurd (Heap.lt_size (N p hp).1) ((List.mem_singleton.mp hI) ▸ Nat.lt_irrefl _)
  · rintro i v m₁ news₁ h tk own hi hP hJ₁ hoff hown F₁ N₁
    refine wpT_mono (step i v m₁ news₁ h tk own hP hJ₁ (fun p hp => ?_) F₁ N₁) (fun f s₃ h₃ => ?_) fun _ _ e => e
    · rcases List.mem_cons.mp (hown p hp) with e | e
      · exact Or.inr (e ▸ has)
      · exact Or.inl (List.mem_singleton.mp e)
    · obtain ⟨rfl, h', tk', m₂, news₂, rfl, F₂, N₂, j⟩ := h₃
      refine ⟨h', tk', m₂, news₂, rfl, F₂, N₂, fun q hq hI => has ?_, j⟩
      rw [← hJ _ _ _ j, ← List.mem_singleton.mp hI]
      exact List.mem_map_of_mem hq
  · rintro h' tk m' news' F' N' _ hJ'
    exact done h' tk m' news' F' N' hJ'
end
end Mine
end
section
theorem Mine.fresh_T1 : True := by
  w_top off
  trivial
open PySem PySem.W PyProof.Rows PySem.Spec PySem.Calls
set_option Elab.async false
set_option maxRecDepth 100000
set_option maxHeartbeats 4000000
namespace Mine
section
variable {M : Model} {A : Around} {E : Value → Shared → Prop} {s : Shared} {α : Type}
theorem wpT_toks {t : Sem α} {Q : α → Shared → Prop} (n : Nat) (hn : n ≤ s.toks) (h : wpT M A t (fun a s' => n ≤ s'.toks → Q a s') E s) : wpT M A t Q E s :=
  ⟨fun Γ p hΓ ht hb => Sem.wp_mono M Γ t (fun _ _ _ x => x.2 x.1) (fun _ _ _ x => x.2) p s (wp_toks M Γ t n _ _ p s hn (h.out Γ p hΓ ht hb))⟩
theorem execs_tok {env : Env} {st rest} {Q : Flow → Shared → Prop} (n : Nat) (hn : n ≤ s.toks)
    (h : wpAny M A (exec st env) (fun f s' => n ≤ s'.toks → match f with | .next => wpAny M A (execs rest env) Q E s' | f => Q f s') E s) : wpAny M A (execs (st :: rest) env) Q E s :=
  wpAny_execs_cons (wpAny_toks n hn h)
theorem execsT_tok {env : Env} {st rest} {Q : Flow → Shared → Prop} (n : Nat) (hn : n ≤ s.toks)
    (h : wpT M A (exec st env) (fun f s' => n ≤ s'.toks → match f with | .next => wpT M A (execs rest env) Q E s' | f => Q f s') E s) : wpT M A (execs (st :: rest) env) Q E s :=
  execsT_cons (wpT_toks n hn h)
end
end Mine
end
section
theorem Mine.fresh_P1 : True := by
  w_top off
  trivial
open PySem PySem.W PyProof.Rows PySem.Spec PySem.Calls
set_option Elab.async false
set_option maxRecDepth 100000
namespace Mine
def swapAt (w p : Nat) : Nat := p / w * w + (w - 1 - p % w)
def swapB (d : Array UInt8) (w : Nat) : Array UInt8 := ((List.range d.size).map fun p => d.getD (swapAt w p) 0).toArray
theorem swapB_size (d : Array UInt8) (w : Nat) : (swapB d w).size = d.size := by simp [swapB]
def SwOk (d : Array UInt8) (w k : Nat) (b : Array UInt8) : Prop := b.size = d.size ∧ ∀ p, p < k * w → b.getD p 0 = d.getD (swapAt w p) 0
def SwIn (d : Array UInt8) (w i j : Nat) (b : Array UInt8) : Prop := SwOk d w i b ∧ ∀ j', j' < j → b.getD (i * w + (w - 1 - j')) 0 = d.getD (i * w + j') 0
theorem SwOk.start (d : Array UInt8) (w : Nat) : SwOk d w 0 (Array.replicate d.size 0) := ⟨by simp, fun p h => by omega⟩
theorem getD_set {b : Array UInt8} {k p : Nat} {x : UInt8} (hk : k < b.size) : (b.setIfInBounds k x).getD p 0 = if p = k then x else b.getD p 0 := by
  simp only [Array.getD_eq_getD_getElem?, Array.getElem?_setIfInBounds]
  by_cases h : p = k
  · subst h; simp [hk]
  · have : ¬ k = p := fun e => h e.symm
    simp [h, this]
theorem SwIn.step {d b : Array UInt8} {w i j : Nat} (h : SwIn d w i j b) (hj : j < w) (hs : (i + 1) * w ≤ d.size) : SwIn d w i (j + 1) (b.setIfInBounds (i * w + (w - 1 - j)) (d.getD (i * w + j) 0)) := by
  obtain ⟨⟨h1, h2⟩, h3⟩ := h
  have hb : (i + 1) * w = i * w + w := Nat.succ_mul i w
  have hk : i * w + (w - 1 - j) < b.size := by omega
  refine ⟨⟨by simpa using h1, fun p hp => ?_⟩, fun j' hj' => ?_⟩
  · rw [getD_set hk, if_neg (by omega)]; exact h2 p hp
  · rw [getD_set hk]
    by_cases e : j' = j
    · subst e; simp
    · rw [if_neg (by omega)]; exact h3 j' (by omega)
theorem SwIn.done {d b : Array UInt8} {w i : Nat} (h : SwIn d w i w b) (hw : 0 < w) : SwOk d w (i + 1) b := by
  obtain ⟨⟨h1, h2⟩, h3⟩ := h
  refine ⟨h1, fun p hp => ?_⟩
  have hb : (i + 1) * w = i * w + w := Nat.succ_mul i w
  by_cases hp' : p < i * w
  · exact h2 p hp'
  · have hr : p - i * w < w := by omega
    have hd : p / w = i := by
      refine Nat.div_eq_of_lt_le (by omega) (by omega)
    have hm : p % w = p - i * w := by
      have := Nat.div_add_mod p w
      rw [hd, Nat.mul_comm] at this
      omega
    have := h3 (w - 1 - (p - i * w)) (by omega)
    rw [show i * w + (w - 1 - (w - 1 - (p - i * w))) = p by omega] at this
    rw [this]
    unfold swapAt
    rw [hd, hm]
theorem SwOk.fin {d b : Array UInt8} {w n : Nat} (h : SwOk d w n b) (hn : d.size = n * w) : b = swapB d w := by
  obtain ⟨h1, h2⟩ := h
  apply Array.ext
  · rw [swapB_size]; exact h1
  · intro p hp hp'
    have h3 := h2 p (by rw [← hn, ← h1]; exact hp)
    rw [Array.getD_eq_getD_getElem?, Array.getElem?_eq_getElem hp] at h3
    simp only [swapB, List.getElem_toArray, List.getElem_map, List.getElem_range]
    simpa using h3
theorem bInts_get (b : Array UInt8) (k : Nat) : ((KBw.bInts b).getD k 0).toNat.toUInt8 = b.getD k 0 := by
  have e : (KBw.bInts b).getD k 0 = ((b.getD k 0).toNat : Int) := by
    obtain ⟨l⟩ := b
    rw [KBw.ints_list]
    simp only [List.getD_eq_getElem?_getD, List.getElem?_map, Array.getD_eq_getD_getElem?, List.getElem?_toArray]
    cases l[k]? <;> simp
  rw [e]; simp
theorem rangeSize_step {n w : Nat} (hw : 0 < w) : Builtin.Range.rangeSize 0 ((n * w : Nat) : Int) (w : Int) = (n : Int) := by
  unfold Builtin.Range.rangeSize
  have h1 : (w : Int) > 0 := by omega
  rw [if_pos h1]
  cases n with
  | zero => simp
  | succ n =>
    have hp : 0 < (n + 1) * w := Nat.mul_pos (by omega) hw
    have h2 : (0 : Int) < (((n + 1) * w : Nat) : Int) := by exact_mod_cast hp
    rw [if_pos h2]
    have e : ((((n + 1) * w : Nat) : Int) - 0 - 1) / (w : Int) = (n : Int) := by
      have e1 : ((((n + 1) * w : Nat) : Int) - 0 - 1) = (((n + 1) * w - 1 : Nat) : Int) := by omega
      rw [e1]
      have e2 : ((n + 1) * w - 1) / w = n := by
        refine Nat.div_eq_of_lt_le ?_ ?_
        · rw [Nat.succ_mul]; omega
        · omega
      exact_mod_cast e2
    rw [e]; omega
theorem small_step {n w : Nat} (hw : 0 < w) (hz : n * w ≤ 4096) (hwz : w ≤ 4096) : Builtin.Range.small 0 ((n * w : Nat) : Int) (w : Int) = true := by
  unfold Builtin.Range.small
  rw [rangeSize_step hw]
  have hn : n ≤ 4096 := Nat.le_trans (Nat.le_mul_of_pos_right n hw) hz
  have h1 : (w : Int) > 0 := by omega
  rw [if_pos h1]
  have h2 : ((n * w : Nat) : Int) ≤ 4096 := by exact_mod_cast hz
  have h3 : (0 : Int) ≤ ((n * w : Nat) : Int) := Int.natCast_nonneg _
  generalize ((n * w : Nat) : Int) = N at h2 h3
  simp only [Builtin.Range.rangeFitsLong, Bool.and_eq_true, Bool.or_eq_true, decide_eq_true_eq, beq_iff_eq]
  omega
end Mine
end
section
theorem Mine.fresh_P2 : True := by
  w_top off
  trivial
open PySem PySem.W PyProof.Rows PyProof.V PySem.Spec PySem.Calls
set_option Elab.async false
namespace Mine
def escT (x : Str) : Str := Txt.replace (Txt.replace (Txt.replace x (Str.ofString "&") (Str.ofString "&amp;")) (Str.ofString ">") (Str.ofString "&gt;")) (Str.ofString "<") (Str.ofString "&lt;")
def unT (x : Str) : Str := Txt.replace (Txt.replace x (Str.ofString "&lt;") (Str.ofString "<")) (Str.ofString "&gt;") (Str.ofString ">")
def ampT (x : Str) : Str := Txt.replace x (Str.ofString "&amp;") (Str.ofString "&")
end Mine
end
section
theorem Mine.fresh_P3 : True := by
  w_top off
  trivial
open PySem PyProof.Rows PySem.Spec
open Builtin Builtin.Str StrLaws
set_option Elab.async false
namespace Mine
/-- replacing, on lists: k signs are still to be skipped -/
def rep (y z : List Nat) : Nat → List Nat → List Nat
  | _, [] => []
  | k + 1, _ :: r => rep y z k r
  | 0, c :: r => if y.isPrefixOf (c :: r) then z ++ rep y z (y.length - 1) r else c :: rep y z 0 r

theorem rep_skip (y z : List Nat) : ∀ (k : Nat) (l : List Nat), rep y z k l = rep y z 0 (l.drop k)
  | 0, l => by rw [List.drop_zero]
  | k + 1, [] => by simp [rep]
  | k + 1, c :: r => by rw [rep, rep_skip y z k r, List.drop_succ_cons]

theorem rep_hit {y z l : List Nat} (hy : 1 ≤ y.length) : rep y z 0 (y ++ l) = z ++ rep y z 0 l := by
  cases y with
  | nil => simp at hy
  | cons c r =>
    show rep (c :: r) z 0 (c :: (r ++ l)) = _
    rw [rep, if_pos (by rw [List.isPrefixOf_iff_prefix]; exact ⟨l, rfl⟩), rep_skip]
    congr 2
    simp

theorem rep_free {y z : List Nat} : ∀ {l : List Nat} {m : Nat}, m ≤ l.length → (∀ k, k < m → ¬ y <+: l.drop k) → rep y z 0 l = l.take m ++ rep y z 0 (l.drop m)
  | l, 0, _, _ => by simp
  | [], m + 1, h, _ => by simp at h
  | c :: r, m + 1, h, hf => by
    have h0 : ¬ y <+: (c :: r) := by simpa using hf 0 (by omega)
    rw [rep, if_neg (by rw [List.isPrefixOf_iff_prefix]; exact h0), rep_free (m := m) (by simpa using h) fun k hk => by simpa using hf (k + 1) (by omega)]
    simp

theorem at_iff (x y : Str) (i : Nat) (hy : 1 ≤ y.length) : At x y x.length i ↔ y.cps.toList <+: x.cps.toList.drop i := by
  unfold At
  rw [subAt_eq]
  have ey : y.length = y.cps.toList.length := by simp [Str.length]
  have ex : x.length = x.cps.toList.length := by simp [Str.length]
  rw [ey] at hy ⊢
  rw [ex]
  constructor
  · rintro ⟨_, h⟩
    rw [beq_iff_eq] at h
    exact ⟨_, (congrArg (· ++ (x.cps.toList.drop i).drop y.cps.toList.length) h.symm).trans (List.take_append_drop ..)⟩
  · intro h
    obtain ⟨t, e⟩ := h
    have hl := congrArg List.length e
    rw [List.length_append, List.length_drop] at hl
    refine ⟨by omega, ?_⟩
    rw [beq_iff_eq, ← e]
    simp

theorem rep_parts (x y z : Str) (hy : 1 ≤ y.length) : ∀ (cuts : List Nat) (a f : Nat), a ≤ x.length → ChainG x y x.length a cuts f → (∀ k, f ≤ k → ¬ At x y x.length k) →
    (Str.join z (partsFrom x y.length a cuts)).cps.toList = rep y.cps.toList z.cps.toList 0 (x.cps.toList.drop a)
  | [], a, f, ha, hc, hf => by
    obtain rfl : f = a := hc
    have e : (x.cps.toList.drop f).take (x.cps.toList.drop f).length = x.cps.toList.drop f := List.take_length
    rw [rep_free (m := (x.cps.toList.drop f).length) (Nat.le_refl _) fun k _ h => hf (f + k) (Nat.le_add_right _ _) ((at_iff x y _ hy).mpr (by rwa [List.drop_drop] at h)), e, List.drop_length]
    show (x.cps.extract f x.length).toList = _
    rw [rep, List.append_nil]
    simp only [Array.toList_extract, List.extract_eq_take_drop]
    exact List.take_of_length_le (by rw [List.length_drop]; simp [Str.length])
  | c :: r, a, f, ha, hc, hf => by
    obtain ⟨h1, h2, h3, h4⟩ := hc
    have hcw := h2.1
    have ih := rep_parts x y z hy r (c + y.length) f hcw h4 hf
    obtain ⟨q, rs, hq⟩ := partsFrom_ne x y.length (c + y.length) r
    have hxl : x.length = x.cps.toList.length := by simp [Str.length]
    have hyl : y.length = y.cps.toList.length := by simp [Str.length]
    rw [rep_free (m := c - a) (by rw [List.length_drop]; omega) fun k hk h => h3 (a + k) (by omega) (by omega) ((at_iff x y _ hy).mpr (by rwa [List.drop_drop] at h)), List.drop_drop, show a + (c - a) = c by omega]
    obtain ⟨t, ht⟩ := (at_iff x y c hy).mp h2
    rw [← ht, rep_hit (by omega), show t = x.cps.toList.drop (c + y.length) by rw [hyl, ← List.drop_drop, ← ht]; simp, ← ih]
    show (Str.join z (strSub x a c :: partsFrom x y.length (c + y.length) r)).cps.toList = _
    rw [hq]
    show (strSub x a c ++ z ++ Str.join z (q :: rs)).cps.toList = _
    simp only [Str.cps_append, Array.toList_append, List.append_assoc]
    congr 1
    show (x.cps.extract a c).toList = _
    simp [List.take_drop, show a + (c - a) = c by omega]

theorem rep_spec (x y z : Str) (hy : 1 ≤ y.length) : (Txt.replace x y z).cps.toList = rep y.cps.toList z.cps.toList 0 x.cps.toList := by
  obtain ⟨f, hc, hf⟩ := occ_tight x y hy
  have h := rep_parts x y z hy _ 0 f (Nat.zero_le _) hc hf
  rw [List.drop_zero] at h
  unfold Txt.replace
  split
  · rename_i he
    have he' : (occurrences x y 0 x.length (x.length + 1)) = [] := by
      rw [Bool.or_eq_true] at he
      rcases he with he | he
      · exact List.isEmpty_iff.mp he
      · rw [Bool.and_eq_true, beq_iff_eq] at he; omega
    rw [he'] at h
    rw [← h]
    show _ = (strSub x 0 x.length).cps.toList
    simp [strSub, Str.length]
  · rw [glued_eq_join, partsBetween_eq]; exact h
theorem rep_length (y z : List Nat) : ∀ (l : List Nat) (k : Nat), (rep y z k l).length ≤ l.length + l.length * z.length
  | [], k => by cases k <;> simp [rep]
  | c :: r, k + 1 => by
    rw [rep, List.length_cons, Nat.succ_mul]
    have := rep_length y z r k
    omega
  | c :: r, 0 => by
    rw [rep, List.length_cons, Nat.succ_mul]
    split
    · have := rep_length y z r (y.length - 1)
      rw [List.length_append]; omega
    · have := rep_length y z r 0
      rw [List.length_cons]; omega
theorem rep_len (x y z : Str) (hy : 1 ≤ y.length) : (Txt.replace x y z).length ≤ x.length + (x.length + 1) * z.length := by
  have h := congrArg List.length (rep_spec x y z hy)
  have h2 := rep_length y.cps.toList z.cps.toList x.cps.toList 0
  rw [← h] at h2
  simp only [Array.length_toList] at h2
  show (Txt.replace x y z).cps.size ≤ x.cps.size + (x.cps.size + 1) * z.cps.size
  rw [Nat.succ_mul]; omega
end Mine
end
section
theorem Mine.fresh_E1 : True := by
  w_top off
  trivial
open PySem PySem.W PyProof.Rows PyProof.V PySem.Spec PySem.Calls
set_option Elab.async false
set_option maxRecDepth 100000
set_option maxHeartbeats 8000000
namespace Mine

/-- what is stored of the pairs that a display writes down -/
def xEs (w : World) (l : List (Str × Tok × Value)) : List DictEntry := l.map fun p => ⟨(hashStr w p.1 : Int), .str p.1 p.2.1, p.2.2⟩
/-- the dict itself, with its very keys -/
abbrev xd (w : World) (l : List (Str × Tok × Value)) (n : Nat) : Obj := { cls := .type "dict", data := .dict (xEs w l).toArray n }
def xKV (l : List (Str × Tok × Value)) : List (Str × Value) := l.map fun p => (p.1, p.2.2)
def xVals (l : List (Str × Tok × Value)) : List (Value × Value) := l.map fun p => (.str p.1 p.2.1, p.2.2)

section
variable {prog : Program} {w : World} {A : Around} {E : Value → Shared → Prop} {s : Shared}

theorem xEs_keys (l : List (Str × Tok × Value)) : KeysOf (PySem.strKind prog w) (xEs w l).toArray := fun e he => by
  obtain ⟨p, _, rfl⟩ := List.mem_map.mp (List.mem_toArray.mp he)
  exact ⟨p.1, PySem.strKind_is prog w p.1 p.2.1, rfl⟩
theorem xEs_pairs : ∀ l : List (Str × Tok × Value), Pairs (PySem.strKind prog w) (xEs w l) (xKV l)
  | [] => Pairs.nil
  | p :: r => Pairs.cons (PySem.strKind_is prog w p.1 p.2.1) rfl (xEs_pairs r)
theorem xd_isDict {l : List (Str × Tok × Value)} (n : Nat) (hn : (l.map (·.1)).Nodup) : (xd w l n).IsDictOf (PySem.strKind prog w) (xKV l) :=
  ⟨_, n, ⟨rfl, rfl, rfl⟩, rfl, xEs_keys l, xEs_pairs l, by simpa [xKV, Function.comp_def] using hn⟩

theorem x_dictSet {d : Addr} {l : List (Str × Tok × Value)} {n : Nat} {x : Str} {t : Tok} {v : Value} {Q : Unit → Shared → Prop} (ho : s.heap.get? d = some (xd w l n)) (hx : x ∉ l.map (·.1)) (hz : l.length ≤ 100)
    (hQ : ∀ h', h'.get? d = some (xd w (l ++ [(x, t, v)]) (n + 1)) → Heap.SameBut d s.heap h' → Q () { s with heap := h', toks := s.toks + 1 }) :
    wpAny (model prog w) A (dictSet d (.str x t) v) Q E s := by
  unfold dictSet
  try with_reducible refine wpAny_holding ?_
  refine wpAny_bind ((PySem.strKind prog w).pyHash (PySem.strKind_is prog w x t) ?_)
  unfold dictSetHashed
  try with_reducible refine wpAny_holding ?_
  refine wpAny_bind (wpAny_dictFind_of (s := { s with toks := s.toks + 1 }) (PySem.strKind_is prog w x t) ho rfl (xEs_keys l) ?_)
  have hi : ((xEs w l).toArray.findIdx? fun e => (PySem.strKind prog w).is x e.key) = none := by
    refine Array.findIdx?_eq_none_iff.mpr fun e he => ?_
    obtain ⟨p, hp, rfl⟩ := List.mem_map.mp (List.mem_toArray.mp he)
    have : p.1 ≠ x := fun e => hx (List.mem_map.mpr ⟨p, hp, e⟩)
    exact (KeyKind.is_eq_decide (PySem.strKind_is prog w p.1 p.2.1) x).trans (decide_eq_false (Ne.symm this)) 
  rw [hi]
  have hs : (xEs w l).toArray.size ≤ sizeLine := by rw [sizeLine_eq]; simp [xEs]; omega
  refine wpAny_bind (wpAny_rule (wpAny_updateDictKeys (hz := hs) (s := { s with toks := s.toks + 1 }) ho rfl (hQ _ ?_ (Heap.SameBut.update ..))))
  have e := Heap.get?_update_self (a := d) (Obj.mapDictKeys (·.push ⟨(PySem.strKind prog w).hash x, .str x t, v⟩)) ho rfl
  rw [e]
  simp [xd, xEs, Obj.mapDictKeys]
  rfl

theorem x_storeAll {d : Addr} : ∀ (more l : List (Str × Tok × Value)) (n : Nat) (s : Shared) (Q : PUnit → Shared → Prop), s.heap.get? d = some (xd w l n) → ((l ++ more).map (·.1)).Nodup → (l ++ more).length ≤ 100 →
    (∀ h', h'.get? d = some (xd w (l ++ more) (n + more.length)) → Heap.SameBut d s.heap h' → Q PUnit.unit { s with heap := h', toks := s.toks + more.length }) →
    wpAny (model prog w) A (storeAll d (xVals more)) Q E s
  | [], l, n, s, Q, ho, _, _, hQ => by
    unfold storeAll
    show wpAny _ _ (forIn [] PUnit.unit _) Q E s
    rw [List.forIn_nil]
    exact wpAny_pure (by simpa using hQ s.heap (by simpa using ho) (Heap.SameBut.refl _ _))
  | p :: more, l, n, s, Q, ho, hn, hz, hQ => by
    obtain ⟨x, t, v⟩ := p
    unfold storeAll
    show wpAny _ _ (forIn ((.str x t, v) :: xVals more) PUnit.unit _) Q E s
    rw [List.forIn_cons]
    have hx : x ∉ l.map (·.1) := by
      intro h
      rw [List.map_append, List.nodup_append] at hn
      exact hn.2.2 x h x (List.mem_cons_self ..) rfl
    refine wpAny_bind (wpAny_bind (x_dictSet ho hx (by simp at hz; omega) fun h₁ ho₁ hs₁ => wpAny_pure ?_))
    refine x_storeAll more (l ++ [(x, t, v)]) (n + 1) _ Q ho₁ (by simpa using hn) (by simpa using hz) fun h' ho' hs' => ?_
    have := hQ h' (by simpa [Nat.add_assoc, Nat.add_comm 1] using ho') (hs₁.trans hs')
    simpa [Nat.add_assoc, Nat.add_comm 1] using this

/-- the display, as the walk meets it behind the pairs -/
theorem x_made {h₀ h : Heap} {L : Addr} {m : Str → Option Value} {news : List (Addr × Obj)} {vs : List (Value × Value)} (l : List (Str × Tok × Value)) {g dr tk os} {P : PUnit → Shared → Prop}
    (F : Fr h₀ L h m) (N : News h₀ L h news) (hbig : h₀.NoLimit) (hv : vs = xVals l) (hn : (l.map (·.1)).Nodup) (hz : l.length ≤ 100)
    (k : ∀ h', Fr h₀ L h' m → News h₀ L h' ((h.objs.size, xd w l l.length) :: news) → (∀ p ∈ news, p.1 < h.objs.size) → (h.objs.size == sysModules) = false → (∀ p ∈ news, p.1 ≠ h.objs.size) →
      P PUnit.unit ⟨h', g, dr, tk + l.length, os⟩) :
    wpAny (model prog w) A (storeAll h.objs.size vs) P E ⟨h.push { cls := .type "dict", data := .dict #[] }, g, dr, tk, os⟩ := by
  subst hv
  have ho : (h.push { cls := .type "dict", data := .dict #[] }).get? h.objs.size = some (xd w [] 0) := Heap.get?_push_size _ rfl
  refine x_storeAll l [] 0 _ _ ho (by simpa using hn) (by simpa using hz) fun h' ho' hs' => ?_
  have ho2 : h'.get? h.objs.size = some (xd w l l.length) := by simpa using ho'
  have F1 := F.push (o := { cls := .type "dict", data := .dict #[] })
  have F2 : Fr h₀ L h' m := F1.change hs' (fun e => absurd F.ns.lt (e ▸ Nat.lt_irrefl _)) (next_is_new F)
  have N1 : News h₀ L (h.push { cls := .type "dict", data := .dict #[] }) news := fun p hp => ⟨Heap.get?_push_of_some _ (N p hp).1, (N p hp).2⟩
  have N2 : News h₀ L h' news := fun p hp => ⟨hs'.extBut p.1 p.2 (fun e => absurd (Heap.lt_size (N p hp).1) (e ▸ Nat.lt_irrefl _)) (N1 p hp).1, (N p hp).2⟩
  refine k h' F2 ?_ (fun p hp => Heap.lt_size (N p hp).1) (F.notModules (modules_low hbig)) N.apart
  intro p hp
  rcases List.mem_cons.mp hp with rfl | hp
  · exact ⟨ho2, (fun e => absurd F.ns.lt (by rw [← e]; exact Nat.lt_irrefl _)), next_is_new F⟩
  · exact N2 p hp
end
end Mine
end
section
theorem Mine.fresh_E2 : True := by
  w_top off
  trivial
open PySem PySem.W PyProof.Rows PyProof.V PySem.Spec PySem.Calls
set_option Elab.async false
set_option maxRecDepth 100000
set_option maxHeartbeats 8000000
namespace Mine
section
variable {prog : Program} {w : World} {A : Around} {E : Value → Shared → Prop} {s : Shared}

/-- one item of an items iterator, with the entry's very key -/
theorem x_next {it d : Addr} {i ep : Nat} {es : Array DictEntry} {e : DictEntry} {ok ov : Value} {Q : Option Value → Shared → Prop} (hit : IsItemIter s.heap it d i es.size ep ok ov)
    (ho : s.heap.get? d = some { cls := .type "dict", data := .dict es ep }) (he : es[i]? = some e)
    (hQ : ∀ h', IsItemIterOut h' it d (i + 1) es.size ep e.key e.val s.heap.objs.size →
      h'.get? s.heap.objs.size = some { cls := .type "tuple", data := .seq #[e.key, e.val] } →
      (∀ b o, b ≠ it → s.heap.get? b = some o → h'.get? b = some o) → Q (some (.ref s.heap.objs.size)) { s with heap := h' }) :
    wpAny (model prog w) A (pyNext (.ref it)) Q E s := by
  obtain ⟨hp, g, dr, tk, os⟩ := s
  have hT : Shared.TypeIs ⟨hp, g, dr, tk, os⟩ (.ref it) "dict_itemiterator" := ⟨_, hit, rfl⟩
  have hil : it < hp.objs.size := Heap.lt_size hit
  obtain ⟨hlt, rfl⟩ : ∃ h : i < es.size, es[i] = e := Array.getElem?_eq_some_iff.mp he
  unfold pyNext
  refine wpAny_bind (wpAny_attempt (wpAny_callSpecial?_slot (name := Str.ofString "__next__") hT F.slot_dict_itemiterator_next
    (wpAny_call_entry F.slot_dict_itemiterator_next hT F.entry_dict_itemiterator_next ?_ (F.args_dict_itemiterator_next_1 _))))
  refine wpAny_bind (wpAny_pure ?_)
  refine wpAny_bind ?_
  refine wpAny_bind ?_
  first | refine wpAny_bind (wpAny_typeNameOfWhole_itemiter hT (wpAny_pure ?_)) | refine wpAny_bind (wpAny_typeNameOf_itemiter hT (wpAny_pure ?_))
  refine wpAny_bind (wpAny_fieldsOf hit rfl ?_)
  simp only [show Builtin.Dict_items.ownsTuple "dict_itemiterator" = true by decide, if_true]
  show wpAny _ _ (if (Value.ref d == Value.none) = true then _ else _) _ _ _
  rw [if_neg (show ¬ ((Value.ref d == Value.none) = true) from Bool.false_ne_true)]
  refine wpAny_bind (wpAny_pure ?_)
  refine wpAny_bind (wpAny_dictEntries ho rfl ?_)
  rw [if_neg (by simp)]
  refine wpAny_bind (wpAny_pure ?_)
  refine wpAny_bind (wpAny_dictEpoch ho rfl ?_)
  rw [if_neg (by simp)]
  refine wpAny_pure ?_
  simp only [show ¬ ((i : Int) < 0) from by omega, if_false, Int.toNat_natCast, Array.getElem?_eq_getElem hlt]
  refine wpAny_bind ?_
  first | refine wpAny_bind (wpAny_typeNameOfWhole_itemiter hT (wpAny_pure ?_)) | refine wpAny_bind (wpAny_typeNameOf_itemiter hT (wpAny_pure ?_))
  refine wpAny_bind (wpAny_isOneOf_itemiter hT ?_)
  show wpAny _ _ (setField (.ref it) 3 (rawInt ((i : Int) + 1)) >>= _) _ _ ⟨hp, g, dr, tk, os⟩
  refine wpAny_bind (wpAny_setField_rec hit (by simp) fun h₁ he₁ hs₁ => ?_)
  replace hs₁ : Heap.SameBut it hp h₁ := hs₁
  replace he₁ : IsItemIter h₁ it d (i + 1) es.size ep ok ov := by
    unfold IsItemIter; rw [show ((i + 1 : Nat) : Int) = (i : Int) + 1 by omega]; simpa [rawInt] using he₁
  have hT₁ : Shared.TypeIs ⟨h₁, g, dr, tk, os⟩ (.ref it) "dict_itemiterator" := ⟨_, he₁, rfl⟩
  refine wpAny_bind (wpAny_holding ?_)
  refine wpAny_bind (wpAny_isOneOf_itemiter hT₁ ?_)
  refine wpAny_bind (wpAny_isOneOf_itemiter hT₁ ?_)
  show wpAny _ _ (Builtin.Dict_items.pairFromOwner (.ref it) 6 es[i].key es[i].val) _ _ ⟨h₁, g, dr, tk, os⟩
  unfold Builtin.Dict_items.pairFromOwner
  refine wpAny_bind (wpAny_newTuple ?_)
  have he₂ : IsItemIter (h₁.push { cls := .type "tuple", data := .seq #[es[i].key, es[i].val] }) it d (i + 1) es.size ep ok ov := Heap.get?_push_of_some _ he₁
  have hz₁ : h₁.objs.size = hp.objs.size := hs₁.1
  have ht₂ : (h₁.push { cls := .type "tuple", data := .seq #[es[i].key, es[i].val] }).get? hp.objs.size = some { cls := .type "tuple", data := .seq #[es[i].key, es[i].val] } := by rw [← hz₁]; exact Heap.get?_push_size _ rfl
  have hk₂ : ∀ b o, b ≠ it → hp.get? b = some o → (h₁.push { cls := .type "tuple", data := .seq #[es[i].key, es[i].val] }).get? b = some o := fun b o hb e => Heap.get?_push_of_some _ (hs₁.extBut b o hb e)
  generalize h₁.push { cls := .type "tuple", data := .seq #[es[i].key, es[i].val] } = h₂ at he₂ ht₂ hk₂
  show wpAny _ _ (Builtin.Dict_items.ownedTupleIsFree (.ref it) >>= _) _ _ ⟨h₂, g, dr, tk, os⟩
  rw [hz₁]
  clear he₁ hs₁ hT₁ hz₁ h₁
  refine wpAny_bind ?_
  unfold Builtin.Dict_items.ownedTupleIsFree
  refine wpAny_bind (wpAny_field he₂ rfl (x := .none) rfl (wpAny_pure ?_))
  simp only [if_true]
  refine wpAny_bind (wpAny_field he₂ rfl (x := ok) rfl ?_)
  refine wpAny_bind (wpAny_field he₂ rfl (x := ov) rfl ?_)
  refine wpAny_bind (wpAny_setField_rec he₂ (by simp) fun h₃ he₃ hs₃ => ?_)
  replace hs₃ : Heap.SameBut it h₂ h₃ := hs₃
  replace he₃ : IsItemIter h₃ it d (i + 1) es.size ep es[i].key ov := he₃
  refine wpAny_bind (wpAny_setField_rec he₃ (by simp) fun h₄ he₄ hs₄ => ?_)
  replace hs₄ : Heap.SameBut it h₃ h₄ := hs₄
  replace he₄ : IsItemIter h₄ it d (i + 1) es.size ep es[i].key es[i].val := he₄
  refine wpAny_bind (wpAny_setField_rec he₄ (by simp) fun h₅ he₅ hs₅ => ?_)
  replace hs₅ : Heap.SameBut it h₄ h₅ := hs₅
  replace he₅ : IsItemIterOut h₅ it d (i + 1) es.size ep es[i].key es[i].val hp.objs.size := he₅
  refine wpAny_bind (wpAny_setField_rec he₅ (by simp) fun h₆ he₆ hs₆ => ?_)
  replace hs₆ : Heap.SameBut it h₅ h₆ := hs₆
  replace he₆ : IsItemIterOut h₆ it d (i + 1) es.size ep es[i].key es[i].val hp.objs.size := he₆
  have all : ∀ b o, b ≠ it → h₂.get? b = some o → h₆.get? b = some o := fun b o hb e => hs₆.extBut b o hb (hs₅.extBut b o hb (hs₄.extBut b o hb (hs₃.extBut b o hb e)))
  exact wpAny_bind (wpAny_letGo (wpAny_pure (wpAny_pure ⟨_, rfl, wpAny_pure (hQ h₆ he₆ (all _ _ (Nat.ne_of_gt hil) ht₂) fun b o hb e => all b o hb (hk₂ b o hb e))⟩)))

theorem x_dictAt {h : Heap} {d : Addr} {l : List (Str × Tok × Value)} {n : Nat} (ho : h.get? d = some (xd w l n)) (hn : (l.map (·.1)).Nodup) : h.DictAt (PySem.strKind prog w) d (xKV l) n :=
  ⟨_, _, ho, ⟨rfl, rfl, rfl⟩, rfl, xEs_keys l, xEs_pairs l, by simpa [xKV, Function.comp_def] using hn⟩

/-- the turns over d.items(), with the very keys -/
theorem x_turns {elts : List Expr} {kk : Nat} {pos : Pos} (hh : A.handled = none) (I d : Addr) (hne : d ≠ I) (l : List (Str × Tok × Value)) (ep : Nat) (hn : (l.map (·.1)).Nodup) :
    KTurns prog w A (.Tuple elts kk pos) I [I, d] [I] l.length
      (fun i v h => ∃ T p, v = .ref T ∧ l[i]? = some p ∧ h.IsTuple T #[.str p.1 p.2.1, p.2.2])
      (fun i v h => ∃ T p ok ov, v = .ref T ∧ l[i]? = some p ∧ h.IsTuple T #[.str p.1 p.2.1, p.2.2] ∧ IsItemIterOut h I d (i + 1) l.length ep ok ov T ∧ h.get? d = some (xd w l ep) ∧ T ≠ I)
      (fun i h => (∃ ok ov, IsItemIter h I d i l.length ep ok ov) ∧ h.get? d = some (xd w l ep)) where
  sub := fun b hb => by simp at hb; simp [hb]
  frame := fun i h h' st hk => by
    obtain ⟨⟨ok, ov, he⟩, hm⟩ := st
    exact ⟨⟨ok, ov, hk I (by simp) _ he⟩, hk d (by simp) _ hm⟩
  item := fun i s Q E hi st hQ => by
    obtain ⟨⟨ok, ov, he⟩, hm⟩ := st
    have hsz : (xEs w l).toArray.size = l.length := by simp [xEs]
    refine x_next (es := (xEs w l).toArray) (e := ⟨(hashStr w l[i].1 : Int), .str l[i].1 l[i].2.1, l[i].2.2⟩) (by rw [hsz]; exact he) hm (by simp [xEs, hi]) fun h' ho hT hk => ?_
    rw [hsz] at ho
    exact hQ (.ref s.heap.objs.size) h' s.toks ⟨s.heap.objs.size, l[i], _, _, rfl, by simp [hi], ⟨_, hT, rfl, _, rfl⟩, ho, hk d _ hne hm, Nat.ne_of_gt (Heap.lt_size he)⟩ fun b o hb e => hk b o (fun h => hb (by simp [h])) e
  go := fun i v s Q E hm hQ => by
    obtain ⟨T, p, ok, ov, rfl, hx, hT, ho, hd, hTI⟩ := hm
    refine wpAny_letOwnedTupleGo_items ho fun h' he hs => ?_
    exact hQ h' ⟨T, p, rfl, hx, hT.at fun o e => hs.extBut T o hTI e⟩ ⟨⟨ok, ov, he⟩, hs.extBut d _ hne hd⟩ fun b o hb e => hs.extBut b o (fun h => hb (by simp [h])) e
  done := fun s Q E st hQ => by
    obtain ⟨⟨ok, ov, he⟩, hm⟩ := st
    refine wpAny_pyNext_items_end (knd := PySem.strKind prog w) (kvs := xKV l) hh (by simpa [xKV] using he) (x_dictAt hm hn) (by simp [xKV]) fun h' hx => hQ h' s.toks fun b o hb e => hx b o (fun h => hb (by simp [h])) e

/-- the loop over d.items(): what is left is one turn and the end -/
theorem x_items {env : Env} {h₀ : Heap} {body : List Stmt} {Q : Flow → Shared → Prop} {elts : List Expr} {kk : Nat} {pos : Pos} {d vw : Addr} {l : List (Str × Tok × Value)} {n : Nat} {m₀ : Str → Option Value} {news : List (Addr × Obj)}
    (hh : A.handled = none) (F : Fr h₀ env.locals s.heap m₀) (N : News h₀ env.locals s.heap news) (hvw : ∃ ov, s.heap.get? vw = some ov ∧ ov.cls = .type "dict_items" ∧ ov.data = .fields #[.ref d])
    (ho : s.heap.get? d = some (xd w l n)) (hdL : env.locals ≠ d) (hn : (l.map (·.1)).Nodup) (J : Nat → (Str → Option Value) → List (Addr × Obj) → Prop) (h0 : J 0 m₀ news)
    (step : ∀ I i p m₁ news₁ h₁ tk₁ own T, l[i]? = some p → h₀.get? I = none → I ≠ env.locals → J i m₁ news₁ → (∀ p ∈ news₁, p.1 ∉ [I]) → h₁.IsTuple T #[.str p.1 p.2.1, p.2.2] →
      Fr h₀ env.locals h₁ m₁ → News h₀ env.locals h₁ (own ++ news₁) →
      wpAny (model prog w) A (assign (.Tuple elts kk pos) env (.ref T)) (fun _ s₃ => wpAny (model prog w) A (execs body env)
        (LoopStepV h₀ env.locals [I] own (J (i + 1)) { s with heap := h₁, toks := tk₁ } (fun v s' => Q (.ret v) s') fun s' => Q .next s') E s₃) E { s with heap := h₁, toks := tk₁ })
    (done : ∀ h' tk m' news', Fr h₀ env.locals h' m' → News h₀ env.locals h' news' → J l.length m' news' → Q .next { s with heap := h', toks := tk }) :
    wpAny (model prog w) A (pyIter (.ref vw)) (fun it s₂ => TurnsAt prog w A h₀ env (.Tuple elts kk pos) body Q E it s₂) E s := by
  have hdlt := Heap.lt_size ho
  have hne : d ≠ s.heap.objs.size := Nat.ne_of_lt hdlt
  have hat : s.heap.DictAt (PySem.strKind prog w) d (xKV l) n := x_dictAt ho hn
  refine wpAny_pyIter_items hvw hat ?_
  refine ⟨s.heap.objs.size, [s.heap.objs.size, d], [s.heap.objs.size], l.length, _, _, _, m₀, news, J, rfl, x_turns hh s.heap.objs.size d hne l n hn, ?_, ?_, ?_, ⟨⟨.none, .none, ?_⟩, Heap.get?_push_of_some _ ho⟩, F.push _, (fun p hp => ⟨Heap.get?_push_of_some _ (N p hp).1, (N p hp).2⟩), h0, ?_, ?_⟩
  · intro hI
    have hb' : env.locals = s.heap.objs.size ∨ env.locals = d := by simpa using hI
    rcases hb' with e | e
    · exact absurd F.ns.lt (e ▸ Nat.lt_irrefl _)
    · exact hdL e
  · intro b hb
    rw [List.mem_singleton.mp hb]
    exact next_is_new F
  · intro p hp hI
    exact absurd (Heap.lt_size (N p hp).1) ((List.mem_singleton.mp hI) ▸ Nat.lt_irrefl _)
  · have e : (xKV l).length = l.length := by simp [xKV]
    rw [e]
    exact Heap.get?_push_size _ rfl
  · rintro i v m₁ news₁ h₁ tk₁ own hi ⟨T, p, rfl, hx, hT⟩ hJ ha _ _ _ _ F₁ N₁
    exact step _ i p m₁ news₁ h₁ tk₁ own T hx (next_is_new F) (fun e => absurd F.ns.lt (e ▸ Nat.lt_irrefl _)) hJ ha hT F₁ N₁
  · exact fun h' tk m' news' F' N' _ hJ => done h' tk m' news' F' N' hJ
end
end Mine
end
section
theorem Mine.fresh_E2b : True := by
  w_top off
  trivial
open PySem PySem.W PyProof.Rows PyProof.V PySem.Spec PySem.Calls
set_option Elab.async false
set_option maxRecDepth 100000
set_option maxHeartbeats 8000000
namespace Mine
/-- a pair of a table: what is sought, its token, what is put, its token -/
abbrev Rp := Str × Tok × Str × Tok
abbrev Rp.ent (p : Rp) : Str × Tok × Value := (p.1, p.2.1, .str p.2.2.1 p.2.2.2)
abbrev Rp.rep (x : Str) (p : Rp) : Str := Txt.replace x p.1 p.2.2.1
def RpOk : Str → List Rp → Prop
  | _, [] => True
  | x, p :: r => (p.2.1 ≠ 0 ∧ p.2.2.2 ≠ 0 ∧ p.2.1 ≠ p.2.2.2 ∧ (p.1 == p.2.2.1) = false ∧ x.length + (x.length + 1) * p.2.2.1.length ≤ 16777216) ∧ RpOk (Rp.rep x p) r
theorem RpOk.at : ∀ {l : List Rp} {x : Str} {i : Nat} {p : Rp}, RpOk x l → l[i]? = some p →
    (p.2.1 ≠ 0 ∧ p.2.2.2 ≠ 0 ∧ p.2.1 ≠ p.2.2.2 ∧ (p.1 == p.2.2.1) = false ∧ ((l.take i).foldl Rp.rep x).length + (((l.take i).foldl Rp.rep x).length + 1) * p.2.2.1.length ≤ 16777216)
  | [], _, _, _, _, h => by simp at h
  | q :: r, x, 0, p, ok, h => by
    obtain rfl : q = p := by simpa using h
    exact ok.1
  | q :: r, x, i + 1, p, ok, h => by
    have := RpOk.at ok.2 (i := i) (p := p) (by simpa using h)
    simpa using this
theorem take_rep {l : List Rp} {x : Str} {i : Nat} {p : Rp} (h : l[i]? = some p) : (l.take (i + 1)).foldl Rp.rep x = Rp.rep ((l.take i).foldl Rp.rep x) p := by
  simp [List.take_add_one, h, List.foldl_append]
end Mine
end
section
theorem Mine.fresh_E4 : True := by
  w_top off
  trivial
open PySem PySem.W PyProof.Rows PyProof.V PySem.Spec PySem.Calls
set_option Elab.async false
set_option maxRecDepth 100000
set_option maxHeartbeats 8000000
namespace Mine
section
variable {prog : Program} {w : World} {A : Around} {E : Value → Shared → Prop} {s : Shared} {h₀ : Heap} {L : Addr} {m : Str → Option Value} {news : List (Addr × Obj)} {env : Env}
/-- a display of six pairs of constant texts, with its very keys -/
theorem dict6 {k1 v1 k2 v2 k3 v3 k4 v4 k5 v5 k6 v6 : Str} {a1 b1 a2 b2 a3 b3 a4 b4 a5 b5 a6 b6} {p1 q1 p2 q2 p3 q3 p4 q4 p5 q5 p6 q6 pos : Pos} {Q : Value → Shared → Prop} (F : Fr h₀ L s.heap m) (N : News h₀ L s.heap news) (hbig : h₀.NoLimit) (hn : [k1, k2, k3, k4, k5, k6].Nodup)
    (k : ∀ h' D, Fr h₀ L h' m → News h₀ L h' ((D, xd w [(k1, s.toks, .str v1 (s.toks + 1)), (k2, s.toks + 2, .str v2 (s.toks + 3)), (k3, s.toks + 4, .str v3 (s.toks + 5)), (k4, s.toks + 6, .str v4 (s.toks + 7)), (k5, s.toks + 8, .str v5 (s.toks + 9)), (k6, s.toks + 10, .str v6 (s.toks + 11))] 6) :: news) → (D == sysModules) = false → (∀ p ∈ news, p.1 < D) → Q (.ref D) { s with heap := h', toks := s.toks + 18 }) :
    wpAny (model prog w) A (eval (.Dict [some (.Constant (.str k1) a1 p1), some (.Constant (.str k2) a2 p2), some (.Constant (.str k3) a3 p3), some (.Constant (.str k4) a4 p4), some (.Constant (.str k5) a5 p5), some (.Constant (.str k6) a6 p6)]
      [.Constant (.str v1) b1 q1, .Constant (.str v2) b2 q2, .Constant (.str v3) b3 q3, .Constant (.str v4) b4 q4, .Constant (.str v5) b5 q5, .Constant (.str v6) b6 q6] pos) env) Q E s := by
  refine wpAny_Dict_any rfl rfl (by simp) (by simp) ?_
  refine pairTrees_cons_walk ?_
  repeat walk1
  refine x_made [(k1, s.toks, .str v1 (s.toks + 1)), (k2, s.toks + 2, .str v2 (s.toks + 3)), (k3, s.toks + 4, .str v3 (s.toks + 5)), (k4, s.toks + 6, .str v4 (s.toks + 7)), (k5, s.toks + 8, .str v5 (s.toks + 9)), (k6, s.toks + 10, .str v6 (s.toks + 11))] F N hbig rfl (by simpa using hn) (by simp) fun h' F' N' hlt hs _ => ?_
  exact k h' _ F' N' hs hlt
end
end Mine
end
section
theorem Mine.fresh_C1 : True := by
  w_top off
  trivial
open PySem PySem.W PyProof.Rows PyProof.V PySem.Spec PySem.Calls PyProof.Rows.LCg
set_option Elab.async false
set_option maxRecDepth 100000
set_option maxHeartbeats 8000000
namespace Mine
section
variable {prog : Program} {w : World} {A : Around} {E : Value → Shared → Prop} {s : Shared} {h₀ : Heap} {L : Addr} {m : Str → Option Value} {env : Env}

def GoX (prog : Program) (w : World) (A : Around) (h₀ : Heap) (L : Addr) (m : Str → Option Value) (env : Env) (elt : Expr) (x : Str) (scope : Scope) (cl : List (Str × Addr)) (Fin : Shared → List Value → List (Addr × Obj) → Prop) (it : Value) (s₂ : Shared) : Prop :=
  ∃ (I : Addr) (fp : List Addr) (n : Nat) (P : Nat → Value → Prop) (St : Nat → Heap → Prop) (S : List (Addr × Obj) → Prop) (news : List (Addr × Obj)), it = .ref I ∧ Walks prog w A I fp [I] n P St ∧ n ≤ sizeLine ∧ (∀ i h, St i h → ∃ o, h.get? I = some o) ∧
    (∀ i h h' o nw, St i h → h.get? I = some o → h'.get? I = some o → (∀ b o, h₀.get? b = some o → h'.get? b = some o) → News h₀ L h' nw → S nw → St i h') ∧ St 0 s₂.heap ∧ (∀ b ∈ fp, b < s₂.heap.objs.size) ∧
    Fr h₀ L s₂.heap m ∧ News h₀ L s₂.heap news ∧ L ≠ I ∧ h₀.get? I = none ∧ (∀ p ∈ news, p.1 ≠ I) ∧ S news ∧ CompRest prog w A h₀ L m env elt x scope cl s₂ S P (Fin s₂) n 0 [] news

theorem ListComp_X {elt iter : Expr} {x : Str} {px : Pos} {scope : Scope} {cl : List (Str × Addr)} {pos : Pos} {Q : Value → Shared → Prop} (_F₀ : Fr h₀ L s.heap m)
    (hclos : closureFor scope env = pure cl) (hcell : ∀ y ∈ scope.names, y.2 ≠ .cell) (hkind : scope.kind = .function)
    (hnames : ∀ y ∈ scope.names, y.2 = .local → scope.names.lookup y.1 = some .local) (hx : scope.names.lookup x = some .local)
    (h : wpAny (model prog w) A (eval iter env) (fun xv s₁ => wpAny (model prog w) A (pyIter xv) (GoX prog w A h₀ L m env elt x scope cl (fun s₂ => FinE h₀ L m s₂ Q)) E s₁) E s)
    (hs : ∀ x, foldedSetIterable iter env x = pure x := by intro _; rfl) :
    wpAny (model prog w) A (eval (.ListComp elt [⟨.Name x px, iter, [], 0⟩] scope pos) env) Q E s := by
  rw [eval_ListComp]
  refine wpAny_comprehension_free (use := none) rfl hs hclos hkind hnames (wpAny_mono h (fun xv s₁ h₁ => wpAny_mono h₁ (fun it s₂ h₂ => ?_) fun _ _ e => e) fun _ _ e => e)
  obtain ⟨I, fp, n, P, St, S, news, rfl, W, hsz, hIo, hSt, hst, hfp, F, N, hIL, hI₀, off, hS, R⟩ := h₂
  refine block_U W hsz hIo hSt hcell hkind hx hst hfp F N hIL hI₀ off hS R ?_
  intro D C h tk m' ys news' F' N' o1 hn hC₀ hD₀ hCL hDL hCD offC fin
  refine ⟨m', hn, fun h'' hs'' => fin D h'' tk (F'.change hs'' hCL hC₀) (fun p hp => ?_) o1⟩
  refine ⟨hs''.extBut _ _ ?_ (N' p hp).1, (N' p hp).2⟩
  rcases List.mem_cons.mp hp with rfl | hp
  · exact Ne.symm hCD
  · exact offC p hp

theorem Assign_ListComp_X {elt iter : Expr} {x y : Str} {px py : Pos} {scope : Scope} {cl : List (Str × Addr)} {pos spos : Pos} {Q : Flow → Shared → Prop} (_F₀ : Fr h₀ L s.heap m) (hLe : env.locals = L)
    (hsw : swapsWith (.ListComp elt [⟨.Name x px, iter, [], 0⟩] scope pos) (some (.Name y py)) spos.line env = pure true)
    (hclos : closureFor scope env = pure cl) (hcell : ∀ z ∈ scope.names, z.2 ≠ .cell) (hkind : scope.kind = .function)
    (hnames : ∀ z ∈ scope.names, z.2 = .local → scope.names.lookup z.1 = some .local) (hx : scope.names.lookup x = some .local)
    (hy : env.kindOf y = some .local) (hp : (env.scope.kind == .class || (env.scope.kind == .module && env.locals != env.globals)) = false)
    (h : wpAny (model prog w) A (eval iter env) (fun xv s₁ => wpAny (model prog w) A (pyIter xv) (GoX prog w A h₀ L m env elt x scope cl (fun s₂ => FinA h₀ L m s₂ y Q)) E s₁) E s)
    (hs : ∀ x, foldedSetIterable iter env x = pure x := by intro _; rfl) :
    wpAny (model prog w) A (exec (.Assign [.Name y py] (.ListComp elt [⟨.Name x px, iter, [], 0⟩] scope pos) spos) env) Q E s := by
  subst hLe
  rw [exec_Assign_Name_used _ _ _ _ hsw]
  refine wpAny_bind (wpAny_standAt (wpAny_bind ?_))
  show wpAny _ A (do let _ ← comprehension (.ListComp elt [⟨.Name x px, iter, [], 0⟩] scope pos) scope env _ (newList []) false (eval iter env) (some (assign (.Name y py) env))) _ _ s
  refine wpAny_bind (wpAny_mono (wpAny_comprehension_free (use := some (assign (.Name y py) env)) (Q := fun _ s' => Q .next s') rfl hs hclos hkind hnames
    (wpAny_mono h (fun xv s₁ h₁ => wpAny_mono h₁ (fun it s₂ h₂ => ?_) fun _ _ e => e) fun _ _ e => e)) (fun _ s' hq => wpAny_pure (wpAny_pure hq)) fun _ _ e => e)
  obtain ⟨I, fp, n, P, St, S, news, rfl, W, hsz, hIo, hSt, hst, hfp, F, N, hIL, hI₀, off, hS, R⟩ := h₂
  refine block_U W hsz hIo hSt hcell hkind hx hst hfp F N hIL hI₀ off hS R ?_
  intro D C h' tk m' ys news' F' N' o1 hn hC₀ hD₀ hCL hDL hCD offC fin
  show wpAny _ A (assign (.Name y py) env (.ref D)) _ _ _
  refine wpAny_assign_Name (wpAny_storeName_local hy F'.ns (fun h₂ hn₂ hs₂ => ?_) hp)
  have hL₀ : h₀.get? env.locals = none := Heap.get?_none_of_le F'.above
  have F₂ : Fr h₀ env.locals h₂ (fun z => if z = y then some (.ref D) else m z) := ⟨hn₂, fun b o e => hs₂.extBut b o (fun q => by rw [q, hL₀] at e; cases e) (F'.keep b o e), F'.above⟩
  refine ⟨m', hn.sameBut hs₂ hCL, fun h'' hs'' => fin D h'' _ (F₂.change hs'' hCL hC₀) (fun p hp => ?_) o1⟩
  have z : h₂.get? p.1 = some p.2 := hs₂.extBut _ _ (N' p hp).2.1 (N' p hp).1
  refine ⟨hs''.extBut _ _ ?_ z, (N' p hp).2⟩
  rcases List.mem_cons.mp hp with rfl | hp
  · exact Ne.symm hCD
  · exact offC p hp

/-- one element, the same words for each -/
def ElStep (prog : Program) (w : World) (A : Around) (h₀ : Heap) (L : Addr) (m : Str → Option Value) (env : Env) (elt : Expr) (x : Str) (scope : Scope) (cl : List (Str × Addr)) (s : Shared) (news : List (Addr × Obj)) (n : Nat) (P R : Nat → Value → Prop) : Prop :=
  ∀ i v I oI C oC D ys m₂ h tk (E' : Value → Shared → Prop), i < n → P i v → NsObj oC m₂ → m₂ x = some v → Fr h₀ L h m → News h₀ L h ((I, oI) :: (C, oC) :: (D, lst ys) :: news) → Off3 I C D news → ((@Ne Nat I C) ∧ (@Ne Nat I D) ∧ (@Ne Nat C D)) →
    wpAny (model prog w) A (eval elt (compEnvC scope cl C env)) (fun y s₂ => ∃ h' tk', s₂ = { s with heap := h', toks := tk' } ∧ Fr h₀ L h' m ∧ News h₀ L h' ((I, oI) :: (C, oC) :: (D, lst ys) :: news) ∧ R i y) E' { s with heap := h, toks := tk }

theorem rest_of {elt : Expr} {x : Str} {scope : Scope} {cl : List (Str × Addr)} {S : List (Addr × Obj) → Prop} {P R : Nat → Value → Prop} {Fin : List Value → List (Addr × Obj) → Prop} {news : List (Addr × Obj)} {n : Nat} {s₂ : Shared}
    (hs : ∃ g, s₂ = { s with heap := g }) (hS : S news) (step : ElStep prog w A h₀ L m env elt x scope cl s news n P R) (fin : ∀ ys : List Value, ys.length = n → (∀ i y, ys[i]? = some y → R i y) → Fin ys news) :
    ∀ (k i : Nat) (ys : List Value), i + k = n → ys.length = i → (∀ j y, ys[j]? = some y → R j y) → CompRest prog w A h₀ L m env elt x scope cl s₂ S P Fin k i ys news
  | 0, i, ys, hk, hy, hR => CompRest.zero (fin ys (by omega) hR)
  | k + 1, i, ys, hk, hy, hR => by
    obtain ⟨g, rfl⟩ := hs
    refine CompRest.succ fun v I oI C oC D m₂ h tk E' hP hoC hv F N off hne => ?_
    refine wpAny_mono (step i v I oI C oC D ys m₂ h tk E' (by omega) hP hoC hv F N off hne) (fun y s₃ h₃ => ?_) fun _ _ e => e
    obtain ⟨h', tk', rfl, F', N', r⟩ := h₃
    refine CompEnd.intro F' N' news (fun p hp => hp) off hS (rest_of ⟨g, rfl⟩ hS step fin k (i + 1) (ys ++ [y]) (by omega) (by simp [hy]) fun j z hz => ?_)
    rcases Nat.lt_or_ge j ys.length with hj | hj
    · rw [List.getElem?_append_left hj] at hz; exact hR j z hz
    · rw [List.getElem?_append_right hj] at hz
      cases hjj : j - ys.length with
      | zero => rw [hjj] at hz; obtain rfl : y = z := by simpa using hz
                have : j = i := by omega
                exact this ▸ r
      | succ q => rw [hjj] at hz; simp at hz

section
variable {elt : Expr} {x : Str} {scope : Scope} {cl : List (Str × Addr)} {R : Nat → Value → Prop} {Fin : Shared → List Value → List (Addr × Obj) → Prop} {news : List (Addr × Obj)}

theorem go_str {y : Str} {t : Tok} (hh : A.handled = none) (F : Fr h₀ L s.heap m) (N : News h₀ L s.heap news) (hsz : y.cps.size ≤ sizeLine) (step : ElStep prog w A h₀ L m env elt x scope cl s news y.cps.size (SignAt y) R)
    (fin : ∀ g (ys : List Value), ys.length = y.cps.size → (∀ i v, ys[i]? = some v → R i v) → Fin { s with heap := g } ys news) :
    wpAny (model prog w) A (pyIter (.str y t)) (GoX prog w A h₀ L m env elt x scope cl Fin) E s := by
  refine wpAny_pyIter_strU ?_
  have up : ∀ b o, s.heap.get? b = some o → (s.heap.push { cls := .type (strIterType y), data := .fields #[.str y t, .int 0 0] }).get? b = some o := fun b o e => Heap.get?_push_of_some _ e
  have base : ∀ (St : Nat → Heap → Prop), Walks prog w A s.heap.objs.size [s.heap.objs.size] [s.heap.objs.size] y.cps.size (SignAt y) St → (∀ i h, St i h → ∃ o, h.get? s.heap.objs.size = some o) →
      (∀ i (h h' : Heap) o, St i h → h.get? s.heap.objs.size = some o → h'.get? s.heap.objs.size = some o → St i h') → St 0 (s.heap.push { cls := .type (strIterType y), data := .fields #[.str y t, .int 0 0] }) →
      GoX prog w A h₀ L m env elt x scope cl Fin (.ref s.heap.objs.size) { s with heap := s.heap.push { cls := .type (strIterType y), data := .fields #[.str y t, .int 0 0] } } := by
    intro St W hIo hSt hst
    refine ⟨s.heap.objs.size, _, y.cps.size, _, St, fun _ => True, news, rfl, W, hsz, hIo, fun i h h' o nw a b c _ _ _ => hSt i h h' o a b c, hst, fun b hb => ?_, F.keeps up, N.grown up, Nat.ne_of_lt F.ns.lt, next_is_new F, fun p hp => Nat.ne_of_lt (Heap.lt_size (N p hp).1), trivial,
      rest_of ⟨_, rfl⟩ trivial step (fun ys a b => fin _ ys a b) _ 0 [] (by omega) rfl (by simp)⟩
    rw [List.mem_singleton.mp hb, Heap.size_push]; exact Nat.lt_succ_self _
  have hself : (s.heap.push { cls := .type (strIterType y), data := .fields #[.str y t, .int 0 0] }).get? s.heap.objs.size = some { cls := .type (strIterType y), data := .fields #[.str y t, .int 0 0] } := Heap.get?_push_size _ rfl
  cases ha : y.cps.all (· < 128)
  · exact base _ (Walks.strWide hh _ y t) (fun i h st => let ⟨o, e, _⟩ := st; ⟨o, e⟩) (fun i h h' o st e e' => by obtain ⟨o', q, r⟩ := st; rw [e] at q; cases q; exact ⟨o, e', r⟩) ⟨_, hself, by simp [strIterType, ha], rfl⟩
  · exact base _ (Walks.strAscii hh _ y t) (fun i h st => let ⟨o, e, _⟩ := st; ⟨o, e⟩) (fun i h h' o st e e' => by obtain ⟨o', q, r⟩ := st; rw [e] at q; cases q; exact ⟨o, e', r⟩) ⟨_, hself, by simp [strIterType, ha], rfl⟩

theorem go_bytes {b : Array UInt8} {t : Tok} (hh : A.handled = none) (F : Fr h₀ L s.heap m) (N : News h₀ L s.heap news) (hsz : b.size ≤ sizeLine) (step : ElStep prog w A h₀ L m env elt x scope cl s news b.size (fun i v => ∃ c u, b[i]? = some c ∧ v = .int (c.toNat : Int) u) R)
    (fin : ∀ g (ys : List Value), ys.length = b.size → (∀ i v, ys[i]? = some v → R i v) → Fin { s with heap := g } ys news) :
    wpAny (model prog w) A (pyIter (.bytes b t)) (GoX prog w A h₀ L m env elt x scope cl Fin) E s := by
  refine KBw.pyIter_bytes ?_
  refine ⟨s.heap.objs.size, _, b.size, _, _, fun _ => True, news, rfl, KBw.walks hh s.heap.objs.size b t, hsz, (fun i h st => let ⟨o, e, _⟩ := st; ⟨o, e⟩), (fun i h h' o nw st e e' _ _ _ => by obtain ⟨o', q, r⟩ := st; rw [e] at q; cases q; exact ⟨o, e', r⟩), ⟨_, Heap.get?_push_size _ rfl, rfl, rfl⟩, (fun b hb => ?_),
    F.keeps (fun b o e => Heap.get?_push_of_some _ e), N.grown (fun b o e => Heap.get?_push_of_some _ e), Nat.ne_of_lt F.ns.lt, next_is_new F, (fun p hp => Nat.ne_of_lt (Heap.lt_size (N p hp).1)), trivial, rest_of ⟨_, rfl⟩ trivial step (fun ys a b => fin _ ys a b) _ 0 [] (by omega) rfl (by simp)⟩
  rw [List.mem_singleton.mp hb, Heap.size_push]; exact Nat.lt_succ_self _

theorem go_range {r : Addr} {a b : Int} {t u v : Tok} {n : Nat} (hh : A.handled = none) (F : Fr h₀ L s.heap m) (N : News h₀ L s.heap news) (hr : IsRange s.heap r a b 1 t u v) (hsm : Builtin.Range.small a b 1 = true) (hn : Builtin.Range.rangeSize a b 1 = ((n : Nat) : Int)) (hsz : n ≤ sizeLine)
    (step : ElStep prog w A h₀ L m env elt x scope cl s news n (fun i v => ∃ t, v = .int (a + (i : Int)) t) R)
    (fin : ∀ g (ys : List Value), ys.length = n → (∀ i v, ys[i]? = some v → R i v) → Fin { s with heap := g } ys news) :
    wpAny (model prog w) A (pyIter (.ref r)) (GoX prog w A h₀ L m env elt x scope cl Fin) E s := by
  refine wpAny_pyIter_range hr hsm ?_
  refine ⟨s.heap.objs.size, _, n, _, _, fun _ => True, news, rfl, range_walks hh a n, hsz, (fun i h st => ⟨_, st⟩), range_st, (by show IsRangeIter _ _ _ _ _; rw [hn]; simpa using Heap.get?_push_size _ rfl), (fun b hb => ?_),
    F.keeps (fun b o e => Heap.get?_push_of_some _ e), N.grown (fun b o e => Heap.get?_push_of_some _ e), Nat.ne_of_lt F.ns.lt, next_is_new F, (fun p hp => Nat.ne_of_lt (Heap.lt_size (N p hp).1)), trivial, rest_of ⟨_, rfl⟩ trivial step (fun ys a b => fin _ ys a b) _ 0 [] (by omega) rfl (by simp)⟩
  rw [List.mem_singleton.mp hb, Heap.size_push]; exact Nat.lt_succ_self _

theorem go_list {ax : Addr} {its : Array Value} (hh : A.handled = none) (F : Fr h₀ L s.heap m) (N : News h₀ L s.heap news) (hS : SrcAt h₀ ax its news) (hsz : its.size ≤ sizeLine)
    (step : ElStep prog w A h₀ L m env elt x scope cl s news its.size (fun i v => its[i]? = some v) R)
    (fin : ∀ g (ys : List Value), ys.length = its.size → (∀ i v, ys[i]? = some v → R i v) → Fin { s with heap := g } ys news) :
    wpAny (model prog w) A (pyIter (.ref ax)) (GoX prog w A h₀ L m env elt x scope cl Fin) E s := by
  have hl := hS.list F.keep N
  have hlt : ax < s.heap.objs.size := by obtain ⟨_, e, _⟩ := hl; exact Heap.lt_size e
  refine wpAny_pyIter_list hl ?_
  refine ⟨s.heap.objs.size, _, its.size, _, _, SrcAt h₀ ax its, news, rfl, Walks.list hh s.heap.objs.size ax (Nat.ne_of_lt hlt) its, hsz, (fun i h st => by obtain ⟨o, e, _⟩ := st.1; exact ⟨o, e⟩), list_st, ⟨⟨_, Heap.get?_push_size _ rfl, rfl, rfl⟩, hl.push _⟩, (fun b hb => ?_),
    F.keeps (fun b o e => Heap.get?_push_of_some _ e), N.grown (fun b o e => Heap.get?_push_of_some _ e), Nat.ne_of_lt F.ns.lt, next_is_new F, (fun p hp => Nat.ne_of_lt (Heap.lt_size (N p hp).1)), hS, rest_of ⟨_, rfl⟩ hS step (fun ys a b => fin _ ys a b) _ 0 [] (by omega) rfl (by simp)⟩
  show b < (s.heap.push _).objs.size
  rw [Heap.size_push]
  rcases List.mem_cons.mp hb with rfl | hb
  · exact Nat.lt_succ_self _
  · rw [List.mem_singleton.mp hb]; exact Nat.lt_succ_of_lt hlt
end
end
end Mine
end
section
theorem Mine.fresh_C2 : True := by
  w_top off
  trivial
open PySem PySem.W PyProof.Rows PyProof.V PySem.Spec PySem.Calls
set_option Elab.async false
set_option maxRecDepth 100000
set_option maxHeartbeats 4000000
namespace Mine
section
variable {prog : Program} {w : World} {A : Around} {E : Value → Shared → Prop} {s : Shared} {h₀ : Heap} {L : Addr} {m : Str → Option Value} {news : List (Addr × Obj)} {D : Addr} {ys : List Value} {value slice : Expr}
theorem lst_at (N : News h₀ L s.heap news) (hD : (D, LCg.lst ys) ∈ news) : s.heap.IsList D ys.toArray := ⟨_, (N _ hD).1, rfl, _, rfl⟩

/-- a list's rest from a place on -/
theorem list_from {j : Nat} {t : Tok} {Q : Value → Shared → Prop} (F : Fr h₀ L s.heap m) (N : News h₀ L s.heap news) (hD : (D, LCg.lst ys) ∈ news) (hz : ys.length ≤ 1000)
    (h : ∀ h' D' n, Fr h₀ L h' m → News h₀ L h' ((D', { cls := .type "list", data := .seq (ys.drop j).toArray n }) :: news) → Q (.ref D') { s with heap := h' })
    (hs : subscripted slice false (.ref D) (.ref s.heap.objs.size) = operate [.ref s.heap.objs.size, .ref D] (getItem (.ref D) (.ref s.heap.objs.size)) := by with_unfolding_all rfl)
    (ht : ∀ r, letTemporaryGo value (.ref D) r = pure () := by intro _; with_unfolding_all rfl) :
    wpAny (model prog w) A (subscriptTail value slice (.ref D) (.ref s.heap.objs.size)) Q E { s with heap := s.heap.push { cls := .type "slice", data := .fields #[.int (j : Int) t, .none, .none] } } := by
  refine slice_list (hs := hs) (ht := ht) (hsz := by rw [sizeLine_eq, List.size_toArray]; omega) F N (lst_at N hD) (.int _ t) .none fun h' F' N' => ?_
  rw [slicePick_from'] at N'
  exact h h' _ _ F' N'
theorem list_upto {j : Nat} {t : Tok} {Q : Value → Shared → Prop} (F : Fr h₀ L s.heap m) (N : News h₀ L s.heap news) (hD : (D, LCg.lst ys) ∈ news) (hz : ys.length ≤ 1000)
    (h : ∀ h' D' n, Fr h₀ L h' m → News h₀ L h' ((D', { cls := .type "list", data := .seq (ys.take j).toArray n }) :: news) → Q (.ref D') { s with heap := h' })
    (hs : subscripted slice false (.ref D) (.ref s.heap.objs.size) = operate [.ref s.heap.objs.size, .ref D] (getItem (.ref D) (.ref s.heap.objs.size)) := by with_unfolding_all rfl)
    (ht : ∀ r, letTemporaryGo value (.ref D) r = pure () := by intro _; with_unfolding_all rfl) :
    wpAny (model prog w) A (subscriptTail value slice (.ref D) (.ref s.heap.objs.size)) Q E { s with heap := s.heap.push { cls := .type "slice", data := .fields #[.none, .int (j : Int) t, .none] } } := by
  refine slice_list (hs := hs) (ht := ht) (hsz := by rw [sizeLine_eq, List.size_toArray]; omega) F N (lst_at N hD) .none (.int _ t) fun h' F' N' => ?_
  rw [slicePick_upto'] at N'
  exact h h' _ _ F' N'
end
theorem strs_drop : ∀ {vs : List Value} {ss : List Str}, StrsAre vs ss → ∀ k : Nat, StrsAre (vs.drop k) (ss.drop k) := @StrsAre.drop'
theorem strs_take {vs : List Value} {ss : List Str} (h : StrsAre vs ss) : ∀ k : Nat, StrsAre (vs.take k) (ss.take k) := by
  induction h with
  | nil => intro k; simpa using StrsAre.nil
  | cons y t _ ih =>
    intro k
    cases k with
    | zero => exact StrsAre.nil
    | succ k => exact StrsAre.cons y t (ih k)
theorem strs_app {vs ws : List Value} {ss ts : List Str} (h : StrsAre vs ss) (g : StrsAre ws ts) : StrsAre (vs ++ ws) (ss ++ ts) := by
  induction h with
  | nil => exact g
  | cons y t _ ih => exact StrsAre.cons y t ih
theorem joinS_list : ∀ l : List Str, (Str.join (Str.ofString "") l).cps.toList = (l.map fun x => x.cps.toList).flatten
  | [] => rfl
  | [x] => by show x.cps.toList = _; simp
  | x :: y :: r => by
    have ih := joinS_list (y :: r)
    show (x ++ Str.ofString "" ++ Str.join (Str.ofString "") (y :: r)).cps.toList = _
    rw [Str.cps_append, Str.cps_append, Array.toList_append, Array.toList_append, ih]
    simp [show (Str.ofString "").cps.toList = [] by rfl]
theorem join_list_eq (l : List Str) : (Txt.join (Str.ofString "") l).cps.toList = (l.map fun x => x.cps.toList).flatten := by
  show (Builtin.Str.glued (Str.ofString "") l).cps.toList = _
  rw [StrLaws.glued_eq_join]; exact joinS_list l
theorem join_len (l : List Str) : (Txt.join (Str.ofString "") l).length = (l.map (·.length)).sum := by
  have h := congrArg List.length (join_list_eq l)
  rw [List.length_flatten, List.map_map] at h
  show (Txt.join (Str.ofString "") l).cps.size = _
  rw [← Array.length_toList, h]
  congr 1
end Mine
end
section
theorem Mine.fresh_C3 : True := by
  w_top off
  trivial
open PySem PySem.W PyProof.Rows PyProof.V PySem.Spec PySem.Calls
set_option Elab.async false
namespace Mine
theorem mod8 (a : Int) : 0 ≤ a.fmod 8 ∧ a.fmod 8 < 8 := by
  rw [Int.fmod_eq_emod_of_nonneg _ (by decide)]; omega
section
variable {prog : Program} {w : World} {A : Around} {E : Value → Shared → Prop} {s : Shared} {x : Str} {t u : Tok} {value slice : Expr} {Q : Value → Shared → Prop}
/-- one of eight signs, by a remainder -/
theorem item8 {a : Int} (hx : x.length = 8) (h : Q (.str (Txt.item x (a.fmod 8)) s.toks) { s with toks := s.toks + 1 })
    (hs : subscripted slice false (.str x t) (.int (a.fmod 8) u) = operate [.str x t, .int (a.fmod 8) u] (getItem (.str x t) (.int (a.fmod 8) u)) := by with_unfolding_all rfl)
    (ht : ∀ r, letTemporaryGo value (.str x t) r = pure () := by intro _; with_unfolding_all rfl) :
    wpAny (model prog w) A (subscriptTail value slice (.str x t) (.int (a.fmod 8) u)) Q E s :=
  item_str (hs := hs) (ht := ht) (by have := mod8 a; unfold fitsSsize; simp; omega) (by have := mod8 a; omega) (by have := mod8 a; omega) fun _ => h
end
end Mine
end
section
theorem Mine.fresh_Top01 : True := by
  w_top off
  trivial
open PySem PySem.W PyProof.Rows
set_option Elab.async false
set_option maxRecDepth 100000
set_option maxHeartbeats 8000000
namespace Mine
open_top hd01 for PySem.Challenge.rw_kt0002_01
end Mine
end
section
theorem Mine.fresh_L01 : True := by
  w_top off
  trivial
open PySem PySem.W PyProof.Rows
set_option Elab.async false
set_option maxRecDepth 100000
set_option maxHeartbeats 8000000
namespace Mine
noncomputable def hook01 : Hook := kHook hd01.heap_39
        [2, 3, 6, 15, 17, 18, 20, 21, 22, 24, 25, 27, 28, 29, 30, 31, 33, 34, 36, 37, 38, 39, 40, 42, 43, 45, 46, 47,
          49, 50, 52, 53, 54, 57, 58, 59, 62, 63] (fun _ => by kernel_rfl)
theorem left01 : LeftO PySem.Challenge.pw_kt0002_01 hd01.view_39 [Str.ofString "escape", Str.ofString "unescape"] (fun s => xlAt hd01.view_39 [] s && recOk (RowW.records PySem.Challenge.rw_kt0002_01.row.toRowW) s) (Hook.obs hook01) (Hook.val hook01) 900 := by
  intro w; kernel_rfl
end Mine
end
section
theorem Mine.fresh_S01a : True := by
  w_top off
  trivial
open PySem PySem.W PyProof.Rows PySem.Spec PySem.Calls
set_option Elab.async false
set_option maxRecDepth 100000
set_option maxHeartbeats 8000000
namespace Mine
section
variable {w : World} {A A₀ : Around} {s : Shared} {base h₀ : Heap} {outer : List Env} {L : Addr} {m : Str → Option Value} {env : Env} {news : List (Addr × Obj)} {p : Program} {loose : List Str} {mean : ExcName → Option Value} {mg mb : Str → Option Value}
local macro_rules | `(tactic| walk_at "eval Name") => `(tactic| (k_here; k_dflt (refine' ld ?k1 ?k2 ?_; (case k1 => k_asm); (case k2 => first | exact rfl | (repeat (first | assumption | exact if_pos rfl | refine (if_neg (by decide)).trans ?_))); k_whole)))
theorem byteswap01 {data : Array UInt8} {t u : Tok} {wd : Int} {Q E : Value → Shared → Prop}
    (B : Below A₀ base outer h₀) (F : Fr h₀ L s.heap m) (KX : (hd01.heap_39 w.params).In h₀) (N : News h₀ L s.heap news) (T : Top p loose mean mg mb h₀) (hA : A.frames = some (env :: outer)) (hf : env.frame = some L) (hke : env.scope.kind = .function)
    (hz : data.size ≤ 4096) (n wd' : Nat) (hwz : wd' ≤ 4096) (hw0 : 0 < wd') (hwd : wd = (wd' : Int)) (hsz : data.size = n * wd')
    (hroom : A.depth < recursionLimit) (hg : A.guards = some []) (hh : A.handled = none)
    (k : ∀ t' h' tk, Fr h₀ L h' m → News h₀ L h' news → Q (.bytes (swapB data wd') t') { s with heap := h', toks := tk }) :
    wpT (model PySem.Challenge.rw_kt0002_01.row.prog w) A (call (.ref 21) [.bytes data t, .int wd u]) Q E s := by
  revert KX; k_fill; intro KX
  refine wpT_call ?_
  refine' codeT_K B F KX N T.nolimit hA hf hke ?k6 ?k7 hroom ?k9 ?kB ?_ ?c5 ?c2 ?c3 ?c4
  case k6 => k_is
  case k7 => k_is
  case k9 => exact BindsTo.of_eq rfl
  case kB => exact locs rfl
  case c5 => decide
  case c2 => exact rfl
  case c3 => exact rfl
  case c4 => exact rfl
  k_whole
  intro g L' h₁ FG F' N' B' st
  have KX' := KX.keeps st
  have T' := T.keeps st
  refine execsT_cons (AssignT (CallT_type (ty := "bytearray") 1 rfl ?_))
  walk1
  refine ⟨rfl, splicedT_cons (wpT_any ?_)⟩
  repeat (first | walk1 | (dsimp only; walk1))
  refine splicedT_nil (ba_callT hg (by k_asm) (by k_asm) (by omega) (by omega) ?_)
  intro D h₂ F₂ N₂ hlt
  refine storeX_L F₂ N₂ (fun h₃ F₃ N₃ => ?_)
  refine wpT_mono (E := fun _ _ => False) (wpT_any ?_) (fun _ _ x => x) (fun _ _ x => x.elim)
  clear F₂ N₂
  refine wpAny_execs_cons (For_invU g (by rfl) (by rfl) ?_)
  repeat (first | walk1 | (dsimp only; walk1))
  rename IsRange _ _ _ _ _ _ _ _ => hr
  rename Fr _ _ _ _ => F₄
  rename News _ _ _ _ => N₄
  have hD₀ : g.get? D = none := (N₄ _ (.head _)).2.2
  have hDL : D ≠ L' := (N₄ _ (.head _)).2.1
  have hnD : ∀ q ∈ news, q.1 ≠ D := fun q hq => Nat.ne_of_lt (hlt q hq)
  refine loopU_range (n := n) (fun i m' nw => m' (Str.ofString "swapped_data") = some (.ref D) ∧ m' (Str.ofString "data") = some (.bytes data t) ∧ m' (Str.ofString "width") = some (.int wd u) ∧ ∃ b, nw = (D, ba b) :: news ∧ SwOk data wd' i b)
    hh hr ?small (by rw [hwd, hsz]; exact rangeSize_step hw0) F₄ N₄ ⟨rfl, rfl, rfl, _, rfl, by rw [Int.toNat_natCast]; exact SwOk.start _ _⟩ ?step ?done
  case small => rw [hwd, hsz]; exact small_step hw0 (by omega) hwz
  case step =>
    intro i m₁ news₁ s₁ t' own hi hJ ap F₁ N₁
    obtain ⟨e1, e2, e3, b, rfl, hb⟩ := hJ
    clear F₄ N₄ hr
    refine wpAny_execs_cons (For_invU g (by rfl) (by rfl) ?_)
    repeat (first | walk1 | (dsimp only; walk1))
    rename IsRange _ _ _ _ _ _ _ _ => hr2
    rename Fr _ _ _ _ => F₂
    rename News _ _ _ _ => N₂
    refine loopU_range (n := wd') (fun j m' nw => (∃ ti, m' (Str.ofString "i") = some (.int (0 + (i : Int) * wd) ti)) ∧ m' (Str.ofString "swapped_data") = some (.ref D) ∧ m' (Str.ofString "data") = some (.bytes data t) ∧ m' (Str.ofString "width") = some (.int wd u) ∧ ∃ b own', nw = own' ++ (D, ba b) :: news ∧ own' = own ∧ SwIn data wd' i j b)
      hh hr2 (small_one (by omega) (by omega) (by omega) (by omega)) (by rw [rangeSize_nat]; omega) F₂ N₂
      ⟨⟨_, if_pos rfl⟩, (if_neg (by decide)).trans e1, (if_neg (by decide)).trans e2, (if_neg (by decide)).trans e3, b, _, rfl, rfl, hb, fun _ h => by omega⟩ ?step2 ?done2
    case step2 =>
      clear F₂ N₂ hr2 hb e1 e2 e3
      intro j m₂ news₂ s₂ tj own₂ hj hJ ap₂ F₂ N₂
      obtain ⟨⟨ti, ei⟩, e1, e2, e3, b, own', rfl, rfl, hb⟩ := hJ
      have hle : (i + 1) * wd' ≤ n * wd' := Nat.mul_le_mul_right wd' hi
      have hsu : (i + 1) * wd' = i * wd' + wd' := Nat.succ_mul i wd'
      have hidx : (0 + (i : Int) * wd + (0 + (j : Int) * 1)) = ((i * wd' + j : Nat) : Int) := by rw [hwd]; push_cast; omega
      repeat (first | walk1 | (dsimp only; walk1))
      refine KBw.item_K (ks := KBw.bInts data) rfl (by rw [KBw.ints_length]; omega) (by rw [hidx]; omega) (by rw [hidx, KBw.ints_length]; omega) (fun t' k' b0 b1 => ?_)
      repeat (first | walk1 | (dsimp only; walk1))
      have hkk : (0 + (i : Int) * wd + wd - 1 - (0 + (j : Int) * 1)) = ((i * wd' + (wd' - 1 - j) : Nat) : Int) := by rw [hwd]; push_cast; omega
      have hbs : b.size = data.size := hb.1.1
      have apD : ∀ q ∈ own₂ ++ own', q.1 ≠ D := fun q hq => by
        rcases List.mem_append.mp hq with hq | hq
        · exact ap₂ q hq (D, ba b) (List.mem_append_right _ (.head _))
        · exact ap q hq (D, ba _) (.head _)
      rw [← List.append_assoc] at N₂
      refine ba_setItem (b := b) (N₂ _ (List.mem_append_right _ (.head _))).1 (by omega) (by rw [hkk]; omega) (by rw [hkk]; omega) b0 b1 (fun h' e' hs => ?_)
      repeat (first | walk1 | (dsimp only; walk1))
      have ex : (0 + (i : Int) * wd + (0 + (j : Int) * 1)).toNat = i * wd' + j := by rw [hidx]; exact Int.toNat_natCast _
      have ek : (0 + (i : Int) * wd + wd - 1 - (0 + (j : Int) * 1)).toNat = i * wd' + (wd' - 1 - j) := by rw [hkk]; exact Int.toNat_natCast _
      rw [ex, bInts_get, ek] at e'
      exact Turn.mk (news₂ := own' ++ (D, ba _) :: news) (F₂.change hs hDL hD₀) (by rw [← List.append_assoc]; exact N₂.setAt apD hnD hs e')
        (fun p hp q hq => by
          rcases List.mem_append.mp hq with hq | hq
          · exact ap₂ p hp q (List.mem_append_left _ hq)
          · rcases List.mem_cons.mp hq with rfl | hq
            · exact ap₂ p hp (D, ba b) (List.mem_append_right _ (.head _))
            · exact ap₂ p hp q (List.mem_append_right _ (.tail _ hq)))
        ⟨⟨ti, (if_neg (by decide)).trans ei⟩, (if_neg (by decide)).trans e1, (if_neg (by decide)).trans e2, (if_neg (by decide)).trans e3, _, _, rfl, rfl, hb.step hj (by omega)⟩
    case done2 =>
      intro h' tk' m' nw F₃ N₃ hJ
      obtain ⟨⟨ti, ei⟩, e1, e2, e3, b', own', rfl, rfl, hb'⟩ := hJ
      repeat (first | walk1 | (dsimp only; walk1))
      exact Turn.mk (news₂ := (D, ba _) :: news) F₃ N₃ (fun p hp q hq => by
          rcases List.mem_cons.mp hq with rfl | hq
          · exact ap p hp (D, ba b) (.head _)
          · exact ap p hp q (.tail _ hq)) ⟨e1, e2, e3, _, rfl, hb'.done hw0⟩
  case done =>
    intro h' tk' m' nw F₃ N₃ hJ
    obtain ⟨e1, e2, e3, b', rfl, hb'⟩ := hJ
    repeat (first | walk1 | (dsimp only; walk1))
    refine ba_bytes (N₃ _ (.head _)).1 (by rw [hb'.1]; omega) (fun tb kb => ?_)
    rw [hb'.fin hsz]
    exact leaveK_ F₃ (fun q hq => N₃ q (.tail _ hq)) (fun Fk Nk => k _ _ _ Fk Nk)
end
end Mine
end
section
theorem Mine.fresh_X1 : True := by
  w_top off
  trivial
open PySem PySem.W PyProof.Rows PySem.Spec PySem.Calls
set_option Elab.async false
set_option maxRecDepth 100000
set_option maxHeartbeats 4000000
namespace Mine
section
variable {prog : Program} {w : World} {A : Around} {s : Shared} {env : Env} {E : Value → Shared → Prop}
/-- try with clauses, its suite in tame contexts -/
theorem TryT {body orelse : List Stmt} {h₀ : ExceptHandler} {hs : List ExceptHandler} {pos : Pos} {Q : Flow → Shared → Prop}
    (h : wpT (model prog w) A (execs body env) (fun f s₁ => match f with | .next => wpAny (model prog w) A (execs orelse env) Q E s₁ | f => Q f s₁)
      (fun e s₁ => wpAny (model prog w) A (noteFrame e env) (fun _ s₂ => wpAny (model prog w) A (setFlight e none) (fun _ s₃ => wpAny (model prog w) A (handleBy e env (h₀ :: hs)) Q E s₃) E s₂) E s₁) s) :
    wpT (model prog w) A (exec (.Try body (h₀ :: hs) orelse [] pos) env) Q E s := by
  rw [arm_exec_Try]
  refine wpT_leaf (wpAny_standAt ?_)
  unfold tryStmt
  simp only [List.isEmpty_nil, if_true, List.isEmpty_cons, Bool.false_and, Bool.false_eq_true, if_false]
  refine wpT_bind (wpT_attempt (wpT_mono h (fun f s₁ h₁ => ?_) fun e s₁ h₁ => ?_))
  · cases f <;> first | exact wpT_any h₁ | exact wpT_pure h₁
  · exact wpT_any (wpAny_bind (wpAny_mono h₁ (fun _ _ h₂ => wpAny_bind h₂) fun _ _ x => x))
/-- no range by steps of 0 -/
theorem call_range_zero {a b : Int} {t u v : Tok} {Q : Value → Shared → Prop} (hA : A.handled = none) (h : ∀ h' tk e, Heap.NewExc s.heap h' e "ValueError" → E (.ref e) { s with heap := h', toks := tk }) :
    wpAny (model prog w) A (call (.type "range") [.int a t, .int b u, .int 0 v]) Q E s :=
  callType_new F.called_range (by decide) (F.typeCall_range_3 _ _ _) (F.newCall_range_3 _ _ _) (fun obj => F.initArgs_range_3 obj _ _ _) F.entry_range_new
    (AutoRange.range___new___type_int_int_int_0 a b 0 t u v F.called_range.sub (by decide)) ⟨hA, h⟩
end
end Mine
end
section
theorem Mine.fresh_X2 : True := by
  w_top off
  trivial
open PySem PySem.W PyProof.Rows PySem.Spec PySem.Calls
set_option Elab.async false
set_option maxRecDepth 100000
set_option maxHeartbeats 4000000
namespace Mine
section
variable {prog : Program} {w : World} {A : Around} {E : Value → Shared → Prop} {s : Shared} {env : Env} {h₀ : Heap} {x : Str} {px : Pos} {body : List Stmt} {Q : Flow → Shared → Prop}
/-- a loop over a range whose body may raise: the rest of the state stays known -/
theorem loopV_range {r : Addr} {a b c : Int} {t₀ u₀ v₀ : Tok} {n : Nat} {m₀ : Str → Option Value} {news : List (Addr × Obj)} (J : Nat → (Str → Option Value) → List (Addr × Obj) → Prop)
    (hx : env.kindOf x = some .local) (hp : (env.scope.kind == .class || (env.scope.kind == .module && env.locals != env.globals)) = false)
    (hh : A.handled = none) (hr : IsRange s.heap r a b c t₀ u₀ v₀) (hsmall : Builtin.Range.small a b c = true) (hn : Builtin.Range.rangeSize a b c = (n : Int)) (F : Fr h₀ env.locals s.heap m₀) (N : News h₀ env.locals s.heap news) (h0 : J 0 m₀ news)
    (step : ∀ (i : Nat) m₁ news₁ h₁ tk₁ t own, i < n → J i m₁ news₁ → Apart own news₁ → Fr h₀ env.locals h₁ (fun y => if y = x then some (.int (a + i * c) t) else m₁ y) → News h₀ env.locals h₁ (own ++ news₁) →
      wpAny (model prog w) A (execs body env) (Turn h₀ env.locals own (J (i + 1)) { s with heap := h₁, toks := tk₁ }) E { s with heap := h₁, toks := tk₁ })
    (done : ∀ h' tk m' news', Fr h₀ env.locals h' m' → News h₀ env.locals h' news' → J n m' news' → Q .next { s with heap := h', toks := tk }) :
    wpAny (model prog w) A (pyIter (.ref r)) (fun it s₂ => TurnsAt prog w A h₀ env (.Name x px) body Q E it s₂) E s := by
  refine wpAny_pyIter_range hr hsmall ?_
  have hnew := next_is_new F
  refine ⟨_, _, _, n, _, _, _, m₀, news, J, rfl, KTurns.ofWalks (Walks.range hh s.heap.objs.size a c n) (fun i v s Q E _ hq => wpAny_of_eq (a := ()) rfl hq), ?_, ?_, ?_, (by show IsRangeIter _ _ _ _ _; rw [hn]; simpa using Heap.get?_push_size _ rfl), F.push _, (fun p hp => ⟨Heap.get?_push_of_some _ (N p hp).1, (N p hp).2⟩), h0, ?_, ?_⟩
  · intro hm
    exact absurd F.ns.lt ((List.mem_singleton.mp hm) ▸ Nat.lt_irrefl _)
  · intro b hb
    rw [List.mem_singleton.mp hb]
    exact hnew
  · intro p hp hI
    exact absurd (Heap.lt_size (N p hp).1) ((List.mem_singleton.mp hI) ▸ Nat.lt_irrefl _)
  · rintro i v m₁ news₁ h₁ tk₁ own hi ⟨t, rfl⟩ hJ hoff hown hget hall hst F₁ N₁
    have hst' : h₁.get? s.heap.objs.size = some _ := hst
    have hmem := hall s.heap.objs.size (List.mem_singleton.mpr rfl) hnew _ hst'
    refine wpAny_assign_Name (wpAny_storeName_local hx F₁.ns (fun h₂ hn₂ hs₂ => ?_) hp)
    refine wpAny_mono (step i m₁ news₁ h₂ _ t own hi hJ (fun p hp q hq e => hoff q hq (by rw [← e]; exact hown p hp)) (F₁.set hn₂ hs₂) (N₁.set hs₂)) (fun f s₂ h => ?_) fun _ _ e => e
    obtain ⟨rfl, h', tk, m₂, news₂, rfl, F₂, N₂, ap, j⟩ := h
    exact LoopStepU.intro F₂ N₂ (fun p hp hI => ap _ hmem p hp (List.mem_singleton.mp hI).symm) j
  · intro h' tk m' news' F' N' _ hJ
    exact done h' tk m' news' F' N' hJ
end
end Mine
end
section
theorem Mine.fresh_S01b : True := by
  w_top off
  trivial
open PySem PySem.W PyProof.Rows PySem.Spec PySem.Calls
set_option Elab.async false
set_option maxRecDepth 100000
set_option maxHeartbeats 8000000
namespace Mine
section
variable {w : World} {A A₀ : Around} {s : Shared} {base h₀ : Heap} {outer : List Env} {L : Addr} {m : Str → Option Value} {env : Env} {news : List (Addr × Obj)} {p : Program} {loose : List Str} {mean : ExcName → Option Value} {mg mb : Str → Option Value}
local macro_rules | `(tactic| walk_at "eval Name") => `(tactic| (k_here; k_dflt (refine' ld ?k1 ?k2 ?_; (case k1 => k_asm); (case k2 => first | exact rfl | (repeat (first | assumption | exact if_pos rfl | refine (if_neg (by decide)).trans ?_))); k_whole)))
local macro_rules | `(tactic| walk_at "call type:range") => `(tactic| (k_here; (with_reducible show wpAny _ _ (call (Value.type "range") [Value.int _ _, Value.int _ _, Value.int 0 _]) _ _ _); refine call_range_zero (by assumption) ?_; intro _ _ _ hx₉))
theorem byteswapE01 {data : Array UInt8} {t u : Tok} {wd : Int} {Q E : Value → Shared → Prop}
    (B : Below A₀ base outer h₀) (F : Fr h₀ L s.heap m) (KX : (hd01.heap_39 w.params).In h₀) (N : News h₀ L s.heap news) (T : Top p loose mean mg mb h₀) (hA : A.frames = some (env :: outer)) (hf : env.frame = some L) (hke : env.scope.kind = .function)
    (hz : data.size ≤ 4096) (n wd' : Nat) (hwz : wd' ≤ 4096) (hw0 : 0 < wd') (hwd : wd = (wd' : Int)) (hlo : n * wd' < data.size) (hhi : data.size < n * wd' + wd') (hrs : Builtin.Range.rangeSize 0 (data.size : Int) (wd' : Int) = ((n + 1 : Nat) : Int)) (hsm : Builtin.Range.small 0 (data.size : Int) (wd' : Int) = true)
    (hroom : A.depth < recursionLimit) (hg : A.guards = some []) (hh : A.handled = none)
    (k : ∀ g e h' tk, Fr h₀ L g m → g.UpToSlots h' → RaisedSN base g (env :: outer) e (.type "IndexError") news h' → E (.ref e) { s with heap := h', toks := tk }) :
    wpT (model PySem.Challenge.rw_kt0002_01.row.prog w) A (call (.ref 21) [.bytes data t, .int wd u]) Q E s := by
  revert KX; k_fill; intro KX
  refine wpT_call ?_
  refine' codeT_K B F KX N T.nolimit hA hf hke ?k6 ?k7 hroom ?k9 ?kB ?_ ?c5 ?c2 ?c3 ?c4
  case k6 => k_is
  case k7 => k_is
  case k9 => exact BindsTo.of_eq rfl
  case kB => exact locs rfl
  case c5 => decide
  case c2 => exact rfl
  case c3 => exact rfl
  case c4 => exact rfl
  k_whole
  intro g L' h₁ FG F' N' B' st
  have KX' := KX.keeps st
  have T' := T.keeps st
  refine execsT_cons (AssignT (CallT_type (ty := "bytearray") 1 rfl ?_))
  walk1
  refine ⟨rfl, splicedT_cons (wpT_any ?_)⟩
  repeat (first | walk1 | (dsimp only; walk1))
  refine splicedT_nil (ba_callT hg (by k_asm) (by k_asm) (by omega) (by omega) ?_)
  intro D h₂ F₂ N₂ hlt
  refine storeX_L F₂ N₂ (fun h₃ F₃ N₃ => ?_)
  refine wpT_mono (wpT_any ?_) (fun _ _ x => x) (fun e s' x => wpT_any x)
  clear F₂ N₂
  refine wpAny_execs_cons ?_
  (with_unfolding_all refine' For_turns F₃ ?_)
  k_whole
  repeat (first | walk1 | (dsimp only; walk1))
  rename IsRange _ _ _ _ _ _ _ _ => hr
  rename Fr _ _ _ _ => F₄
  rename News _ _ _ _ => N₄
  have hD₀ : g.get? D = none := (N₄ _ (.head _)).2.2
  have hDL : D ≠ L' := (N₄ _ (.head _)).2.1
  have hnD : ∀ q ∈ news, q.1 ≠ D := fun q hq => Nat.ne_of_lt (hlt q hq)
  refine loopV_range (n := n + 1) (fun i m' nw => m' (Str.ofString "swapped_data") = some (.ref D) ∧ m' (Str.ofString "data") = some (.bytes data t) ∧ m' (Str.ofString "width") = some (.int wd u) ∧ i ≤ n ∧ ∃ b, nw = (D, ba b) :: news ∧ b.size = data.size)
    (by rfl) (by rfl) hh hr ?small (by rw [hwd]; exact hrs) F₄ N₄ ⟨rfl, rfl, rfl, Nat.zero_le _, _, rfl, by rw [Int.toNat_natCast]; simp⟩ ?step ?done
  case small => rw [hwd]; exact hsm
  case done =>
    intro h' tk' m' nw F₃ N₃ hJ
    obtain ⟨_, _, _, hn, _⟩ := hJ
    omega
  case step =>
    intro i m₁ news₁ h₁ tk₁ t' own hi hJ ap F₁ N₁
    obtain ⟨e1, e2, e3, hin, b, rfl, hb⟩ := hJ
    clear F₄ N₄ hr
    refine wpAny_execs_cons ?_
    (with_unfolding_all refine' For_turns F₁ ?_)
    k_whole
    repeat (first | walk1 | (dsimp only; walk1))
    rename IsRange _ _ _ _ _ _ _ _ => hr2
    rename Fr _ _ _ _ => F₂
    rename News _ _ _ _ => N₂
    refine loopV_range (n := wd') (fun j m' nw => (∃ ti, m' (Str.ofString "i") = some (.int (0 + (i : Int) * wd) ti)) ∧ m' (Str.ofString "swapped_data") = some (.ref D) ∧ m' (Str.ofString "data") = some (.bytes data t) ∧ m' (Str.ofString "width") = some (.int wd u) ∧ (j = 0 ∨ i < n) ∧ ∃ b own', nw = own' ++ (D, ba b) :: news ∧ own' = own ∧ b.size = data.size)
      (by rfl) (by rfl) hh hr2 (small_one (by omega) (by omega) (by omega) (by omega)) (by rw [rangeSize_nat]; omega) F₂ N₂
      ⟨⟨_, if_pos rfl⟩, (if_neg (by decide)).trans e1, (if_neg (by decide)).trans e2, (if_neg (by decide)).trans e3, Or.inl rfl, b, _, rfl, rfl, hb⟩ ?step2 ?done2
    case step2 =>
      clear F₂ N₂ hr2 hb e1 e2 e3
      intro j m₂ news₂ h₂ tk₂ tj own₂ hj hJ ap₂ F₂ N₂
      obtain ⟨⟨ti, ei⟩, e1, e2, e3, hji, b, own', rfl, rfl, hb⟩ := hJ
      have hidx : (0 + (i : Int) * wd + (0 + (j : Int) * 1)) = ((i * wd' + j : Nat) : Int) := by rw [hwd]; push_cast; omega
      have hin2 : i * wd' + j < data.size := by
        rcases hji with rfl | hlt'
        · have := Nat.mul_le_mul_right wd' hin; omega
        · have hle : (i + 1) * wd' ≤ n * wd' := Nat.mul_le_mul_right wd' hlt'
          have hsu : (i + 1) * wd' = i * wd' + wd' := Nat.succ_mul i wd'
          omega
      repeat (first | walk1 | (dsimp only; walk1))
      refine KBw.item_K (ks := KBw.bInts data) rfl (by rw [KBw.ints_length]; omega) (by rw [hidx]; omega) (by rw [hidx, KBw.ints_length]; omega) (fun t' k' b0 b1 => ?_)
      repeat (first | walk1 | (dsimp only; walk1))
      have hkk : (0 + (i : Int) * wd + wd - 1 - (0 + (j : Int) * 1)) = ((i * wd' + (wd' - 1 - j) : Nat) : Int) := by rw [hwd]; push_cast; omega
      have apD : ∀ q ∈ own₂ ++ own', q.1 ≠ D := fun q hq => by
        rcases List.mem_append.mp hq with hq | hq
        · exact ap₂ q hq (D, ba b) (List.mem_append_right _ (.head _))
        · exact ap q hq (D, ba _) (.head _)
      by_cases hlt' : i < n
      · have hle : (i + 1) * wd' ≤ n * wd' := Nat.mul_le_mul_right wd' hlt'
        have hsu : (i + 1) * wd' = i * wd' + wd' := Nat.succ_mul i wd'
        rw [← List.append_assoc] at N₂
        refine ba_setItem (b := b) (N₂ _ (List.mem_append_right _ (.head _))).1 (by omega) (by rw [hkk]; omega) (by rw [hkk]; omega) b0 b1 (fun h' e' hs => ?_)
        repeat (first | walk1 | (dsimp only; walk1))
        exact Turn.mk (news₂ := own' ++ (D, ba _) :: news) (F₂.change hs hDL hD₀) (by rw [← List.append_assoc]; exact N₂.setAt apD hnD hs e')
          (fun p hp q hq => by
            rcases List.mem_append.mp hq with hq | hq
            · exact ap₂ p hp q (List.mem_append_left _ hq)
            · rcases List.mem_cons.mp hq with rfl | hq
              · exact ap₂ p hp (D, ba b) (List.mem_append_right _ (.head _))
              · exact ap₂ p hp q (List.mem_append_right _ (.tail _ hq)))
          ⟨⟨ti, (if_neg (by decide)).trans ei⟩, (if_neg (by decide)).trans e1, (if_neg (by decide)).trans e2, (if_neg (by decide)).trans e3, Or.inr hlt', _, _, rfl, rfl, by simpa using hb⟩
      · obtain rfl : j = 0 := by omega
        obtain rfl : i = n := by omega
        rw [← List.append_assoc] at N₂
        refine ba_setItem_out (b := b) hh (N₂ _ (List.mem_append_right _ (.head _))).1 (by rw [hkk]; omega) (by rw [hkk]; omega) b0 b1 (fun h' tk' e' hx => ?_)
        exact leave_newS B' hx F₂ (fun q hq => N₂ q (List.mem_append_right _ (.tail _ hq))) (fun h₅ S R U => k g _ h₅ _ FG U S)
    case done2 =>
      intro h' tk' m' nw F₃ N₃ hJ
      obtain ⟨⟨ti, ei⟩, e1, e2, e3, hji, b', own', rfl, rfl, hb'⟩ := hJ
      repeat (first | walk1 | (dsimp only; walk1))
      exact Turn.mk (news₂ := (D, ba _) :: news) F₃ N₃ (fun p hp q hq => by
          rcases List.mem_cons.mp hq with rfl | hq
          · exact ap p hp (D, ba b) (.head _)
          · exact ap p hp q (.tail _ hq)) ⟨e1, e2, e3, by omega, _, rfl, hb'⟩
local macro_rules | `(tactic| walk_at "leaving ref") => `(tactic| (k_here; refine leave_newS (by assumption) (by assumption) (by k_asm) (by k_asm) ?_; intro h₈ S₈ R₈ U₈))
theorem byteswapV01 {data : Array UInt8} {t u : Tok} {Q E : Value → Shared → Prop}
    (B : Below A₀ base outer h₀) (F : Fr h₀ L s.heap m) (KX : (hd01.heap_39 w.params).In h₀) (N : News h₀ L s.heap news) (T : Top p loose mean mg mb h₀) (hA : A.frames = some (env :: outer)) (hf : env.frame = some L) (hke : env.scope.kind = .function)
    (hz : data.size ≤ 4096) (hroom : A.depth < recursionLimit) (hg : A.guards = some []) (hh : A.handled = none)
    (k : ∀ g e h' tk, Fr h₀ L g m → g.UpToSlots h' → RaisedSN base g (env :: outer) e (.type "ValueError") news h' → E (.ref e) { s with heap := h', toks := tk }) :
    wpT (model PySem.Challenge.rw_kt0002_01.row.prog w) A (call (.ref 21) [.bytes data t, .int 0 u]) Q E s := by
  revert KX; k_fill; intro KX
  refine wpT_call ?_
  refine' codeT_K B F KX N T.nolimit hA hf hke ?k6 ?k7 hroom ?k9 ?kB ?_ ?c5 ?c2 ?c3 ?c4
  case k6 => k_is
  case k7 => k_is
  case k9 => exact BindsTo.of_eq rfl
  case kB => exact locs rfl
  case c5 => decide
  case c2 => exact rfl
  case c3 => exact rfl
  case c4 => exact rfl
  k_whole
  intro g L' h₁ FG F' N' B' st
  have KX' := KX.keeps st
  have T' := T.keeps st
  refine execsT_cons (AssignT (CallT_type (ty := "bytearray") 1 rfl ?_))
  walk1
  refine ⟨rfl, splicedT_cons (wpT_any ?_)⟩
  repeat (first | walk1 | (dsimp only; walk1))
  refine splicedT_nil (ba_callT hg (by k_asm) (by k_asm) (by omega) (by omega) ?_)
  intro D h₂ F₂ N₂ hlt
  refine storeX_L F₂ N₂ (fun h₃ F₃ N₃ => ?_)
  refine wpT_mono (wpT_any ?_) (fun _ _ x => x) (fun e s' x => wpT_any x)
  clear F₂ N₂
  refine wpAny_execs_cons ?_
  (with_unfolding_all refine' For_turns F₃ ?_)
  k_whole
  repeat (first | walk1 | (dsimp only; walk1))
  rename RaisedSN _ _ _ _ _ _ _ => hR
  rename Heap.UpToSlots _ _ => hU
  obtain ⟨B₁, a0, hB, hG, hl, hfl⟩ := hR
  exact k g _ _ _ FG hU ⟨B₁, a0, hB, hG, fun q hq => hl q (by first | exact hq | exact .tail _ hq), hfl⟩
end
end Mine
end
section
theorem Mine.fresh_R01 : True := by
  w_top off
  trivial
open PySem PySem.W PyProof.Rows PySem.Spec PySem.Calls
set_option Elab.async false
set_option maxRecDepth 100000
set_option maxHeartbeats 8000000
namespace Mine
section
variable {w : World} {A A₀ : Around} {s : Shared} {base h₀ : Heap} {outer : List Env} {L : Addr} {env : Env} {m : Str → Option Value} {news : List (Addr × Obj)} {p : Program} {loose : List Str} {mean : ExcName → Option Value} {mg mb : Str → Option Value}
local macro_rules | `(tactic| walk_at "eval Name") => `(tactic| (k_here; k_dflt (refine' ld ?k1 ?k2 ?_; (case k1 => k_asm); (case k2 => first | exact rfl | (repeat (first | assumption | exact if_pos rfl | refine (if_neg (by decide)).trans ?_))); k_whole)))
theorem drepl01 {x : Str} {t : Tok} {d : Addr} {l : List Rp} {n : Nat} {Q E : Value → Shared → Prop}
    (B : Below A₀ base outer h₀) (F : Fr h₀ L s.heap m) (KX : (hd01.heap_39 w.params).In h₀) (N : News h₀ L s.heap news) (T : Top p loose mean mg mb h₀) (hA : A.frames = some (env :: outer)) (hf : env.frame = some L) (hke : env.scope.kind = .function)
    (hroom : A.depth < recursionLimit) (hh : A.handled = none)
    (hd : (d, xd w (l.map Rp.ent) n) ∈ news) (hds : (d == sysModules) = false) (hn : (l.map (·.1)).Nodup) (ok : RpOk x l)
    (k : ∀ t' h' tk, Fr h₀ L h' m → News h₀ L h' news → Q (.str (l.foldl Rp.rep x) t') { s with heap := h', toks := tk }) :
    wpAny (model PySem.Challenge.rw_kt0002_01.row.prog w) A (call (.ref 28) [.str x t, .ref d]) Q E s := by
  revert KX; k_fill; intro KX
  have hn' : ((l.map Rp.ent).map (·.1)).Nodup := by simpa [Function.comp_def] using hn
  refine wpAny_call ?_
  refine' code_def (binds := [(Str.ofString "s", .str x t), (Str.ofString "d", .ref d)]) B F KX N T hA hf hke ?k6 ?k7 hroom ?k9 ?kB ?_ ?c2 ?c3 ?c4 ?c5
  case k6 => k_is
  case k7 => k_is
  case k9 => exact BindsTo.of_eq rfl
  case kB => exact locs rfl
  case c2 => exact rfl
  case c3 => exact rfl
  case c4 => exact rfl
  case c5 => decide
  k_whole
  intro g L' h₁ FG F' N' B' KX' T'
  refine wpAny_mono (E := fun _ _ => False) ?_ (fun _ _ x => x) (fun _ _ x => x.elim)
  refine wpAny_execs_cons ?_
  (with_unfolding_all refine' For_turns F' ?_)
  k_whole
  refine MethodCall_ ?_
  refine ld F' (by rfl) ?_
  refine kdl_method (knd := PySem.strKind _ _) PySem.F.slot_dict_items PySem.F.type_dict_items N' hd (xd_isDict _ hn') ?_
  refine callWith_method0 ?_
  refine kta_callItems (knd := PySem.strKind _ _) F' N' hd (xd_isDict _ hn') hds ?_
  intro h' hv' F₂ N₂
  refine x_items (n := n) hh F₂ N₂ hv' (N₂ _ hd).1 (Ne.symm (N₂ _ hd).2.1) hn' (fun i m' nw => (∃ t', m' (Str.ofString "s") = some (.str ((l.take i).foldl Rp.rep x) t')) ∧ nw = news) ⟨⟨t, rfl⟩, rfl⟩ ?step ?done
  case done =>
    rintro h' tk m' news' F₃ N₃ ⟨⟨t', e⟩, rfl⟩
    rw [List.length_map, show l.take l.length = l from List.take_length] at e
    repeat (first | walk1 | (dsimp only; walk1))
    exact k _ _ _ (by k_asm) (by k_asm)
  case step =>
    clear F₂ N₂ hv'
    rintro I i p m₁ news₁ h₁ tk₁ own T hp hI hIL ⟨⟨t', e⟩, rfl⟩ ap hT F₁ N₁
    obtain ⟨q, hq, rfl⟩ : ∃ q, l[i]? = some q ∧ Rp.ent q = p := by simpa using hp
    have okq := ok.at hq
    refine unpackN_ F₁ N₁ hT hh rfl rfl ?_
    intro h₂ F₂ N₂
    show wpAny _ _ (assignInOrder _ [Value.str q.1 q.2.1, Value.str q.2.2.1 q.2.2.2]) _ _ _
    repeat (first | walk1 | (dsimp only; walk1))
    refine SC.replace okq.1 okq.2.1 okq.2.2.1 okq.2.2.2.1 okq.2.2.2.2 (fun t'' k' => ?_)
    repeat (first | walk1 | (dsimp only; walk1))
    rename Fr _ _ _ _ => F₃
    rename News _ _ _ _ => N₃
    refine LoopStepU.intro F₃ N₃ ap ⟨⟨t'', ?_⟩, rfl⟩
    rw [take_rep hq]
    exact if_pos rfl
end
end Mine
end
section
theorem Mine.fresh_U01 : True := by
  w_top off
  trivial
open PySem PySem.W PyProof.Rows PySem.Spec PySem.Calls
set_option Elab.async false
set_option maxRecDepth 100000
set_option maxHeartbeats 8000000
namespace Mine
section
variable {w : World} {A A₀ : Around} {s : Shared} {base h₀ : Heap} {outer : List Env} {L : Addr} {env : Env} {m : Str → Option Value} {news : List (Addr × Obj)} {p : Program} {loose : List Str} {mean : ExcName → Option Value} {mg mb : Str → Option Value}
local macro_rules | `(tactic| walk_at "eval Name") => `(tactic| (k_here; k_dflt (refine' ld ?k1 ?k2 ?_; (case k1 => k_asm); (case k2 => first | exact rfl | (repeat (first | assumption | exact if_pos rfl | refine (if_neg (by decide)).trans ?_))); k_whole)))
local macro_rules | `(tactic| walk_at "execs cons") => `(tactic| (k_here; (with_reducible refine execs_tok 1 (by first | assumption | (dsimp only; omega)) ?_); (try dsimp only)))
local macro_rules | `(tactic| walk_at "forall") => `(tactic| (intro ht'; (with_reducible change 1 ≤ _ at ht'); (try dsimp only at ht')))
theorem escape01 {x : Str} {t : Tok} {d : Addr} {l : List Rp} {n : Nat} {Q E : Value → Shared → Prop}
    (B : Below A₀ base outer h₀) (F : Fr h₀ L s.heap m) (KX : (hd01.heap_39 w.params).In h₀) (N : News h₀ L s.heap news) (T : Top p loose mean mg mb h₀) (hA : A.frames = some (env :: outer)) (hf : env.frame = some L) (hke : env.scope.kind = .function)
    (hroom : A.depth + 1 < recursionLimit) (hh : A.handled = none)
    (hd : (d, xd w (l.map Rp.ent) n) ∈ news) (hds : (d == sysModules) = false) (hn : (l.map (·.1)).Nodup) (hl : l ≠ []) (hlz : l.length ≤ 100) (hx : x.length ≤ 1000) (ht : 1 ≤ s.toks) (ok : RpOk (escT x) l)
    (k : ∀ t' h' tk, Fr h₀ L h' m → News h₀ L h' news → Q (.str (l.foldl Rp.rep (escT x)) t') { s with heap := h', toks := tk }) :
    wpAny (model PySem.Challenge.rw_kt0002_01.row.prog w) A (call (.ref 37) [.str x t, .ref d]) Q E s := by
  revert KX; k_fill; intro KX
  have hn' : ((l.map Rp.ent).map (·.1)).Nodup := by simpa [Function.comp_def] using hn
  have hdd := xd_isDict (prog := PySem.Challenge.rw_kt0002_01.row.prog) (w := w) n hn'
  refine wpAny_call ?_
  refine' code_def (binds := [(Str.ofString "data", .str x t), (Str.ofString "entities", .ref d)]) B F KX N T hA hf hke ?k6 ?k7 (by omega) ?k9 ?kB ?_ ?c2 ?c3 ?c4 ?c5
  case k6 => k_is
  case k7 => k_is
  case k9 => exact binds_K (by k_in) rfl (by k_is) rfl rfl rfl
  case kB => exact locs rfl
  case c2 => exact rfl
  case c3 => exact rfl
  case c4 => exact rfl
  case c5 => decide
  k_whole
  intro g L' h₁ FG F' N' B' KX' T'
  refine wpAny_mono (E := fun _ _ => False) ?_ (fun _ _ x => x) (fun _ _ x => x.elim)
  have l1 : (Txt.replace x (Str.ofString "&") (Str.ofString "&amp;")).length ≤ 6005 := Nat.le_trans (rep_len _ _ _ (by decide)) (by rw [show (Str.ofString "&amp;").length = 5 by decide]; omega)
  have l2 : (Txt.replace (Txt.replace x (Str.ofString "&") (Str.ofString "&amp;")) (Str.ofString ">") (Str.ofString "&gt;")).length ≤ 30029 := Nat.le_trans (rep_len _ _ _ (by decide)) (by rw [show (Str.ofString "&gt;").length = 4 by decide]; omega)
  repeat (first | walk1 | (dsimp only; walk1))
  have hne : (!(xKV (l.map Rp.ent)).isEmpty) = true := by cases l with | nil => exact absurd rfl hl | cons _ _ => rfl
  have hfit : ((xKV (l.map Rp.ent)).length : Int) < 2 ^ 63 := by simp [xKV]; omega
  refine wpAny_truthy_dict (knd := PySem.strKind _ _) hds (kda_dict (by k_asm) hd hdd) hfit ?_
  rw [if_pos hne]
  repeat (first | walk1 | (dsimp only; walk1))
  rename Fr _ _ _ _ => F₅
  rename News _ _ _ _ => N₅
  refine' drepl01 B' F₅ KX' N₅ T' ?kA ?kb ?kc hroom hh hd hds hn ok ?_
  case kA => exact congrArg (Option.map (_ :: ·)) hA
  case kb => exact rfl
  case kc => exact rfl
  intro t5 h5 k5 F₆ N₆
  clear F₅ N₅
  repeat (first | walk1 | (dsimp only; walk1))
  exact k _ _ _ (by k_asm) (by k_asm)
theorem unescape01 {x : Str} {t : Tok} {d : Addr} {l : List Rp} {n : Nat} {Q E : Value → Shared → Prop}
    (B : Below A₀ base outer h₀) (F : Fr h₀ L s.heap m) (KX : (hd01.heap_39 w.params).In h₀) (N : News h₀ L s.heap news) (T : Top p loose mean mg mb h₀) (hA : A.frames = some (env :: outer)) (hf : env.frame = some L) (hke : env.scope.kind = .function)
    (hroom : A.depth + 1 < recursionLimit) (hh : A.handled = none)
    (hd : (d, xd w (l.map Rp.ent) n) ∈ news) (hds : (d == sysModules) = false) (hn : (l.map (·.1)).Nodup) (hl : l ≠ []) (hlz : l.length ≤ 100) (hx : x.length ≤ 100000) (hx2 : (l.foldl Rp.rep (unT x)).length ≤ 1000000) (ht : 1 ≤ s.toks) (ok : RpOk (unT x) l)
    (k : ∀ t' h' tk, Fr h₀ L h' m → News h₀ L h' news → Q (.str (ampT (l.foldl Rp.rep (unT x))) t') { s with heap := h', toks := tk }) :
    wpAny (model PySem.Challenge.rw_kt0002_01.row.prog w) A (call (.ref 46) [.str x t, .ref d]) Q E s := by
  revert KX; k_fill; intro KX
  have hn' : ((l.map Rp.ent).map (·.1)).Nodup := by simpa [Function.comp_def] using hn
  have hdd := xd_isDict (prog := PySem.Challenge.rw_kt0002_01.row.prog) (w := w) n hn'
  refine wpAny_call ?_
  refine' code_def (binds := [(Str.ofString "data", .str x t), (Str.ofString "entities", .ref d)]) B F KX N T hA hf hke ?k6 ?k7 (by omega) ?k9 ?kB ?_ ?c2 ?c3 ?c4 ?c5
  case k6 => k_is
  case k7 => k_is
  case k9 => exact binds_K (by k_in) rfl (by k_is) rfl rfl rfl
  case kB => exact locs rfl
  case c2 => exact rfl
  case c3 => exact rfl
  case c4 => exact rfl
  case c5 => decide
  k_whole
  intro g L' h₁ FG F' N' B' KX' T'
  refine wpAny_mono (E := fun _ _ => False) ?_ (fun _ _ x => x) (fun _ _ x => x.elim)
  have l1 : (Txt.replace x (Str.ofString "&lt;") (Str.ofString "<")).length ≤ 200001 := Nat.le_trans (rep_len _ _ _ (by decide)) (by rw [show (Str.ofString "<").length = 1 by decide]; omega)
  have l2 : (Txt.replace (Txt.replace x (Str.ofString "&lt;") (Str.ofString "<")) (Str.ofString "&gt;") (Str.ofString ">")).length ≤ 400003 := Nat.le_trans (rep_len _ _ _ (by decide)) (by rw [show (Str.ofString ">").length = 1 by decide]; omega)
  have l3 : (l.foldl Rp.rep (Txt.replace (Txt.replace x (Str.ofString "&lt;") (Str.ofString "<")) (Str.ofString "&gt;") (Str.ofString ">"))).length ≤ 1000000 := hx2
  repeat (first | walk1 | (dsimp only; walk1))
  have hne : (!(xKV (l.map Rp.ent)).isEmpty) = true := by cases l with | nil => exact absurd rfl hl | cons _ _ => rfl
  have hfit : ((xKV (l.map Rp.ent)).length : Int) < 2 ^ 63 := by simp [xKV]; omega
  refine wpAny_truthy_dict (knd := PySem.strKind _ _) hds (kda_dict (by k_asm) hd hdd) hfit ?_
  rw [if_pos hne]
  repeat (first | walk1 | (dsimp only; walk1))
  rename Fr _ _ _ _ => F₅
  rename News _ _ _ _ => N₅
  refine' drepl01 B' F₅ KX' N₅ T' ?kA ?kb ?kc hroom hh hd hds hn ok ?_
  case kA => exact congrArg (Option.map (_ :: ·)) hA
  case kb => exact rfl
  case kc => exact rfl
  intro t5 h5 k5 F₆ N₆
  clear F₅ N₅
  repeat (first | walk1 | (dsimp only; walk1))
  refine SC.replaceW (by show @Ne Nat _ _; omega) (by show @Ne Nat _ _; omega) (by show @Ne Nat _ _; omega) (by decide) (by omega) (by decide) (fun t6 k6 => ?_)
  repeat (first | walk1 | (dsimp only; walk1))
  exact k _ _ _ (by k_asm) (by k_asm)
end
end Mine
end
section
theorem Mine.fresh_X3 : True := by
  w_top off
  trivial
open PySem PySem.W PyProof.Rows PySem.Spec PySem.Calls
set_option Elab.async false
set_option maxRecDepth 100000
set_option maxHeartbeats 4000000
namespace Mine
section
variable {prog : Program} {w : World} {A A₀ : Around} {s : Shared} {R : Result → Shared → Prop} {base h₀ : Heap} {L : Addr} {m : Str → Option Value} {env : Env} {news : List (Addr × Obj)} {K : Frag} {p : Program} {loose : List Str} {mean : ExcName → Option Value} {mg mb : Str → Option Value}
  {name qual : Str} {params : Arguments} {body : List Stmt} {scope : Scope} {dV kV doc pm cdv ct oc : Value} {an od : Option Addr} {osl : Array (Option Value)} {f : Addr} {args : Args} {binds : List (Str × Value)}
/-- a def that catches, called from the law's own frame -/
theorem codeT_catch (B : Below A₀ base [] h₀) (F : Fr h₀ L s.heap m) (X₀ : K.In h₀) (N : News h₀ L s.heap news) (T : Top p loose mean mg mb h₀) (hA : A.frames = some [env]) (hf : env.frame = some L) (hke : env.scope.kind = .function)
    (ho : K.lookup f = some ⟨oc, od, .func (fnOf name qual params body scope dV kV doc pm an cdv ct), osl⟩) (hcd : codeIn K cdv qual = true) (hroom : A.depth < recursionLimit)
    (hbind : BindsTo s (fnOf name qual params body scope dV kV doc pm an cdv ct) args binds) (hloc : ∀ y ∈ binds, scope.names.lookup y.1 = some .local)
    (h : ∀ g L' h₁, Fr h₀ L g m → Fr g L' h₁ (fun y => binds.reverse.lookup y) → News g L' h₁ news → Below A base [env] g → K.In g → Top p loose mean mg mb g → KtsDicts ([env].filterMap (·.frame)) g →
      wpT (model prog w) (A.deeper (envOf qual scope L' f cdv)) (execs body (envOf qual scope L' f cdv))
        (fun fl s' => LeaveS0 ([env].filterMap (·.frame)) h₀ L m g R (match fl with | .ret v => v | _ => .none) s')
        (fun e s' => wpT (model prog w) (A.deeper (envOf qual scope L' f cdv)) (leaving (envOf qual scope L' f cdv) e) (fun _ s'' => R (.error e) s'') (fun e' s'' => R (.error e') s'') s')
        { s with heap := h₁, toks := s.toks + binds.length })
    (hcell : ∀ x ∈ scope.names, x.2 ≠ .cell) (hco : scope.isCoroutine = false) (hgen : scope.isGenerator = false) (hk : scope.kind = .function) : codeT (model prog w) A (.call (.ref f) args) R s := by
  obtain ⟨FG, BG, st, _⟩ := groundX (R := R) B F N hA hf hke
  have hL₀ : h₀.get? L = none := kts_self F
  have hfs : [env].filterMap (·.frame) = [L] := by simp [hf]
  refine codeT_call_def (fd := fnOf name qual params body scope dV kV doc pm an cdv ct) (body := body) (binds := binds) hroom ((X₀.keeps F.keep) _ _ ho) rfl (T.nolimit.keeps F.keep) (codeRec_of (X₀.keeps F.keep) hcd) rfl hbind hcell hloc (fun h₁ hns hk₁ => ?_) hco hgen hk
  refine wpT_mono (h _ s.heap.objs.size h₁ FG ⟨hns, fun b o e => hk₁ b o (of_hideAll _ e), Nat.le_of_eq (hideAll_size _ _)⟩
    (fun p hp => ⟨hk₁ _ _ (N p hp).1, Nat.ne_of_lt (Heap.lt_size (N p hp).1), hideAll_none _ (List.mem_map_of_mem hp)⟩) BG (X₀.keeps st) (T.keeps st) (fun b hb => ?_)) (fun fl s' hl => ?_) fun _ _ y => y
  · rw [hfs] at hb
    rw [List.mem_singleton.mp hb]
    obtain ⟨oL, es, ep, hL, hLd, _⟩ := FG.ns
    exact ⟨oL, es, ep, hL, hLd⟩
  · obtain ⟨g', L', m', news', T', F', N', k⟩ := hl
    obtain ⟨oL, es, ep, hL, hLd, hrest⟩ := FG.ns
    obtain ⟨sl, hs⟩ := T'.up hL
    have up : ∀ b o, h₀.get? b = some o → g'.get? b = some o := fun b o e => T'.other b o (st b o e) (by
      rw [hfs]; intro q
      rw [List.mem_singleton.mp q, hL₀] at e; cases e)
    refine k ⟨⟨_, es, ep, F'.keep _ _ hs, hLd, hrest⟩, fun b o e => F'.keep b o (up b o e), F.above⟩ (fun q hq => ⟨(N' q hq).1, fun z => ?_, kts_none up (N' q hq).2.2⟩)
    have := (N' q hq).2.2
    first
      | (rw [z, hs] at this; cases this)
      | (rw [← z, hs] at this; cases this)
end
end Mine
end
section
theorem Mine.fresh_X4 : True := by
  w_top off
  trivial
open PySem PySem.W PyProof.Rows PySem.Spec PySem.Calls
set_option Elab.async false
set_option maxRecDepth 100000
set_option maxHeartbeats 4000000
namespace Mine
section
variable {prog : Program} {w : World} {A₀ : Around} {E : Value → Shared → Prop} {s' : Shared} {base g g₀ G : Heap} {outer : List Env} {L a e : Addr} {m : Str → Option Value} {name : Str} {scope : Scope} {cd : Value}
  {b₀ b₁ : Stmt} {suite suite₁ : List Stmt} {pos np pos₁ np₁ : Pos} {rest : List ExceptHandler} {Q : Flow → Shared → Prop} {news : List (Addr × Obj)} {KF : Frag}
  {p : Program} {loose : List Str} {mean : ExcName → Option Value} {mg mb : Str → Option Value} {x x₁ : Str} {X T' T₁ : String}
/-- the first clause passes it over, the second takes it -/
theorem caught_second (R : RaisedSN base G (envOf name scope L a cd :: outer) e (.type X) news s'.heap) (F : Fr g L G m) (K : Below A₀ base outer g) (hsm : G.UpToSlots s'.heap) (XB : KF.In base) (TB : Top p loose mean mg mb base)
    (D : KtsDicts (outer.filterMap (·.frame)) g)
    (ex₁ : nsIn KF mainGlobals x₁ = some none) (hv₁ : bootBuiltins x₁ = some (.type T₁)) (hn₁ : x₁ ≠ "__name__")
    (hexc₁ : isSubtype (.type T₁) (.type "BaseException") = pure true) (hnt₁ : isSubtype (.type ((Manifest.find? T₁).elim "type" fun y => y.metatype)) (.type "tuple") = pure false) (hsub₁ : isSubtype (.type X) (.type T₁) = pure false)
    (ex : nsIn KF mainGlobals x = some none) (hv : bootBuiltins x = some (.type T')) (hn' : x ≠ "__name__")
    (hexc : isSubtype (.type T') (.type "BaseException") = pure true) (hnt : isSubtype (.type ((Manifest.find? T').elim "type" fun y => y.metatype)) (.type "tuple") = pure false) (hsub : isSubtype (.type X) (.type T') = pure true)
    (k : ∀ h' g', KtsTurn (outer.filterMap (·.frame)) g g' → Fr g' L h' m → News g' L h' news → Below A₀ base outer g' → KF.In g' → Top p loose mean mg mb g' →
      wpAny (model prog w) ((A₀.deeper (envOf name scope L a cd)).mark (some (.ref e))) (execs (b₀ :: suite) (envOf name scope L a cd)) Q E { s' with heap := h' })
    (hk : scope.kind = .function := by rfl) (hx₁ : (envOf name scope L a cd).kindOf x₁ = some .globalImplicit := by rfl) (hd₁ : (x₁ == ("__debug__" : Str)) = false := by decide)
    (hx : (envOf name scope L a cd).kindOf x = some .globalImplicit := by rfl) (hd : (x == ("__debug__" : Str)) = false := by decide)
    (hE : PassesOwnAt (model prog w) ((A₀.deeper (envOf name scope L a cd)).mark (some (.ref e))) (A₀.deeper (envOf name scope L a cd)) (envOf name scope L a cd) E := by passes_own) :
    wpAny (model prog w) (A₀.deeper (envOf name scope L a cd)) (noteFrame (.ref e) (envOf name scope L a cd))
      (fun _ s₂ => wpAny (model prog w) (A₀.deeper (envOf name scope L a cd)) (setFlight (.ref e) none) (fun _ s₃ =>
        wpAny (model prog w) (A₀.deeper (envOf name scope L a cd)) (handleBy (.ref e) (envOf name scope L a cd) (.ExceptHandler (some (.Name x₁ np₁)) none (b₁ :: suite₁) pos₁ :: .ExceptHandler (some (.Name x np)) none (b₀ :: suite) pos :: rest)) Q E s₃) E s₂) E s' := by
  obtain ⟨B, a0, hB, hBG, hl, hfl⟩ := R
  have hL : B.get? L = none := by
    obtain ⟨_, ⟨L', _, hf, hn', _⟩, _⟩ := hfl.2.2.1
    obtain rfl : L = L' := Option.some.inj hf
    exact hn'
  refine wpAny_looks_onW (Around.frames_deeper K.stack) rfl hfl fun h₄ hheld₄ hsm₄ => wpAny_landsW hheld₄ fun h₅ hheld hsm₅' => ?_
  have hsm₅ := hsm₄.trans hsm₅'
  obtain ⟨g₅, T₅, F₅, K₅⟩ := kts_ground K F hBG hheld.1 (hsm.trans hsm₅)
  have P₅ : TopRead p loose mg mb g₅ := topRead_of (TB.keeps K₅.stays)
  obtain ⟨ob, hob, hobc⟩ := hheld.there
  refine wpAny_handleBy_builtin (X := X) (T := T₁) (b := false) hexc₁ hnt₁ hsub₁ (name_B F₅ (XB.keeps K₅.stays) P₅ ex₁ hv₁ hn₁ ⟨rfl, ⟨ob, hob, hobc⟩, ?_⟩ hk hx₁ hd₁)
  refine wpAny_handleBy_builtin (X := X) (T := T') (b := true) hexc hnt hsub (name_B F₅ (XB.keeps K₅.stays) P₅ ex hv hn' ⟨rfl, ⟨ob, hob, hobc⟩, ?_⟩ hk hx hd)
  refine lands_againW hheld fun h₆ hfl₆ hsm₆ => ?_
  obtain ⟨g₆, T₆, F₆, K₆⟩ := kts_ground K F hBG hfl₆.1 ((hsm.trans hsm₅).trans hsm₆)
  exact wpAny_passesOwnAt hE (k h₆ g₆ T₆ F₆ (fun q hq => ⟨hfl₆.1 _ _ (hl q hq).1, (fun z => by have := (hl q hq).1; rw [z, hL] at this; cases this), T₆.none_ _ (kts_none F.keep (hl q hq).2.1)⟩) K₆ (XB.keeps K₆.stays) (TB.keeps K₆.stays))
end
end Mine
end
section
theorem Mine.fresh_Y01 : True := by
  w_top off
  trivial
open PySem PySem.W PyProof.Rows PySem.Spec PySem.Calls
set_option Elab.async false
set_option maxRecDepth 100000
set_option maxHeartbeats 8000000
namespace Mine
section
variable {w : World} {A A₀ : Around} {s : Shared} {h₀ : Heap} {L : Addr} {m : Str → Option Value} {env : Env} {news : List (Addr × Obj)} {p : Program} {loose : List Str} {mean : ExcName → Option Value} {mg mb : Str → Option Value}
local macro_rules | `(tactic| walk_at "eval Name") => `(tactic| (k_here; k_dflt (refine' ld ?k1 ?k2 ?_; (case k1 => k_asm); (case k2 => first | exact rfl | (repeat (first | assumption | exact if_pos rfl | refine (if_neg (by decide)).trans ?_))); k_whole)))
theorem sizes32 : ∀ wd : Nat, wd < 64 → wd ≠ 0 → ¬ 32 % wd = 0 → Builtin.Range.rangeSize 0 ((32 : Nat) : Int) (wd : Int) = ((32 / wd + 1 : Nat) : Int) ∧ Builtin.Range.small 0 ((32 : Nat) : Int) (wd : Int) = true ∧ 32 / wd * wd < 32 ∧ 32 < 32 / wd * wd + wd := by
  decide
theorem turned01 {data : Array UInt8} {t u : Tok} {wd : Nat} {Q E : Value → Shared → Prop}
    (B : Below A₀ h₀ [] h₀) (F : Fr h₀ L s.heap m) (KX : (hd01.heap_39 w.params).In h₀) (N : News h₀ L s.heap news) (T : Top p loose mean mg mb h₀) (hA : A.frames = some [env]) (hf : env.frame = some L) (hke : env.scope.kind = .function)
    (hz : data.size = 32) (hwz : wd < 64) (hroom : A.depth + 1 < recursionLimit) (hg : A.guards = some []) (hh : A.handled = none)
    (k : ∀ v h' tk, ((wd = 0 ∧ ∃ t', v = .str (Str.ofString "ValueError") t') ∨ (wd ≠ 0 ∧ 32 % wd ≠ 0 ∧ ∃ t', v = .str (Str.ofString "IndexError") t') ∨ (wd ≠ 0 ∧ 32 % wd = 0 ∧ ∃ t', v = .bytes (swapB data wd) t')) → Fr h₀ L h' m → News h₀ L h' news → Q v { s with heap := h', toks := tk }) :
    wpT (model PySem.Challenge.rw_kt0002_01.row.prog w) A (call (.ref 53) [.bytes data t, .int (wd : Int) u]) Q E s := by
  revert KX; k_fill; intro KX
  refine wpT_call ?_
  refine' codeT_catch (binds := [(Str.ofString "octets", .bytes data t), (Str.ofString "width", .int (wd : Int) u)]) B F KX N T hA hf hke ?k6 ?k7 (by omega) ?k9 ?kB ?_ ?c5 ?c2 ?c3 ?c4
  case k6 => k_is
  case k7 => k_is
  case k9 => exact BindsTo.of_eq rfl
  case kB => exact locs rfl
  case c5 => decide
  case c2 => exact rfl
  case c3 => exact rfl
  case c4 => exact rfl
  k_whole
  intro g L' h₁ FG F' N' B' KX' T' D'
  refine wpT_mono (E := fun _ _ => False) ?_ (fun _ _ x => x) (fun _ _ x => x.elim)
  refine execsT_cons (TryT ?_)
  refine execsT_cons (ReturnT (CallT (a := 21) 2 rfl (Nat.le_of_ble_eq_true rfl) ?_))
  walk1
  refine ⟨rfl, splicedT_cons (wpT_any ?_)⟩
  walk1
  refine splicedT_cons (wpT_any ?_)
  walk1
  refine splicedT_nil ⟨⟨_, _, (KX'.keeps F'.keep) _ _ (by k_is), rfl⟩, ?_⟩
  by_cases h0 : wd = 0
  · subst h0
    refine' byteswapV01 B' F' KX' N' T' ?kA ?kf ?kk (by omega) ?hr hg hh ?_
    case kA => exact congrArg (Option.map (_ :: ·)) hA
    case kf => exact rfl
    case kk => exact rfl
    case hr => exact hroom
    intro g2 e h' tk F₂ U₂ R₂
    refine caught_second (KF := hd01.heap_39 w.params) R₂ F₂ B' U₂ KX T D' (by k_is) PyProof.Rows.Boot.«IndexError» (by decide) PySem.F.isExc_IndexError PySem.F.notTuple_IndexError (by rw [isSubtype_type]; kernel_rfl) (by k_is) PyProof.Rows.Boot.«ValueError» (by decide) PySem.F.isExc_ValueError PySem.F.notTuple_ValueError (by rw [isSubtype_type]; kernel_rfl) ?_
    intro h3 g3 T3 F3 N3 K3 X3 P3
    iterate 4 (first | walk1 | (dsimp only; walk1))
    dsimp only
    refine leaveS0_ F3 N3 T3 (fun Fk Nk => ?_)
    exact k _ _ _ (Or.inl ⟨rfl, _, rfl⟩) Fk Nk
  · by_cases hd : 32 % wd = 0
    · refine' byteswap01 B' F' KX' N' T' ?kA ?kf ?kk (by omega) (32 / wd) wd (by omega) (by omega) rfl ?ks hroom hg hh ?_
      case kA => exact congrArg (Option.map (_ :: ·)) hA
      case kf => exact rfl
      case kk => exact rfl
      case ks => rw [hz, Nat.div_mul_cancel (Nat.dvd_of_mod_eq_zero hd)]
      intro t' h' tk F₃ N₃
      exact leaveS0_ F₃ N₃ KtsTurn.refl (fun Fk Nk => k _ _ _ (Or.inr (Or.inr ⟨h0, hd, t', rfl⟩)) Fk Nk)
    · obtain ⟨hs1, hs2, hs3, hs4⟩ := sizes32 wd hwz h0 hd
      refine' byteswapE01 B' F' KX' N' T' ?kA ?kf ?kk (by omega) (32 / wd) wd (by omega) (by omega) rfl (by rw [hz]; exact hs3) (by rw [hz]; exact hs4) (by rw [hz]; exact hs1) (by rw [hz]; exact hs2) hroom hg hh ?_
      case kA => exact congrArg (Option.map (_ :: ·)) hA
      case kf => exact rfl
      case kk => exact rfl
      intro g2 e h' tk F₂ U₂ R₂
      refine caught_SN0 (g₀ := g) (KF := hd01.heap_39 w.params) R₂ F₂ B' U₂ KX T D' KtsTurn.refl (by k_is) PyProof.Rows.Boot.«IndexError» (by decide) PySem.F.isExc_IndexError PySem.F.notTuple_IndexError (by rw [isSubtype_type]; kernel_rfl) ?_
      intro h3 g3 T3 F3 N3 K3 X3 P3 D3
      iterate 4 (first | walk1 | (dsimp only; walk1))
      dsimp only
      refine leaveS0_ F3 N3 T3 (fun Fk Nk => ?_)
      exact k _ _ _ (Or.inr (Or.inl ⟨h0, hd, _, rfl⟩)) Fk Nk
end
end Mine
end
section
theorem Mine.fresh_P4 : True := by
  w_top off
  trivial
open PySem PyProof.Rows PySem.Spec
set_option Elab.async false
namespace Mine
def oLt : List Nat := [38, 108, 116, 59]
def oGt : List Nat := [38, 103, 116, 59]
def oQt : List Nat := [38, 113, 117, 111, 116, 59]
def oAm : List Nat := [38, 97, 109, 112, 59]
def refL (c : Nat) : List Nat := if c = 38 then oAm else if c = 60 then oLt else if c = 62 then oGt else if c = 34 then oQt else [c]
def u1 (c : Nat) : List Nat := if c = 60 then [60] else refL c
def u2 (c : Nat) : List Nat := if c = 62 then [62] else u1 c
def u3 (c : Nat) : List Nat := if c = 34 then [34] else u2 c

theorem rep_pass {y z : List Nat} : ∀ {r v : List Nat}, 38 ∉ r → rep (38 :: y) z 0 (r ++ v) = r ++ rep (38 :: y) z 0 v
  | [], _, _ => rfl
  | c :: r, v, h => by
    have hc : c ≠ 38 := fun e => h (e ▸ List.mem_cons_self ..)
    have ih := rep_pass (y := y) (z := z) (r := r) (v := v) fun m => h (List.mem_cons_of_mem _ m)
    show rep (38 :: y) z 0 (c :: (r ++ v)) = c :: (r ++ rep (38 :: y) z 0 v)
    rw [rep, if_neg (by simp [List.isPrefixOf, Ne.symm hc]), ih]
theorem rep_tok {old new : List Nat} {f g : Nat → List Nat} (h : ∀ c v, rep old new 0 (f c ++ v) = g c ++ rep old new 0 v) : ∀ (ts b : List Nat), rep old new 0 (ts.flatMap f ++ b) = ts.flatMap g ++ rep old new 0 b
  | [], _ => rfl
  | c :: ts, b => by
    rw [List.flatMap_cons, List.flatMap_cons, List.append_assoc, h, rep_tok h ts b, List.append_assoc]
theorem step1 (c : Nat) (v : List Nat) : rep oLt [60] 0 (refL c ++ v) = u1 c ++ rep oLt [60] 0 v := by
  unfold u1 refL
  split
  · rename_i h; rw [if_neg (by omega)]; rfl
  · split
    · rfl
    · split
      · rfl
      · split
        · rfl
        · exact rep_pass (r := [c]) (by simp; omega)
theorem step2 (c : Nat) (v : List Nat) : rep oGt [62] 0 (u1 c ++ v) = u2 c ++ rep oGt [62] 0 v := by
  unfold u2 u1 refL
  split
  · rename_i h; rw [if_neg (by omega)]; exact rep_pass (r := [60]) (by decide)
  · split
    · rename_i h; rw [if_neg (by omega)]; rfl
    · split
      · rfl
      · split
        · rfl
        · exact rep_pass (r := [c]) (by simp; omega)
theorem step3 (c : Nat) (v : List Nat) : rep oQt [34] 0 (u2 c ++ v) = u3 c ++ rep oQt [34] 0 v := by
  by_cases h1 : c = 38
  · subst h1; rfl
  by_cases h2 : c = 60
  · subst h2; rfl
  by_cases h3 : c = 62
  · subst h3; rfl
  by_cases h4 : c = 34
  · subst h4; rfl
  simp only [u3, u2, u1, refL, if_neg h1, if_neg h2, if_neg h3, if_neg h4]
  exact rep_pass (r := [c]) (by simp; omega)
theorem step4 (c : Nat) (v : List Nat) : rep oAm [38] 0 (u3 c ++ v) = [c] ++ rep oAm [38] 0 v := by
  by_cases h1 : c = 38
  · subst h1; rfl
  by_cases h2 : c = 60
  · subst h2; rfl
  by_cases h3 : c = 62
  · subst h3; rfl
  by_cases h4 : c = 34
  · subst h4; rfl
  simp only [u3, u2, u1, refL, if_neg h1, if_neg h2, if_neg h3, if_neg h4]
  exact rep_pass (r := [c]) (by simp; omega)
def unL (l : List Nat) : List Nat := rep oAm [38] 0 (rep oQt [34] 0 (rep oGt [62] 0 (rep oLt [60] 0 l)))
/-- what the four replacings leave as it stands at the end -/
def Still (b : List Nat) : Prop := rep oLt [60] 0 b = b ∧ rep oGt [62] 0 b = b ∧ rep oQt [34] 0 b = b ∧ rep oAm [38] 0 b = b
theorem unL_mid {a b : List Nat} (ts : List Nat) (ha : 38 ∉ a) (hb : Still b) : unL (a ++ (ts.flatMap refL ++ b)) = a ++ (ts ++ b) := by
  unfold unL
  have e1 : rep oLt [60] 0 (a ++ (ts.flatMap refL ++ b)) = a ++ (ts.flatMap u1 ++ b) := by rw [show oLt = 38 :: [108, 116, 59] from rfl, rep_pass ha]; rw [show 38 :: [108, 116, 59] = oLt from rfl, rep_tok step1, hb.1]
  have e2 : rep oGt [62] 0 (a ++ (ts.flatMap u1 ++ b)) = a ++ (ts.flatMap u2 ++ b) := by rw [show oGt = 38 :: [103, 116, 59] from rfl, rep_pass ha]; rw [show 38 :: [103, 116, 59] = oGt from rfl, rep_tok step2, hb.2.1]
  have e3 : rep oQt [34] 0 (a ++ (ts.flatMap u2 ++ b)) = a ++ (ts.flatMap u3 ++ b) := by rw [show oQt = 38 :: [113, 117, 111, 116, 59] from rfl, rep_pass ha]; rw [show 38 :: [113, 117, 111, 116, 59] = oQt from rfl, rep_tok step3, hb.2.2.1]
  have e4 : rep oAm [38] 0 (a ++ (ts.flatMap u3 ++ b)) = a ++ (ts.flatMap (fun c => [c]) ++ b) := by rw [show oAm = 38 :: [97, 109, 112, 59] from rfl, rep_pass ha]; rw [show 38 :: [97, 109, 112, 59] = oAm from rfl, rep_tok step4, hb.2.2.2]
  rw [e1, e2, e3, e4]
  simp
theorem still_nil : Still [] := ⟨rfl, rfl, rfl, rfl⟩
theorem still_take : ∀ c ∈ [38, 60, 62, 34], ∀ off < (refL c).length, Still ((refL c).take off) := by unfold Still; decide
theorem rest_noamp : ∀ c ∈ [38, 60, 62, 34], ∀ off < (refL c).length, 0 < off → 38 ∉ (refL c).drop off := by decide

theorem rep_one (c : Nat) (z : List Nat) : ∀ l : List Nat, rep [c] z 0 l = l.flatMap fun d => if d = c then z else [d]
  | [] => rfl
  | d :: r => by
    rw [List.flatMap_cons, ← rep_one c z r, rep]
    by_cases h : d = c
    · subst h; simp [List.isPrefixOf]
    · simp [List.isPrefixOf, h, Ne.symm h]
def escL (l : List Nat) : List Nat := rep [34] oQt 0 (rep [60] oLt 0 (rep [62] oGt 0 (rep [38] oAm 0 l)))
theorem escL_eq (l : List Nat) : escL l = l.flatMap refL := by
  unfold escL
  rw [rep_one, rep_one, rep_one, rep_one, List.flatMap_assoc, List.flatMap_assoc, List.flatMap_assoc]
  congr 1
  funext d
  by_cases h1 : d = 38
  · subst h1; rfl
  by_cases h2 : d = 60
  · subst h2; rfl
  by_cases h3 : d = 62
  · subst h3; rfl
  by_cases h4 : d = 34
  · subst h4; rfl
  simp [refL, h1, h2, h3, h4]
end Mine
end
section
theorem Mine.fresh_P5 : True := by
  w_top off
  trivial
open PySem PyProof.Rows PySem.Spec
set_option Elab.async false
namespace Mine
theorem special_of_off {c off : Nat} (h0 : 0 < off) (h : off < (refL c).length) : c ∈ [38, 60, 62, 34] := by
  by_cases h1 : c = 38
  · simp [h1]
  by_cases h2 : c = 60
  · simp [h2]
  by_cases h3 : c = 62
  · simp [h3]
  by_cases h4 : c = 34
  · simp [h4]
  rw [show refL c = [c] by simp [refL, h1, h2, h3, h4]] at h
  simp at h; omega
theorem rest_esc : ∀ c ∈ [38, 60, 62, 34], ∀ off < (refL c).length, 0 < off → ((refL c).drop off).flatMap refL = (refL c).drop off := by decide
theorem begun_esc : ∀ c ∈ [38, 60, 62, 34], ∀ off < (refL c).length, 0 < off → ((refL c).take off).flatMap refL = oAm ++ ((refL c).take off).drop 1 := by decide

/-- the ring where a sign's writing begins -/
theorem told_at (a b : List Nat) : unL (b.flatMap refL ++ a.flatMap refL) = b ++ a ∧ escL (b ++ a) = b.flatMap refL ++ a.flatMap refL := by
  constructor
  · have h := unL_mid (a := []) (b := []) (b ++ a) (by simp) still_nil
    simpa using h
  · rw [escL_eq, List.flatMap_append]
/-- the ring where a reference is cut -/
theorem told_in {c off : Nat} (a b : List Nat) (h0 : 0 < off) (h : off < (refL c).length) :
    unL ((refL c).drop off ++ (b.flatMap refL ++ a.flatMap refL ++ (refL c).take off)) = (refL c).drop off ++ (b ++ a ++ (refL c).take off) ∧
    escL ((refL c).drop off ++ (b ++ a ++ (refL c).take off)) = (refL c).drop off ++ (b.flatMap refL ++ a.flatMap refL) ++ oAm ++ ((refL c).take off).drop 1 := by
  have hc := special_of_off h0 h
  constructor
  · have e := unL_mid (b ++ a) (rest_noamp c hc off h h0) (still_take c hc off h)
    rw [List.flatMap_append] at e
    exact e
  · rw [escL_eq, List.flatMap_append, List.flatMap_append, List.flatMap_append, rest_esc c hc off h h0, begun_esc c hc off h h0]
    simp only [List.append_assoc]

/-- a ring, begun anew -/
def rot (l : List Nat) (p : Nat) : List Nat := l.drop p ++ l.take p
theorem rot_rot (l : List Nat) (p c : Nat) (hp : p < l.length) (hc : c ≤ l.length) : (rot l p).drop c ++ (rot l p).take c = rot l ((p + c) % l.length) := by
  unfold rot
  by_cases h : p + c < l.length
  · rw [Nat.mod_eq_of_lt h]
    rw [List.drop_append_of_le_length (by rw [List.length_drop]; omega), List.take_append_of_le_length (by rw [List.length_drop]; omega), List.drop_drop, List.append_assoc]
    congr 1
    rw [List.take_add]
  · have e : (p + c) % l.length = p + c - l.length := by
      rw [Nat.mod_eq_sub_mod (by omega), Nat.mod_eq_of_lt (by omega)]
    rw [e]
    have hd : (l.drop p).length = l.length - p := List.length_drop ..
    have hk : c - (l.length - p) = p + c - l.length := by omega
    have hq : p + c - l.length ≤ p := by omega
    have e1 : (l.drop p ++ l.take p).drop c = (l.take p).drop (p + c - l.length) := by
      rw [List.drop_append, List.drop_eq_nil_of_le (as := l.drop p) (by omega), hd, hk, List.nil_append]
    have e2 : (l.drop p ++ l.take p).take c = l.drop p ++ (l.take p).take (p + c - l.length) := by
      rw [List.take_append, List.take_of_length_le (l := l.drop p) (by omega), hd, hk]
    rw [e1, e2, ← List.append_assoc, List.take_take, Nat.min_eq_left hq]
    congr 1
    have e3 : (l.take p).drop (p + c - l.length) ++ l.drop p = (l.take p ++ l.drop p).drop (p + c - l.length) := by
      rw [List.drop_append_of_le_length (by rw [List.length_take]; omega)]
    rw [e3, List.take_append_drop]
end Mine
end
section
theorem Mine.fresh_F02p : True := by
  w_top off
  trivial
open PySem PySem.W PyProof.Rows PySem.Spec PySem.Calls PyProof.V
set_option Elab.async false
namespace Mine
def refS (x : Str) : Str := if x = Str.ofString "&" then Str.ofString "&amp;" else if x = Str.ofString "<" then Str.ofString "&lt;" else if x = Str.ofString ">" then Str.ofString "&gt;" else if x = Str.ofString "\"" then Str.ofString "&quot;" else x
theorem ref_look (x : Str) (t1 t2 t3 t4 t5 t6 t7 t8 : Tok) :
    (Spec.lookup (PyData.str x) (strData [(.str (Str.ofString "&") t1, .str (Str.ofString "&amp;") t2), (.str (Str.ofString "<") t3, .str (Str.ofString "&lt;") t4), (.str (Str.ofString ">") t5, .str (Str.ofString "&gt;") t6), (.str (Str.ofString "\"") t7, .str (Str.ofString "&quot;") t8)])).getD (PyData.str x) = PyData.str (refS x) := by
  unfold refS
  by_cases h1 : x = Str.ofString "&"
  · subst h1; rfl
  by_cases h2 : x = Str.ofString "<"
  · subst h2; rfl
  by_cases h3 : x = Str.ofString ">"
  · subst h3; rfl
  by_cases h4 : x = Str.ofString "\""
  · subst h4; rfl
  rw [if_neg h1, if_neg h2, if_neg h3, if_neg h4]
  have ns : ∀ y : Str, ¬ x = y → ¬ Spec.same (PyData.str y) (PyData.str x) = true := fun y h e => by
    have e' : (y == x) = true := by simpa [Spec.same] using e
    exact h (eq_of_beq e').symm
  simp only [Spec.lookup, strData, if_neg (ns _ h1), if_neg (ns _ h2), if_neg (ns _ h3), if_neg (ns _ h4)]
  rfl
end Mine
end
section
theorem Mine.fresh_P6 : True := by
  w_top off
  trivial
open PySem PySem.W PyProof.Rows PySem.Spec PySem.Calls
set_option Elab.async false
set_option maxRecDepth 100000
namespace Mine
theorem slice_from (x : Str) {j : Nat} (h : j ≤ x.length) : (Txt.slice x (some (j : Int)) none).cps.toList = x.cps.toList.drop j := by
  have e := eq_of_beq (slice_closes_fromL (x := x) (i := (j : Int)) (b := x.length) (by omega) (by omega) rfl)
  rw [e]
  show (x.cps.toList.drop (j : Int).toNat).take _ = _
  rw [Int.toNat_natCast]
  refine List.take_of_length_le ?_
  rw [List.length_drop]
  have := toList_len x
  omega
theorem slice_to (x : Str) {j : Nat} (h : j ≤ x.length) : (Txt.slice x none (some (j : Int))).cps.toList = x.cps.toList.take j := by
  have e := eq_of_beq (slice_closes_toL (x := x) (j := (j : Int)) (by omega) (by omega))
  rw [e]
  show (x.cps.toList.drop (0 : Int).toNat).take ((j : Int) - 0).toNat = _
  rw [Int.sub_zero, Int.toNat_natCast]; rfl
theorem wr_spec (x : Str) (t1 t2 : Tok) : (Rp.rep (escT x) (Str.ofString "\"", t1, Str.ofString "&quot;", t2)).cps.toList = escL x.cps.toList := by
  show (Txt.replace (escT x) (Str.ofString "\"") (Str.ofString "&quot;")).cps.toList = _
  unfold escT
  rw [rep_spec _ _ _ (by decide), rep_spec _ _ _ (by decide), rep_spec _ _ _ (by decide), rep_spec _ _ _ (by decide)]
  rfl
theorem un_spec (x : Str) (t1 t2 : Tok) : (ampT (Rp.rep (unT x) (Str.ofString "&quot;", t1, Str.ofString "\"", t2))).cps.toList = unL x.cps.toList := by
  show (Txt.replace (Txt.replace (unT x) (Str.ofString "&quot;") (Str.ofString "\"")) (Str.ofString "&amp;") (Str.ofString "&")).cps.toList = _
  unfold unT
  rw [rep_spec _ _ _ (by decide), rep_spec _ _ _ (by decide), rep_spec _ _ _ (by decide), rep_spec _ _ _ (by decide)]
  rfl
theorem refS_spec (c : Nat) : (refS ⟨#[c]⟩).cps.toList = refL c := by
  unfold refS refL
  by_cases h1 : c = 38
  · subst h1; rfl
  by_cases h2 : c = 60
  · subst h2; rfl
  by_cases h3 : c = 62
  · subst h3; rfl
  by_cases h4 : c = 34
  · subst h4; rfl
  have ne : ∀ (d : Nat) (y : Str), y = ⟨#[d]⟩ → c ≠ d → ¬ ((⟨#[c]⟩ : Str) = y) := fun d y hy hc e => by
    rw [hy] at e
    have := congrArg (fun z : Str => z.cps.toList) e
    simp at this
    exact hc this
  rw [if_neg (ne 38 (Str.ofString "&") rfl h1), if_neg (ne 60 (Str.ofString "<") rfl h2), if_neg (ne 62 (Str.ofString ">") rfl h3), if_neg (ne 34 (Str.ofString "\"") rfl h4), if_neg h1, if_neg h2, if_neg h3, if_neg h4]
theorem refL_len (c : Nat) : 1 ≤ (refL c).length ∧ (refL c).length ≤ 6 := by
  unfold refL
  split
  · decide
  · split
    · decide
    · split
      · decide
      · split
        · decide
        · exact ⟨Nat.le_refl _, by simp⟩
theorem refL_low (c : Nat) (h : c < 128) : ∀ d ∈ refL c, d < 128 := by
  unfold refL
  split
  · decide
  · split
    · decide
    · split
      · decide
      · split
        · decide
        · intro d hd
          obtain rfl : d = c := by simpa using hd
          exact h
theorem flat_len : ∀ l : List Nat, l.length ≤ (l.flatMap refL).length ∧ (l.flatMap refL).length ≤ 6 * l.length
  | [] => ⟨Nat.le_refl _, Nat.le_refl _⟩
  | c :: l => by
    have h1 := refL_len c
    have h2 := flat_len l
    rw [List.flatMap_cons, List.length_append, List.length_cons]
    omega
theorem flat_low {l : List Nat} (h : ∀ c ∈ l, c < 128) : ∀ d ∈ l.flatMap refL, d < 128 := fun d hd => by
  obtain ⟨c, hc, hd⟩ := List.mem_flatMap.mp hd
  exact refL_low c (h c hc) d hd
/-- the pieces -/
abbrev psOf (ts : List Nat) : List Str := ts.map fun c => refS ⟨#[c]⟩
theorem ps_flat : ∀ ts : List Nat, ((psOf ts).map fun x => x.cps.toList).flatten = ts.flatMap refL
  | [] => rfl
  | c :: ts => by
    have ih := ps_flat ts
    rw [List.flatMap_cons, ← ih, ← refS_spec c]
    rfl
theorem ps_join (ts : List Nat) : (Txt.join (Str.ofString "") (psOf ts)).cps.toList = ts.flatMap refL := by
  rw [join_list_eq, ps_flat]
theorem ps_lens (ts : List Nat) : ((psOf ts).map (·.length)).sum = (ts.flatMap refL).length := by
  have := congrArg List.length (ps_join ts)
  rw [← this, ← join_len]
  simp [Str.length]
theorem place_in : ∀ (ts : List Nat) (p : Nat), p < (ts.flatMap refL).length → ∃ j off, j < ts.length ∧ p = ((ts.take j).flatMap refL).length + off ∧ off < (refL (ts.getD j 0)).length
  | [], p, h => by simp at h
  | c :: ts, p, h => by
    by_cases hp : p < (refL c).length
    · exact ⟨0, p, by simp, by simp, by simpa using hp⟩
    · rw [List.flatMap_cons, List.length_append] at h
      obtain ⟨j, off, h1, h2, h3⟩ := place_in ts (p - (refL c).length) (by omega)
      refine ⟨j + 1, off, by simpa using h1, ?_, by simpa using h3⟩
      rw [List.take_succ_cons, List.flatMap_cons, List.length_append]; omega
end Mine
end
section
theorem Mine.fresh_P7 : True := by
  w_top off
  trivial
open PySem PySem.W PyProof.Rows PySem.Spec PySem.Calls
set_option Elab.async false
set_option maxRecDepth 100000
namespace Mine
def toldR (text : Str) (ps : List Str) (j off : Nat) : Str :=
  if off = 0 then Txt.slice text (some (j : Int)) none ++ Txt.slice text none (some (j : Int))
  else Txt.slice (ps.getD j Str.empty) (some (off : Int)) none ++ Txt.slice text (some ((j : Int) + 1)) none ++ Txt.slice text none (some (j : Int)) ++ Txt.slice (ps.getD j Str.empty) none (some (off : Int))
def toldA (ps : List Str) (j off : Nat) : Str :=
  if off = 0 then Txt.join (Str.ofString "") (ps.drop j ++ ps.take j)
  else Txt.slice (ps.getD j Str.empty) (some (off : Int)) none ++ Txt.join (Str.ofString "") (ps.drop (j + 1) ++ ps.take j) ++ Str.ofString "&amp;" ++ Txt.slice (Txt.slice (ps.getD j Str.empty) none (some (off : Int))) (some 1) none
theorem str_ext {x y : Str} (h : x.cps.toList = y.cps.toList) : x = y := by
  cases x; cases y; congr 1; exact Array.toList_inj.mp h
theorem ps_get {ts : List Nat} {j : Nat} (hj : j < ts.length) : ((psOf ts).getD j Str.empty).cps.toList = refL (ts.getD j 0) := by
  rw [List.getD_eq_getElem?_getD, List.getD_eq_getElem?_getD, List.getElem?_map, List.getElem?_eq_getElem hj]
  exact refS_spec _
theorem flat_at {ts : List Nat} {j : Nat} (hj : j < ts.length) : ts.flatMap refL = (ts.take j).flatMap refL ++ (refL (ts.getD j 0) ++ (ts.drop (j + 1)).flatMap refL) := by
  have e : ts = ts.take j ++ (ts.getD j 0 :: ts.drop (j + 1)) := by
    rw [List.getD_eq_getElem?_getD, List.getElem?_eq_getElem hj]
    show ts = ts.take j ++ (ts[j] :: ts.drop (j + 1))
    rw [List.getElem_cons_drop, List.take_append_drop]
  conv => lhs; rw [e]
  rw [List.flatMap_append, List.flatMap_cons]
theorem told_reads {x : Str} {j off : Nat} (hj : j < x.cps.toList.length) (ho : off < (refL (x.cps.toList.getD j 0)).length) :
    unL (rot (x.cps.toList.flatMap refL) (((x.cps.toList.take j).flatMap refL).length + off)) = (toldR x (psOf x.cps.toList) j off).cps.toList ∧
    escL (toldR x (psOf x.cps.toList) j off).cps.toList = (toldA (psOf x.cps.toList) j off).cps.toList := by
  have hx : x.length = x.cps.toList.length := by simp [Str.length]
  have hp := ps_get hj
  have hpl : ((psOf x.cps.toList).getD j Str.empty).length = (refL (x.cps.toList.getD j 0)).length := by rw [← hp]; simp [Str.length]
  have hw := flat_at hj
  unfold rot toldR toldA
  by_cases h0 : off = 0
  · subst h0
    rw [if_pos rfl, if_pos rfl, Nat.add_zero]
    have ew : x.cps.toList.flatMap refL = (x.cps.toList.take j).flatMap refL ++ (x.cps.toList.drop j).flatMap refL := by
      rw [← List.flatMap_append, List.take_append_drop]
    have e1 : (x.cps.toList.flatMap refL).drop (((x.cps.toList.take j).flatMap refL).length) = (x.cps.toList.drop j).flatMap refL := by
      rw [ew]; exact List.drop_left
    have e2 : (x.cps.toList.flatMap refL).take (((x.cps.toList.take j).flatMap refL).length) = (x.cps.toList.take j).flatMap refL := by
      rw [ew]; exact List.take_left
    rw [e1, e2, Str.cps_append, Array.toList_append, slice_from _ (by omega), slice_to _ (by omega)]
    have ej : (psOf x.cps.toList).drop j ++ (psOf x.cps.toList).take j = psOf (x.cps.toList.drop j ++ x.cps.toList.take j) := by
      simp [psOf]
    rw [ej, ps_join, List.flatMap_append]
    exact told_at _ _
  · rw [if_neg h0, if_neg h0]
    have e1 : (x.cps.toList.flatMap refL).drop (((x.cps.toList.take j).flatMap refL).length + off) = (refL (x.cps.toList.getD j 0)).drop off ++ (x.cps.toList.drop (j + 1)).flatMap refL := by
      rw [hw, ← List.drop_drop, List.drop_left, List.drop_append_of_le_length (by omega)]
    have e2 : (x.cps.toList.flatMap refL).take (((x.cps.toList.take j).flatMap refL).length + off) = (x.cps.toList.take j).flatMap refL ++ (refL (x.cps.toList.getD j 0)).take off := by
      rw [hw, List.take_length_add_append, List.take_append_of_le_length (by omega)]
    have ej : (psOf x.cps.toList).drop (j + 1) ++ (psOf x.cps.toList).take j = psOf (x.cps.toList.drop (j + 1) ++ x.cps.toList.take j) := by
      simp [psOf]
    have es : ((j : Int) + 1) = ((j + 1 : Nat) : Int) := by omega
    have hc : (Txt.slice ((psOf x.cps.toList).getD j Str.empty) none (some (off : Int))).length = off := by
      have := congrArg List.length (slice_to ((psOf x.cps.toList).getD j Str.empty) (j := off) (by omega))
      rw [hp, List.length_take, Nat.min_eq_left (by omega)] at this
      simpa [Str.length] using this
    have e3 : (Txt.slice (Txt.slice ((psOf x.cps.toList).getD j Str.empty) none (some (off : Int))) (some 1) none).cps.toList = ((refL (x.cps.toList.getD j 0)).take off).drop 1 := by
      rw [show (some (1 : Int)) = some (((1 : Nat) : Int)) from rfl, slice_from _ (by omega), slice_to _ (by omega), hp]
    simp only [Str.cps_append, Array.toList_append]
    rw [e3, es, slice_from _ (by omega), slice_from _ (by omega), slice_to _ (by omega), slice_to _ (by omega), hp, ej, ps_join, e1, e2, List.flatMap_append]
    have := told_in (c := x.cps.toList.getD j 0) (off := off) (x.cps.toList.take j) (x.cps.toList.drop (j + 1)) (by omega) ho
    have ea : (Str.ofString "&amp;").cps.toList = oAm := rfl
    rw [ea]
    simpa only [List.append_assoc] using this
end Mine
end
section
theorem Mine.fresh_P9 : True := by
  w_top off
  trivial
open PySem PyProof.Rows PySem.Spec
set_option Elab.async false
set_option maxRecDepth 100000
namespace Mine
def noX (old x : List Nat) : Bool := (List.range x.length).all fun k => !((x.drop k).isPrefixOf old && decide ((x.drop k).length < old.length))
theorem noX_at {old x : List Nat} (h : noX old x = true) {k : Nat} (hk : k < x.length) : ¬ (x.drop k <+: old ∧ (x.drop k).length < old.length) := by
  intro ⟨h1, h2⟩
  have := List.all_eq_true.mp h k (List.mem_range.mpr hk)
  rw [List.isPrefixOf_iff_prefix.mpr h1, decide_eq_true h2] at this
  cases this
/-- nothing is found across the border -/
theorem rep_app {old new : List Nat} (ho : 1 ≤ old.length) : ∀ (n : Nat) (x v : List Nat), x.length ≤ n → (∀ k, k < x.length → ¬ (x.drop k <+: old ∧ (x.drop k).length < old.length)) → rep old new 0 (x ++ v) = rep old new 0 x ++ rep old new 0 v
  | _, [], _, _, _ => by simp [rep]
  | 0, _ :: _, _, h, _ => by simp at h
  | n + 1, c :: r, v, hn, hx => by
    rw [List.cons_append, rep, rep]
    by_cases hp : old <+: c :: r
    · have hp2 : old <+: c :: (r ++ v) := by rw [← List.cons_append]; exact hp.trans (List.prefix_append _ _)
      rw [if_pos (List.isPrefixOf_iff_prefix.mpr hp), if_pos (List.isPrefixOf_iff_prefix.mpr hp2), rep_skip, rep_skip _ _ _ r]
      have hl := hp.length_le
      rw [List.length_cons] at hl
      rw [List.drop_append_of_le_length (by omega)]
      rw [rep_app ho n (r.drop (old.length - 1)) v (by rw [List.length_drop]; simp at hn; omega) (fun k hk => ?_), List.append_assoc]
      have := hx (k + old.length) (by rw [List.length_drop] at hk; rw [List.length_cons]; omega)
      rw [show k + old.length = (old.length - 1 + k) + 1 by omega, List.drop_succ_cons] at this
      rwa [List.drop_drop]
    · have hp2 : ¬ old <+: c :: (r ++ v) := by
        rw [← List.cons_append]
        intro h2
        rcases Nat.lt_or_ge (c :: r).length old.length with hlt | hge
        · exact hx 0 (by simp) ⟨List.prefix_of_prefix_length_le (List.prefix_append _ _) h2 (Nat.le_of_lt hlt), by simpa using hlt⟩
        · exact hp (List.prefix_of_prefix_length_le h2 (List.prefix_append _ _) hge)
      rw [if_neg (fun q => hp (List.isPrefixOf_iff_prefix.mp q)), if_neg (fun q => hp2 (List.isPrefixOf_iff_prefix.mp q)), rep_app ho n r v (by simpa using hn) (fun k hk => by simpa using hx (k + 1) (by simpa using hk)), List.cons_append]
def chain : List (List Nat × List Nat) → List Nat → List Nat
  | [], l => l
  | s :: r, l => chain r (rep s.1 s.2 0 l)
def okS : List (List Nat × List Nat) → List Nat → Bool
  | [], _ => true
  | s :: r, x => noX s.1 x && decide (1 ≤ s.1.length) && okS r (rep s.1 s.2 0 x)
theorem chain_app : ∀ (ss : List (List Nat × List Nat)) (x v : List Nat), okS ss x = true → chain ss (x ++ v) = chain ss x ++ chain ss v
  | [], _, _, _ => rfl
  | s :: r, x, v, h => by
    simp only [okS, Bool.and_eq_true, decide_eq_true_eq] at h
    show chain r (rep s.1 s.2 0 (x ++ v)) = chain r (rep s.1 s.2 0 x) ++ chain r (rep s.1 s.2 0 v)
    rw [rep_app h.1.2 x.length x v (Nat.le_refl _) (fun k hk => noX_at h.1.1 hk), chain_app r _ _ h.2]
theorem chain_map {ss : List (List Nat × List Nat)} {f g : Nat → List Nat} (h : ∀ c, c < 8 → okS ss (f c) = true ∧ chain ss (f c) = g c) : ∀ (q b : List Nat), (∀ c ∈ q, c < 8) → chain ss (q.flatMap f ++ b) = q.flatMap g ++ chain ss b
  | [], b, _ => rfl
  | c :: q, b, hq => by
    have hc := h c (hq c (.head _))
    rw [List.flatMap_cons, List.flatMap_cons, List.append_assoc, chain_app _ _ _ hc.1, hc.2, chain_map h q b (fun d hd => hq d (.tail _ hd)), List.append_assoc]
def kL (c : Nat) : Nat := [108, 103, 109, 113, 97, 110, 98, 104].getD c 0
def kS (c : Nat) : Nat := [60, 62, 38, 34, 39, 10, 124, 9].getD c 0
def stE : List (List Nat × List Nat) := [([38], [38, 97, 109, 112, 59]), ([62], [38, 103, 116, 59]), ([60], [38, 108, 116, 59]), ([38, 97, 109, 112, 59], [38, 109, 116, 59]), ([34], [38, 113, 116, 59]), ([39], [38, 97, 116, 59]), ([10], [38, 110, 116, 59]), ([124], [38, 98, 116, 59]), ([9], [38, 104, 116, 59])]
def stU : List (List Nat × List Nat) := [([38, 108, 116, 59], [60]), ([38, 103, 116, 59], [62]), ([38, 109, 116, 59], [38, 97, 109, 112, 59]), ([38, 113, 116, 59], [34]), ([38, 97, 116, 59], [39]), ([38, 110, 116, 59], [10]), ([38, 98, 116, 59], [124]), ([38, 104, 116, 59], [9]), ([38, 97, 109, 112, 59], [38])]
def blk (c : Nat) : List Nat := [38, kL c, 116, 59]
theorem chain_nil : ∀ ss : List (List Nat × List Nat), chain ss [] = []
  | [] => rfl
  | s :: r => by
    show chain r (rep s.1 s.2 0 []) = []
    rw [rep]; exact chain_nil r
theorem map_flat (f : Nat → Nat) : ∀ q : List Nat, q.map f = q.flatMap fun c => [f c]
  | [] => rfl
  | c :: q => by rw [List.map_cons, List.flatMap_cons, map_flat f q]; rfl
theorem esc_kinds {q : List Nat} (hq : ∀ c ∈ q, c < 8) : chain stE (q.map kS) = q.flatMap blk := by
  have h : ∀ c, c < 8 → okS stE [kS c] = true ∧ chain stE [kS c] = blk c := by decide
  have := chain_map h q [] hq
  rw [List.append_nil, chain_nil, List.append_nil, ← map_flat] at this
  exact this
theorem read0 {q : List Nat} (b : List Nat) (hq : ∀ c ∈ q, c < 8) : chain stU (q.flatMap blk ++ b) = q.map kS ++ chain stU b := by
  have h : ∀ c, c < 8 → okS stU (blk c) = true ∧ chain stU (blk c) = [kS c] := by decide
  rw [chain_map h q b hq, ← map_flat]
theorem read1 {q : List Nat} (hq : ∀ c ∈ q, c < 8) : chain stU (q.flatMap fun c => [kL c, 38, 59, 116]) = q.flatMap fun c => [kL c, 38, 59, 116] := by
  have h : ∀ c, c < 8 → okS stU [kL c, 38, 59, 116] = true ∧ chain stU [kL c, 38, 59, 116] = [kL c, 38, 59, 116] := by decide
  have := chain_map h q [] hq
  rw [List.append_nil, chain_nil, List.append_nil] at this
  exact this
theorem read2 {q : List Nat} {d : Nat} (hq : ∀ c ∈ q, c < 8) (hd : d < 8) : chain stU ([116, 59] ++ (q.flatMap blk ++ [38, kL d])) = [116, 59] ++ (q.map kS ++ [38, kL d]) := by
  have h : ∀ c, c < 8 → chain stU [38, kL c] = [38, kL c] := by decide
  rw [chain_app stU [116, 59] _ (by decide), read0 _ hq, h d hd]
  rfl
theorem read3 {q : List Nat} {d : Nat} (hq : ∀ c ∈ q, c < 8) (hd : d < 8) : chain stU ([59, 116, kL d] ++ ((q.flatMap fun c => [38, 59, 116, kL c]) ++ [38])) = [59, 116, kL d] ++ ((q.flatMap fun c => [38, 59, 116, kL c]) ++ [38]) := by
  have h : ∀ c, c < 8 → okS stU [38, 59, 116, kL c] = true ∧ chain stU [38, 59, 116, kL c] = [38, 59, 116, kL c] := by decide
  have h3 : ∀ c, c < 8 → okS stU [59, 116, kL c] = true ∧ chain stU [59, 116, kL c] = [59, 116, kL c] := by decide
  rw [chain_app stU [59, 116, kL d] _ (h3 d hd).1, (h3 d hd).2, chain_map h q _ hq]
  rfl
/-- what the reading is, by the mask's remainder -/
def readL (q : List Nat) (r : Nat) : List Nat :=
  if r = 0 then q.map kS else if r = 1 then q.flatMap (fun c => [kL c, 38, 59, 116]) else if r = 2 then [116, 59] ++ ((q.take 7).map kS ++ [38, kL (q.getD 7 0)]) else q.flatMap fun c => [59, 116, kL c, 38]
def placed (ks : List Nat) (m : Nat) : List Nat := (List.range 8).map fun b => ks.getD (b ^^^ (m / 4)) 0
def turnedL (ks : List Nat) (m : Nat) : List Nat := (List.range 32).map fun i => (ks.flatMap blk).getD (i ^^^ m) 0
theorem placed_low {ks : List Nat} (h : ∀ c ∈ ks, c < 8) (m : Nat) : ∀ c ∈ placed ks m, c < 8 := fun c hc => by
  obtain ⟨b, _, rfl⟩ := List.mem_map.mp hc
  rw [List.getD_eq_getElem?_getD]
  cases e : ks[b ^^^ (m / 4)]? with
  | none => decide
  | some d => exact h d (List.mem_of_getElem? e)
/-- the turned writing, by the placed kinds -/
def formL (q : List Nat) (r : Nat) : List Nat :=
  if r = 0 then q.flatMap blk else if r = 1 then q.flatMap (fun c => [kL c, 38, 59, 116]) else if r = 2 then q.flatMap (fun c => [116, 59, 38, kL c]) else q.flatMap fun c => [59, 116, kL c, 38]
theorem form_turned {ks : List Nat} (h8 : ks.length = 8) : ∀ m, m < 32 → turnedL ks m = formL (placed ks m) (m % 4) := by
  match ks, h8 with
  | [a, b, c, d, e, f, g, h], _ =>
    intro m hm
    have : m = 0 ∨ m = 1 ∨ m = 2 ∨ m = 3 ∨ m = 4 ∨ m = 5 ∨ m = 6 ∨ m = 7 ∨ m = 8 ∨ m = 9 ∨ m = 10 ∨ m = 11 ∨ m = 12 ∨ m = 13 ∨ m = 14 ∨ m = 15 ∨ m = 16 ∨ m = 17 ∨ m = 18 ∨ m = 19 ∨ m = 20 ∨ m = 21 ∨ m = 22 ∨ m = 23 ∨ m = 24 ∨ m = 25 ∨ m = 26 ∨ m = 27 ∨ m = 28 ∨ m = 29 ∨ m = 30 ∨ m = 31 := by omega
    rcases this with rfl | rfl | rfl | rfl | rfl | rfl | rfl | rfl | rfl | rfl | rfl | rfl | rfl | rfl | rfl | rfl | rfl | rfl | rfl | rfl | rfl | rfl | rfl | rfl | rfl | rfl | rfl | rfl | rfl | rfl | rfl | rfl <;> rfl
theorem form_reads {q : List Nat} (h8 : q.length = 8) (hq : ∀ c ∈ q, c < 8) {r : Nat} (hr : r < 4) : chain stU (formL q r) = readL q r := by
  have h : r = 0 ∨ r = 1 ∨ r = 2 ∨ r = 3 := by omega
  rcases h with rfl | rfl | rfl | rfl
  · have := read0 [] hq
    rw [List.append_nil, chain_nil, List.append_nil] at this
    exact this
  · exact read1 hq
  · match q, h8 with
    | [a, b, c, d, e, f, g, h], _ =>
      exact read2 (q := [a, b, c, d, e, f, g]) (d := h) (fun x hx => hq x (by simp at hx ⊢; omega)) (hq h (by simp))
  · match q, h8 with
    | [a, b, c, d, e, f, g, h], _ =>
      have := read3 (q := [b, c, d, e, f, g, h]) (d := a) (fun x hx => hq x (by simp at hx ⊢; omega)) (hq a (by simp))
      exact this
theorem turned_reads {ks : List Nat} (h8 : ks.length = 8) (hk : ∀ c ∈ ks, c < 8) {m : Nat} (hm : m < 32) : chain stU (turnedL ks m) = readL (placed ks m) (m % 4) := by
  rw [form_turned h8 m hm]
  exact form_reads (by simp [placed]) (placed_low hk m) (Nat.mod_lt _ (by decide))
end Mine
end
section
theorem Mine.fresh_P10 : True := by
  w_top off
  trivial
open PySem PySem.W PyProof.Rows PySem.Spec PySem.Calls
set_option Elab.async false
set_option maxRecDepth 100000
namespace Mine
theorem widths32 : ∀ w, w < 64 → w ≠ 0 → 32 % w = 0 → ∀ p, p < 32 → swapAt w p = p ^^^ (w - 1) := by decide
theorem width_low : ∀ w, w < 64 → w ≠ 0 → 32 % w = 0 → w - 1 < 32 := by decide
theorem xor_low {a b : Nat} (ha : a < 32) (hb : b < 32) : a ^^^ b < 32 := Nat.xor_lt_two_pow (n := 5) ha hb
theorem swap_turned {data : Array UInt8} {ks : List Nat} {m w : Nat} (hd : data.toList.map UInt8.toNat = turnedL ks m) (hw : w < 64) (h0 : w ≠ 0) (h32 : 32 % w = 0) :
    (swapB data w).toList.map UInt8.toNat = turnedL ks (m ^^^ (w - 1)) := by
  have hs : data.size = 32 := by
    have := congrArg List.length hd
    simpa [turnedL] using this
  have hwl := width_low w hw h0 h32
  refine List.ext_getElem (by simp [swapB, turnedL, hs]) fun p h1 h2 => ?_
  have hp : p < 32 := by simpa [turnedL] using h2
  have hq : p ^^^ (w - 1) < 32 := xor_low hp hwl
  have e1 : ((swapB data w).toList.map UInt8.toNat)[p] = (data.getD (swapAt w p) 0).toNat := by simp [swapB]
  have e2 : (turnedL ks (m ^^^ (w - 1)))[p] = (ks.flatMap blk).getD (p ^^^ (m ^^^ (w - 1))) 0 := by simp [turnedL]
  have e3 : (data.getD (p ^^^ (w - 1)) 0).toNat = (ks.flatMap blk).getD ((p ^^^ (w - 1)) ^^^ m) 0 := by
    have := congrArg (fun l => l[p ^^^ (w - 1)]?) hd
    simp only [turnedL, List.getElem?_map, List.getElem?_range hq, Option.map_some] at this
    rw [Array.getElem?_toList, Array.getElem?_eq_getElem (by omega)] at this
    rw [Array.getD_eq_getD_getElem?, Array.getElem?_eq_getElem (by omega)]
    simpa using this
  refine e1.trans (Eq.trans ?_ e2.symm)
  rw [widths32 w hw h0 h32 p hp, e3, Nat.xor_assoc, Nat.xor_comm (w - 1) m]
theorem flat_blk_len : ∀ ks : List Nat, (ks.flatMap blk).length = 4 * ks.length
  | [] => rfl
  | c :: ks => by rw [List.flatMap_cons, List.length_append, flat_blk_len ks, List.length_cons]; simp [blk]; omega
theorem turned_0 {ks : List Nat} (h8 : ks.length = 8) : ks.flatMap blk = turnedL ks 0 := by
  refine List.ext_getElem (by rw [flat_blk_len, h8]; simp [turnedL]) fun p h1 h2 => ?_
  simp only [turnedL, List.getElem_map, List.getElem_range, Nat.xor_zero]
  rw [List.getD_eq_getElem?_getD, List.getElem?_eq_getElem h1]; rfl
theorem kL_low : ∀ c, c < 8 → kL c < 128 := by decide
theorem kS_low : ∀ c, c < 8 → kS c < 128 := by decide
theorem blk_low {ks : List Nat} (h : ∀ c ∈ ks, c < 8) : ∀ d ∈ ks.flatMap blk, d < 128 := fun d hd => by
  obtain ⟨c, hc, hd⟩ := List.mem_flatMap.mp hd
  have := kL_low c (h c hc)
  simp [blk] at hd
  omega
end Mine
end
section
theorem Mine.fresh_X5 : True := by
  w_top off
  trivial
open PySem PySem.W PyProof.Rows PySem.Spec PySem.Calls
set_option Elab.async false
set_option maxRecDepth 100000
set_option maxHeartbeats 4000000
namespace Mine
theorem bitXor32 : ∀ a : Nat, a < 32 → ∀ b : Nat, b < 32 → Builtin.bitXor (a : Int) (b : Int) = ((a ^^^ b : Nat) : Int) := by decide +kernel
section
variable {prog : Program} {w : World} {A : Around} {E : Value → Shared → Prop} {s : Shared}
theorem item_nat {value slice : PySem.Expr} {l : Addr} {vs : List Value} {ks : List Nat} {k : Int} {j : Nat} {u : Tok} {Q : Value → Shared → Prop} (hl : s.heap.IsList l vs.toArray) (hi : IntsAre vs (ks.map fun c : Nat => (c : Int))) (hk : k = (j : Int)) (hj : j < ks.length) (hz : ks.length ≤ 1000)
    (h : ∀ t, Q (.int ((ks.getD j 0 : Nat) : Int) t) s)
    (hs : subscripted slice false (.ref l) (.int k u) = operate [.ref l, .int k u] (getItem (.ref l) (.int k u)) := by with_unfolding_all rfl) (hg : ∀ r, letTemporaryGo value (.ref l) r = pure () := by intro _; with_unfolding_all rfl) :
    wpAny (model prog w) A (subscriptTail value slice (.ref l) (.int k u)) Q E s := by
  have e : (ks.map fun c : Nat => (c : Int))[j]? = some ((ks.getD j 0 : Nat) : Int) := by
    rw [List.getElem?_map, List.getD_eq_getElem?_getD, List.getElem?_eq_getElem hj]; rfl
  obtain ⟨t, ht⟩ := hi.get j _ e
  refine item_listL hl (by omega) (by omega) ?_ (h t) hs hg
  rw [hk, Int.toNat_natCast]
  simpa using ht
end
theorem strs_of_map (f : Nat → Str) : ∀ {q : List Nat} {ys : List Value}, ys.length = q.length → (∀ (i : Nat) (v : Value), ys[i]? = some v → ∃ (c : Nat) (t : Tok), q[i]? = some c ∧ v = Value.str (f c) t) → StrsAre ys (q.map f)
  | [], [], _, _ => .nil
  | c :: l, v :: ys, hl, h => by
    obtain ⟨d, t, hd, rfl⟩ := h 0 v rfl
    obtain rfl : c = d := by simpa using hd
    exact .cons _ _ (strs_of_map f (by simpa using hl) fun i v e => h (i + 1) v e)
theorem ints_of_map (f : Nat → Nat) : ∀ {n : Nat} {ys : List Value}, ys.length = n → (∀ (i : Nat) (v : Value), ys[i]? = some v → ∃ (t : Tok), v = Value.int ((f i : Nat) : Int) t) → IntsAre ys (((List.range n).map f).map fun c : Nat => (c : Int))
  | n, ys, hl, h => by
    have key : ∀ (k : Nat) (ys : List Value), (∀ (i : Nat) (v : Value), ys[i]? = some v → ∃ (t : Tok), v = Value.int ((f (k + i) : Nat) : Int) t) → IntsAre ys (((List.range' k ys.length).map f).map fun c : Nat => (c : Int)) := by
      intro k ys
      induction ys generalizing k with
      | nil => intro _; exact .nil
      | cons v ys ih =>
        intro h
        obtain ⟨t, rfl⟩ := h 0 v rfl
        exact .cons _ t (ih (k + 1) fun i v e => by
          obtain ⟨t, ht⟩ := h (i + 1) v e
          exact ⟨t, by rw [ht, show k + 1 + i = k + (i + 1) by omega]⟩)
    have := key 0 ys (by simpa using h)
    rw [hl, ← List.range_eq_range'] at this
    exact this
def tS : Str := Str.ofString "<>&\"'\n|\t"
def tL : Str := Str.ofString "lgmqanbh"
theorem item_S : ∀ c : Nat, c < 8 → (Txt.item tS (c : Int)).cps.toList = [kS c] ∧ (Txt.item tS (c : Int)).length = 1 := by decide +kernel
theorem item_L : ∀ c : Nat, c < 8 → (Txt.item tL (c : Int)).cps.toList = [kL c] ∧ (Txt.item tL (c : Int)).length = 1 := by decide +kernel
theorem int_nat_at : ∀ {vs : List Value} {ks : List Nat} {i : Nat} {v : Value}, IntsAre vs (ks.map fun c : Nat => (c : Int)) → vs[i]? = some v → ∃ (c : Nat) (t : Tok), ks[i]? = some c ∧ v = .int (c : Int) t
  | _, [], _, _, .nil, h => by simp at h
  | _, c :: _, 0, _, .cons _ t _, h => ⟨c, t, rfl, by simpa using h.symm⟩
  | _, _ :: _, i + 1, _, .cons _ t r, h => by simpa using int_nat_at r (i := i) (by simpa using h)
theorem join_of_map {f : Nat → Str} {g : Nat → List Nat} (h : ∀ c, c < 8 → (f c).cps.toList = g c) : ∀ {q : List Nat}, (∀ c ∈ q, c < 8) → (Txt.join (Str.ofString "") (q.map f)).cps.toList = q.flatMap g := by
  intro q hq
  rw [join_list_eq, List.map_map]
  induction q with
  | nil => rfl
  | cons c q ih => rw [List.map_cons, List.flatten_cons, ih (fun d hd => hq d (.tail _ hd)), List.flatMap_cons, ← h c (hq c (.head _))]; rfl
theorem sum_of_map {f : Nat → Str} {n : Nat} (h : ∀ c, c < 8 → (f c).length = n) : ∀ {q : List Nat}, (∀ c ∈ q, c < 8) → ((q.map f).map (·.length)).sum = n * q.length
  | [], _ => rfl
  | c :: q, hq => by
    rw [List.map_cons, List.map_cons, List.sum_cons, sum_of_map h (fun d hd => hq d (.tail _ hd)), h c (hq c (.head _)), List.length_cons, Nat.mul_succ, Nat.add_comm]
def f0 (c : Nat) : Str := Txt.item tS (c : Int)
def f1 (c : Nat) : Str := Txt.item tL (c : Int) ++ Str.ofString "&;t"
def f3 (c : Nat) : Str := Str.ofString ";t" ++ Txt.item tL (c : Int) ++ Str.ofString "&"
theorem f0_at : ∀ c, c < 8 → (f0 c).cps.toList = [kS c] := fun c h => (item_S c h).1
theorem f0_len : ∀ c, c < 8 → (f0 c).length = 1 := fun c h => (item_S c h).2
theorem f1_at : ∀ c, c < 8 → (f1 c).cps.toList = [kL c, 38, 59, 116] := by decide +kernel
theorem f1_len : ∀ c, c < 8 → (f1 c).length = 4 := by decide +kernel
theorem f3_at : ∀ c, c < 8 → (f3 c).cps.toList = [59, 116, kL c, 38] := by decide +kernel
theorem f3_len : ∀ c, c < 8 → (f3 c).length = 4 := by decide +kernel
end Mine
end
section
theorem Mine.fresh_Z01 : True := by
  w_top off
  trivial
open PySem PySem.W PyProof.Rows PySem.Spec PySem.Calls
set_option Elab.async false
set_option maxRecDepth 100000
set_option maxHeartbeats 8000000
namespace Mine
section
variable {w : World} {A A₀ : Around} {s : Shared} {base h₀ : Heap} {outer : List Env} {L : Addr} {m : Str → Option Value} {env : Env} {news : List (Addr × Obj)} {p : Program} {loose : List Str} {mean : ExcName → Option Value} {mg mb : Str → Option Value}
local macro_rules | `(tactic| walk_at "eval ListComp") => `(tactic| (k_here; k_dflt (refine ListComp_X (_F₀ := by k_asm) (by with_unfolding_all rfl) (by decide) (by rfl) (by decide) (by rfl) ?_)))
local macro_rules | `(tactic| walk_at "pyIter") => `(tactic| fail "stop here")
theorem reading01 {D : Addr} {zs : List Value} {ks : List Nat} {mk : Nat} {t : Tok} {Q E : Value → Shared → Prop}
    (B : Below A₀ base outer h₀) (F : Fr h₀ L s.heap m) (KX : (hd01.heap_39 w.params).In h₀) (N : News h₀ L s.heap ((D, LCg.lst zs) :: news)) (T : Top p loose mean mg mb h₀) (hA : A.frames = some (env :: outer)) (hf : env.frame = some L) (hke : env.scope.kind = .function)
    (hroom : A.depth < recursionLimit) (hh : A.handled = none) (hi : IntsAre zs (ks.map fun c : Nat => (c : Int))) (h8 : ks.length = 8) (hk8 : ∀ c ∈ ks, c < 8) (hm : mk < 32)
    (k : ∀ x t' h' tk, x.cps.toList = readL (placed ks mk) (mk % 4) → Fr h₀ L h' m → News h₀ L h' ((D, LCg.lst zs) :: news) → Q (.str x t') { s with heap := h', toks := tk }) :
    wpAny (model PySem.Challenge.rw_kt0002_01.row.prog w) A (call (.ref 58) [.ref D, .int (mk : Int) t]) Q E s := by
  revert KX; k_fill; intro KX
  refine wpAny_call ?_
  refine' code_defC (binds := [(Str.ofString "kinds", .ref D), (Str.ofString "mask", .int (mk : Int) t)]) B F KX N T hA hf hke ?k6 ?k7 hroom ?k9 ?kB ?kD ?_ ?c2 ?c3 ?c4
  case k6 => k_is
  case k7 => k_is
  case k9 => exact BindsTo.of_eq rfl
  case kB => exact rfl
  case kD => decide +kernel
  case c2 => exact rfl
  case c3 => exact rfl
  case c4 => exact rfl
  k_whole
  intro g L' h₁ tk cells FG F' N' Y B' KX' T' l1
  k_cells Y
  (try simp only [List.cons_append, List.nil_append] at N')
  clear N F
  refine wpAny_mono (E := fun _ _ => False) ?_ (fun _ _ x => x) (fun _ _ x => x.elim)
  have hi9 := hi
  rename Obj => o4
  rename Obj => o3
  rename Obj => o2
  rename Obj => o1
  repeat (first | walk1 | (dsimp only; walk1))
  refine storeX_C (c := L' + 1 + 1 + 1) (by assumption) (by assumption) rfl (.tail (by show @Ne Nat (L' + 1 + 1 + 1 + 1) (L' + 1 + 1 + 1); omega) (.head fun q hq => ?u1)) (by assumption) (fun h₂ oL F₂ N₂ dL => ?_)
  case u1 =>
    rcases List.mem_cons.mp hq with rfl | hq
    · show @Ne Nat (L' + 1 + 1) (L' + 1 + 1 + 1); omega
    · rcases List.mem_cons.mp hq with rfl | hq
      · show @Ne Nat (L' + 1) (L' + 1 + 1 + 1); omega
      · have : @LT.lt Nat _ q.1 L' := l1 q hq
        show @Ne Nat _ _; omega
  clear F' N'
  repeat (first | walk1 | (dsimp only; walk1))
  refine storeX_C (c := L' + 1 + 1 + 1 + 1) (by assumption) (by assumption) rfl (.head fun q hq => ?u2) (by assumption) (fun h₃ oS F₃ N₃ dS => ?_)
  case u2 =>
    rcases List.mem_cons.mp hq with rfl | hq
    · show @Ne Nat (L' + 1 + 1 + 1) (L' + 1 + 1 + 1 + 1); omega
    · rcases List.mem_cons.mp hq with rfl | hq
      · show @Ne Nat (L' + 1 + 1) (L' + 1 + 1 + 1 + 1); omega
      · rcases List.mem_cons.mp hq with rfl | hq
        · show @Ne Nat (L' + 1) (L' + 1 + 1 + 1 + 1); omega
        · have : @LT.lt Nat _ q.1 L' := l1 q hq
          show @Ne Nat _ _; omega
  clear F₂ N₂
  refine wpAny_execs_cons ?_
  refine Assign_ListComp_X (_F₀ := F₃) rfl (by with_unfolding_all rfl) (by with_unfolding_all rfl) (by decide) (by rfl) (by decide) (by rfl) (by rfl) (by rfl) ?_
  repeat (first | walk1 | (dsimp only; walk1))
  rename IsRange _ _ _ _ _ _ _ _ => hr
  refine' go_range (n := 8) (R := fun i y => ∃ t, y = .int ((ks.getD (i ^^^ (mk / 4)) 0 : Nat) : Int) t) hh ?F ?N hr ?small ?rs ?sz ?step ?fin
  case F => k_asm
  case N => k_asm
  case small => exact small_one (by decide) (by decide) (by omega) (by omega)
  case rs => rw [rangeSize_nat]; rfl
  case sz => rw [sizeLine_eq]; omega
  case step =>
    intro i v I oI C oC Dc ys m₂ h tk E' hi8 hP hoC hv F N off hne
    obtain ⟨t, rfl⟩ := hP
    dsimp only
    repeat (first | walk1 | (dsimp only; walk1))
    have hx : Builtin.bitXor (0 + (i : Int)) ((mk : Int).fdiv 4) = ((i ^^^ (mk / 4) : Nat) : Int) := by
      rw [show (0 + (i : Int)) = (i : Int) by omega, show ((mk : Int).fdiv 4) = ((mk / 4 : Nat) : Int) by rw [Int.fdiv_eq_ediv_of_nonneg _ (by decide)]; omega]
      exact bitXor32 i (by omega) (mk / 4) (by omega)
    have hlt : i ^^^ (mk / 4) < 8 := Nat.xor_lt_two_pow (n := 3) (by omega) (by omega)
    refine item_nat (lst_at N (.tail _ (.tail _ (.tail _ (.tail _ (.tail _ (.tail _ (.tail _ (.head _))))))))) hi9 hx (by omega) (by omega) fun t9 => ?_
    refine ⟨_, _, rfl, F, N, t9, rfl⟩
  case fin =>
    intro g4 ys hyl hys
    have hip := ints_of_map (fun i => ks.getD (i ^^^ (mk / 4)) 0) hyl hys
    rw [show (List.range 8).map (fun i => ks.getD (i ^^^ (mk / 4)) 0) = placed ks mk from rfl] at hip
    have hp8 : (placed ks mk).length = 8 := by simp [placed]
    have hplow := placed_low hk8 mk
    generalize placed ks mk = q at *
    unfold LCg.FinA
    intro D2 h2 tk2 F2 N2 o2
    repeat (first | walk1 | (dsimp only; walk1))
    · skip
      have hysz : ys.length = 8 := hyl
      refine' go_list (its := ys.toArray) (R := fun i y => ∃ (c : Nat) (t : Tok), q[i]? = some c ∧ y = .str (f0 c) t) hh ?F ?N (Or.inr ⟨LCg.lst ys, List.mem_cons_self .., rfl, _, rfl⟩) ?sz ?step ?fin
      case F => k_asm
      case N => k_asm
      case sz => rw [sizeLine_eq, List.size_toArray]; omega
      case step =>
        intro i v I oI C oC Dc ys2 m₂ h tk E' hi8 hP hoC hv F N off hne
        obtain ⟨c, t9, hc, rfl⟩ := int_nat_at hip (by simpa using hP)
        have hc8 := hplow c (List.mem_of_getElem? hc)
        have hcl : (Txt.item (Str.ofString "lgmqanbh") (c : Int)).length = 1 := (item_L c hc8).2
        have z1 : (0 : Int) ≤ (c : Int) := by omega
        have z2 : (c : Int) < 8 := by omega
        dsimp only
        repeat (first | walk1 | (dsimp only; walk1))
        · k_asm
        · exact ⟨by k_asm, c, _, hc, rfl⟩
      case fin =>
        intro g5 ys2 hyl2 hys2
        have hss := strs_of_map f0 (q := q) (by rw [hyl2]; simp; omega) hys2
        unfold LCg.FinE
        intro D3 h3 tk3 F3 N3 o3
        repeat (first | walk1 | (dsimp only; walk1))
        refine' join_listW (lst_at N3 (List.mem_cons_self ..)) (by simpa using hss) (by decide) ?wt ?_
        case wt => rw [sum_of_map f0_len hplow, List.length_map, hp8]; decide
        intro t8 k8
        repeat (first | walk1 | (dsimp only; walk1))
        rename News h₀ _ _ _ => kN
        refine k _ _ _ _ ?_ (by k_asm) (fun q hq => kN q (.tail _ (.tail _ (.tail _ (.tail _ (.tail _ (.tail _ hq)))))))
        have hfm : (mk : Int).fmod 4 = ((mk % 4 : Nat) : Int) := by rw [Int.fmod_eq_emod_of_nonneg _ (by decide)]; omega
        rw [join_of_map f0_at hplow]
        unfold readL; rw [if_pos (by omega)]; exact (map_flat kS q).symm
    · repeat (first | walk1 | (dsimp only; walk1))
      · skip
        have hysz : ys.length = 8 := hyl
        refine' go_list (its := ys.toArray) (R := fun i y => ∃ (c : Nat) (t : Tok), q[i]? = some c ∧ y = .str (f1 c) t) hh ?F ?N (Or.inr ⟨LCg.lst ys, List.mem_cons_self .., rfl, _, rfl⟩) ?sz ?step ?fin
        case F => k_asm
        case N => k_asm
        case sz => rw [sizeLine_eq, List.size_toArray]; omega
        case step =>
          intro i v I oI C oC Dc ys2 m₂ h tk E' hi8 hP hoC hv F N off hne
          obtain ⟨c, t9, hc, rfl⟩ := int_nat_at hip (by simpa using hP)
          have hc8 := hplow c (List.mem_of_getElem? hc)
          have hcl : (Txt.item (Str.ofString "lgmqanbh") (c : Int)).length = 1 := (item_L c hc8).2
          have z1 : (0 : Int) ≤ (c : Int) := by omega
          have z2 : (c : Int) < 8 := by omega
          dsimp only
          repeat (first | walk1 | (dsimp only; walk1))
          · k_asm
          · exact ⟨by k_asm, c, _, hc, rfl⟩
        case fin =>
          intro g5 ys2 hyl2 hys2
          have hss := strs_of_map f1 (q := q) (by rw [hyl2]; simp; omega) hys2
          unfold LCg.FinE
          intro D3 h3 tk3 F3 N3 o3
          repeat (first | walk1 | (dsimp only; walk1))
          refine' join_listW (lst_at N3 (List.mem_cons_self ..)) (by simpa using hss) (by decide) ?wt ?_
          case wt => rw [sum_of_map f1_len hplow, List.length_map, hp8]; decide
          intro t8 k8
          repeat (first | walk1 | (dsimp only; walk1))
          rename News h₀ _ _ _ => kN
          refine k _ _ _ _ ?_ (by k_asm) (fun q hq => kN q (.tail _ (.tail _ (.tail _ (.tail _ (.tail _ (.tail _ hq)))))))
          have hfm : (mk : Int).fmod 4 = ((mk % 4 : Nat) : Int) := by rw [Int.fmod_eq_emod_of_nonneg _ (by decide)]; omega
          rw [join_of_map f1_at hplow]
          unfold readL; rw [if_neg (by omega), if_pos (by omega)]
      · repeat (first | walk1 | (dsimp only; walk1))
        · rename News _ _ _ _ => N7
          rename IntsAre _ (List.take 7 _) => hi7
          rename List Value => ws7
          rw [← List.map_take] at hi7
          have hw7 := hi7.length
          rw [List.length_map, List.length_take, hp8] at hw7
          have hlow7 : ∀ c ∈ q.take 7, c < 8 := fun c hc => hplow c (List.mem_of_mem_take hc)
          have hl7 : (q.take 7).length = 7 := by rw [List.length_take, hp8]; rfl
          obtain ⟨q7, hq7⟩ : ∃ q7, q7 = q.take 7 := ⟨_, rfl⟩
          rw [← hq7] at hi7 hlow7 hl7
          have hq7' : Unit → q7 = q.take 7 := fun _ => hq7
          clear hq7
          refine' go_list (its := ws7.toArray) (R := fun i y => ∃ (c : Nat) (t : Tok), q7[i]? = some c ∧ y = .str (f0 c) t) hh ?F N7 (Or.inr ⟨_, List.mem_cons_self .., rfl, _, rfl⟩) ?sz ?step ?fin
          case F => k_asm
          case sz => rw [sizeLine_eq, List.size_toArray]; omega
          case step =>
            intro i v I oI C oC Dc ys2 m₂ h tk E' hi8 hP hoC hv F N off hne
            obtain ⟨c, t9, hc, rfl⟩ := int_nat_at hi7 (by simpa using hP)
            have hc8 := hlow7 c (List.mem_of_getElem? hc)
            have z1 : (0 : Int) ≤ (c : Int) := by omega
            have z2 : (c : Int) < 8 := by omega
            dsimp only
            repeat (first | walk1 | (dsimp only; walk1))
            · k_asm
            · exact ⟨by k_asm, c, _, hc, rfl⟩
          case fin =>
            intro g5 ys2 hyl2 hys2
            have hss := strs_of_map f0 (q := q7) (by rw [hyl2]; simp; omega) hys2
            unfold LCg.FinE
            intro D3 h3 tk3 F3 N3 o3
            repeat (first | walk1 | (dsimp only; walk1))
            refine' join_listW (lst_at N3 (List.mem_cons_self ..)) (by simpa using hss) (by decide) ?wt ?_
            case wt => rw [sum_of_map f0_len hlow7, List.length_map, hl7]; decide
            intro t8 k8
            have hjl : (Txt.join (Str.ofString "") (q7.map f0)).length ≤ 7 := by rw [join_len, sum_of_map f0_len hlow7, hl7]; decide
            repeat (first | walk1 | (dsimp only; walk1))
            have e7 : ((q.map fun c : Nat => (c : Int)).getD (Int.toNat 7) 0) = ((q.getD 7 0 : Nat) : Int) := by
              rw [List.getD_eq_getElem?_getD, List.getD_eq_getElem?_getD, List.getElem?_map]
              show (Option.map _ q[7]?).getD 0 = _
              rw [List.getElem?_eq_getElem (by omega)]; rfl
            have c7 : q.getD 7 0 < 8 := by
              rw [List.getD_eq_getElem?_getD, List.getElem?_eq_getElem (by omega)]
              exact hplow _ (List.getElem_mem _)
            rw [e7]
            obtain ⟨c, hcq⟩ : ∃ c, c = q.getD 7 0 := ⟨_, rfl⟩
            rw [← hcq] at c7 ⊢
            have e8 : Unit → c = q.getD 7 0 := fun _ => hcq
            clear hcq e7
            have hcl : (Txt.item (Str.ofString "lgmqanbh") (c : Int)).length = 1 := (item_L c c7).2
            have hcc : (Txt.item (Str.ofString "lgmqanbh") (c : Int)).cps.toList = [kL c] := (item_L c c7).1
            have z1 : (0 : Int) ≤ (c : Int) := by omega
            have z2 : (c : Int) < 8 := by omega
            repeat (first | walk1 | (dsimp only; walk1))
            rename News h₀ _ _ _ => kN
            refine k _ _ _ _ ?_ (by k_asm) (fun q hq => kN q (.tail _ (.tail _ (.tail _ (.tail _ (.tail _ (.tail _ (.tail _ hq))))))))
            have hfm : (mk : Int).fmod 4 = ((mk % 4 : Nat) : Int) := by rw [Int.fmod_eq_emod_of_nonneg _ (by decide)]; omega
            simp only [Str.cps_append, Array.toList_append]
            rw [join_of_map f0_at hlow7, hcc]
            unfold readL
            rw [if_neg (by omega), if_neg (by omega), if_pos (by omega), map_flat, ← hq7' (), ← e8 ()]
            show [116, 59] ++ _ ++ [38] ++ [kL c] = [116, 59] ++ (_ ++ [38, kL c])
            simp only [List.append_assoc, List.cons_append, List.nil_append]
        · repeat (first | walk1 | (dsimp only; walk1))
          have hysz : ys.length = 8 := hyl
          refine' go_list (its := ys.toArray) (R := fun i y => ∃ (c : Nat) (t : Tok), q[i]? = some c ∧ y = .str (f3 c) t) hh ?F ?N (Or.inr ⟨LCg.lst ys, List.mem_cons_self .., rfl, _, rfl⟩) ?sz ?step ?fin
          case F => k_asm
          case N => k_asm
          case sz => rw [sizeLine_eq, List.size_toArray]; omega
          case step =>
            intro i v I oI C oC Dc ys2 m₂ h tk E' hi8 hP hoC hv F N off hne
            obtain ⟨c, t9, hc, rfl⟩ := int_nat_at hip (by simpa using hP)
            have hc8 := hplow c (List.mem_of_getElem? hc)
            have hcl : (Txt.item (Str.ofString "lgmqanbh") (c : Int)).length = 1 := (item_L c hc8).2
            have z1 : (0 : Int) ≤ (c : Int) := by omega
            have z2 : (c : Int) < 8 := by omega
            dsimp only
            repeat (first | walk1 | (dsimp only; walk1))
            · k_asm
            · exact ⟨by k_asm, c, _, hc, rfl⟩
          case fin =>
            intro g5 ys2 hyl2 hys2
            have hss := strs_of_map f3 (q := q) (by rw [hyl2]; simp; omega) hys2
            unfold LCg.FinE
            intro D3 h3 tk3 F3 N3 o3
            repeat (first | walk1 | (dsimp only; walk1))
            refine' join_listW (lst_at N3 (List.mem_cons_self ..)) (by simpa using hss) (by decide) ?wt ?_
            case wt => rw [sum_of_map f3_len hplow, List.length_map, hp8]; decide
            intro t8 k8
            repeat (first | walk1 | (dsimp only; walk1))
            rename News h₀ _ _ _ => kN
            refine k _ _ _ _ ?_ (by k_asm) (fun q hq => kN q (.tail _ (.tail _ (.tail _ (.tail _ (.tail _ (.tail _ hq)))))))
            have hfm : (mk : Int).fmod 4 = ((mk % 4 : Nat) : Int) := by rw [Int.fmod_eq_emod_of_nonneg _ (by decide)]; omega
            rw [join_of_map f3_at hplow]
            unfold readL; rw [if_neg (by omega), if_neg (by omega), if_neg (by omega)]
end
end Mine
end
section
theorem Mine.fresh_P11 : True := by
  w_top off
  trivial
open PySem PySem.W PyProof.Rows PySem.Spec PySem.Calls
set_option Elab.async false
set_option maxRecDepth 100000
namespace Mine
/-- the two tables of law 01, with their tokens -/
def tabE (n : Nat) : List Rp := [(Str.ofString "&amp;", n, Str.ofString "&mt;", n + 1), (Str.ofString "\"", n + 2, Str.ofString "&qt;", n + 3), (Str.ofString "'", n + 4, Str.ofString "&at;", n + 5), (Str.ofString "\n", n + 6, Str.ofString "&nt;", n + 7), (Str.ofString "|", n + 8, Str.ofString "&bt;", n + 9), (Str.ofString "\t", n + 10, Str.ofString "&ht;", n + 11)]
def tabB (n : Nat) : List Rp := [(Str.ofString "&mt;", n, Str.ofString "&amp;", n + 1), (Str.ofString "&qt;", n + 2, Str.ofString "\"", n + 3), (Str.ofString "&at;", n + 4, Str.ofString "'", n + 5), (Str.ofString "&nt;", n + 6, Str.ofString "\n", n + 7), (Str.ofString "&bt;", n + 8, Str.ofString "|", n + 9), (Str.ofString "&ht;", n + 10, Str.ofString "\t", n + 11)]
theorem rep_shrink {y z : List Nat} (hy : 1 ≤ y.length) (hz : z.length ≤ y.length) : ∀ (n : Nat) (l : List Nat), l.length ≤ n → (rep y z 0 l).length ≤ l.length
  | _, [], _ => by simp [rep]
  | 0, _ :: _, h => by simp at h
  | n + 1, c :: r, h => by
    rw [rep]
    split
    · rename_i hp
      have hl := (List.isPrefixOf_iff_prefix.mp hp).length_le
      rw [List.length_cons] at hl
      rw [rep_skip, List.length_append, List.length_cons]
      have := rep_shrink hy hz n (r.drop (y.length - 1)) (by rw [List.length_drop]; simp at h; omega)
      rw [List.length_drop] at this
      omega
    · rw [List.length_cons, List.length_cons]
      have := rep_shrink hy hz n r (by simpa using h)
      omega
theorem rep_short (x y z : Str) (hy : 1 ≤ y.length) (hz : z.length ≤ y.length) : (Txt.replace x y z).length ≤ x.length := by
  have h := congrArg List.length (rep_spec x y z hy)
  have h2 := rep_shrink (y := y.cps.toList) (z := z.cps.toList) (by simpa [Str.length] using hy) (by simpa [Str.length] using hz) _ x.cps.toList (Nat.le_refl _)
  rw [← h] at h2
  simpa [Str.length] using h2
theorem escT_len8 {x : Str} (h : x.length ≤ 8) : (escT x).length ≤ 1349 := by
  have l1 : (Txt.replace x (Str.ofString "&") (Str.ofString "&amp;")).length ≤ 53 := Nat.le_trans (rep_len _ _ _ (by decide)) (by rw [show (Str.ofString "&amp;").length = 5 by decide]; omega)
  have l2 : (Txt.replace (Txt.replace x (Str.ofString "&") (Str.ofString "&amp;")) (Str.ofString ">") (Str.ofString "&gt;")).length ≤ 269 := Nat.le_trans (rep_len _ _ _ (by decide)) (by rw [show (Str.ofString "&gt;").length = 4 by decide]; omega)
  exact Nat.le_trans (rep_len _ _ _ (by decide)) (by rw [show (Str.ofString "&lt;").length = 4 by decide]; omega)
theorem unT_len32 {x : Str} (h : x.length ≤ 32) : (unT x).length ≤ 32 :=
  Nat.le_trans (rep_short _ _ _ (by decide) (by decide)) (Nat.le_trans (rep_short _ _ _ (by decide) (by decide)) h)
theorem ok1 {x : Str} {y z : Str} {a b k : Nat} {r : List Rp} (hx : x.length ≤ k) (ha : 1 ≤ a) (hab : a < b) (hne : (y == z) = false) (hk : k + (k + 1) * z.length ≤ 16777216) (hr : RpOk (Rp.rep x (y, a, z, b)) r) : RpOk x ((y, a, z, b) :: r) := by
  refine ⟨⟨by show @Ne Nat a 0; omega, by show @Ne Nat b 0; omega, by show @Ne Nat a b; omega, hne, ?_⟩, hr⟩
  have : (x.length + 1) * z.length ≤ (k + 1) * z.length := Nat.mul_le_mul_right _ (by omega)
  exact Nat.le_trans (Nat.add_le_add hx this) hk
theorem grow {x y z : Str} {a b : Tok} {k : Nat} (hy : 1 ≤ y.length) (h : x.length ≤ k) : (Rp.rep x (y, a, z, b)).length ≤ k + (k + 1) * z.length := by
  refine Nat.le_trans (rep_len x y z hy) ?_
  have : (x.length + 1) * z.length ≤ (k + 1) * z.length := Nat.mul_le_mul_right _ (by omega)
  omega
theorem short {x y z : Str} {a b : Tok} {k : Nat} (hy : 1 ≤ y.length) (hz : z.length ≤ y.length) (h : x.length ≤ k) : (Rp.rep x (y, a, z, b)).length ≤ k := Nat.le_trans (rep_short x y z hy hz) h
theorem okE {x : Str} {n : Nat} (h : x.length ≤ 8) (hn : 1 ≤ n) : RpOk (escT x) (tabE n) := by
  have h0 := escT_len8 h
  refine ok1 (k := 1349) h0 hn (by omega) (by decide) (by decide) ?_
  have h1 := short (y := Str.ofString "&amp;") (z := Str.ofString "&mt;") (a := n) (b := n + 1) (by decide) (by decide) h0
  refine ok1 (k := 1349) h1 (by omega) (by omega) (by decide) (by decide) ?_
  have h2 := grow (y := Str.ofString "\"") (z := Str.ofString "&qt;") (a := n + 2) (b := n + 3) (by decide) h1
  refine ok1 (k := 6749) h2 (by omega) (by omega) (by decide) (by decide) ?_
  have h3 := grow (y := Str.ofString "'") (z := Str.ofString "&at;") (a := n + 4) (b := n + 5) (k := 6749) (by decide) h2
  refine ok1 (k := 33749) h3 (by omega) (by omega) (by decide) (by decide) ?_
  have h4 := grow (y := Str.ofString "\n") (z := Str.ofString "&nt;") (a := n + 6) (b := n + 7) (k := 33749) (by decide) h3
  refine ok1 (k := 168749) h4 (by omega) (by omega) (by decide) (by decide) ?_
  have h5 := grow (y := Str.ofString "|") (z := Str.ofString "&bt;") (a := n + 8) (b := n + 9) (k := 168749) (by decide) h4
  exact ok1 (k := 843749) h5 (by omega) (by omega) (by decide) (by decide) trivial
theorem okB {x : Str} {n : Nat} (h : x.length ≤ 32) (hn : 1 ≤ n) : RpOk (unT x) (tabB n) := by
  have h0 := unT_len32 h
  refine ok1 (k := 32) h0 hn (by omega) (by decide) (by decide) ?_
  have h1 := grow (y := Str.ofString "&mt;") (z := Str.ofString "&amp;") (a := n) (b := n + 1) (by decide) h0
  refine ok1 (k := 197) h1 (by omega) (by omega) (by decide) (by decide) ?_
  have h2 := short (y := Str.ofString "&qt;") (z := Str.ofString "\"") (a := n + 2) (b := n + 3) (k := 197) (by decide) (by decide) h1
  refine ok1 (k := 197) h2 (by omega) (by omega) (by decide) (by decide) ?_
  have h3 := short (y := Str.ofString "&at;") (z := Str.ofString "'") (a := n + 4) (b := n + 5) (by decide) (by decide) h2
  refine ok1 (k := 197) h3 (by omega) (by omega) (by decide) (by decide) ?_
  have h4 := short (y := Str.ofString "&nt;") (z := Str.ofString "\n") (a := n + 6) (b := n + 7) (by decide) (by decide) h3
  refine ok1 (k := 197) h4 (by omega) (by omega) (by decide) (by decide) ?_
  have h5 := short (y := Str.ofString "&bt;") (z := Str.ofString "|") (a := n + 8) (b := n + 9) (by decide) (by decide) h4
  exact ok1 (k := 197) h5 (by omega) (by omega) (by decide) (by decide) trivial
theorem lenB {x : Str} {n : Nat} (h : x.length ≤ 32) : ((tabB n).foldl Rp.rep (unT x)).length ≤ 1000000 := by
  have h0 := unT_len32 h
  have h1 := grow (y := Str.ofString "&mt;") (z := Str.ofString "&amp;") (a := n) (b := n + 1) (by decide) h0
  have h2 := short (y := Str.ofString "&qt;") (z := Str.ofString "\"") (a := n + 2) (b := n + 3) (k := 197) (by decide) (by decide) h1
  have h3 := short (y := Str.ofString "&at;") (z := Str.ofString "'") (a := n + 4) (b := n + 5) (by decide) (by decide) h2
  have h4 := short (y := Str.ofString "&nt;") (z := Str.ofString "\n") (a := n + 6) (b := n + 7) (by decide) (by decide) h3
  have h5 := short (y := Str.ofString "&bt;") (z := Str.ofString "|") (a := n + 8) (b := n + 9) (by decide) (by decide) h4
  have h6 := short (y := Str.ofString "&ht;") (z := Str.ofString "\t") (a := n + 10) (b := n + 11) (by decide) (by decide) h5
  exact Nat.le_trans h6 (by decide)
theorem wrE (x : Str) (n : Nat) : ((tabE n).foldl Rp.rep (escT x)).cps.toList = chain stE x.cps.toList := by
  simp only [tabE, List.foldl, Rp.rep, escT]
  rw [rep_spec _ _ _ (by decide), rep_spec _ _ _ (by decide), rep_spec _ _ _ (by decide), rep_spec _ _ _ (by decide), rep_spec _ _ _ (by decide), rep_spec _ _ _ (by decide), rep_spec _ _ _ (by decide), rep_spec _ _ _ (by decide), rep_spec _ _ _ (by decide)]
  rfl
theorem rdB (x : Str) (n : Nat) : (ampT ((tabB n).foldl Rp.rep (unT x))).cps.toList = chain stU x.cps.toList := by
  simp only [tabB, List.foldl, Rp.rep, unT, ampT]
  rw [rep_spec _ _ _ (by decide), rep_spec _ _ _ (by decide), rep_spec _ _ _ (by decide), rep_spec _ _ _ (by decide), rep_spec _ _ _ (by decide), rep_spec _ _ _ (by decide), rep_spec _ _ _ (by decide), rep_spec _ _ _ (by decide), rep_spec _ _ _ (by decide)]
  rfl
theorem nodupE (n : Nat) : ((tabE n).map (·.1)).Nodup := by
  show [Str.ofString "&amp;", Str.ofString "\"", Str.ofString "'", Str.ofString "\n", Str.ofString "|", Str.ofString "\t"].Nodup
  decide
theorem nodupB (n : Nat) : ((tabB n).map (·.1)).Nodup := by
  show [Str.ofString "&mt;", Str.ofString "&qt;", Str.ofString "&at;", Str.ofString "&nt;", Str.ofString "&bt;", Str.ofString "&ht;"].Nodup
  decide
end Mine
end
section
theorem Mine.fresh_H10 : True := by
  w_top off
  trivial

open PySem PySem.W PyProof.Rows PySem.Spec PySem.Calls
set_option Elab.async false
set_option maxRecDepth 100000
set_option maxHeartbeats 8000000
namespace Mine
section
variable {w : World} {s : Shared} {h₀ : Heap} {L : Addr} {m : Str → Option Value} {news : List (Addr × Obj)} {p : Program} {loose : List Str} {mean : ExcName → Option Value} {mg mb : Str → Option Value}
  {name qual : Str} {params : Arguments} {body : List Stmt} {scope : Scope} {dV kV doc pm cdv ct oc : Value} {an od : Option Addr} {osl : Array (Option Value)}
local macro_rules | `(tactic| walk_at "eval Name") => `(tactic| (k_here; (with_reducible show wpAny _ _ (eval (Expr.Name _ _) (envOfC _ _ _ _ _)) _ _ _); name_kind "local"; k_dflt (refine' nameX_L ?k1 ?k2 ?_; (case k1 => k_asm); (case k2 => first | exact rfl | (repeat (first | assumption | exact if_pos rfl | refine (if_neg (by decide)).trans ?_))); k_whole)))
local macro_rules | `(tactic| walk_at "eval ListComp") => `(tactic| (k_here; k_dflt (refine ListComp_X (_F₀ := by k_asm) (by with_unfolding_all rfl) (by decide) (by rfl) (by decide) (by rfl) ?_)))
local macro_rules | `(tactic| walk_at "pyIter") => `(tactic| fail "stop here")
local macro_rules | `(tactic| walk_at "eval Dict") => `(tactic| (k_here; (with_reducible rename Fr _ _ _ _ => kF₉); (with_reducible rename News _ _ _ _ => kN₉); (refine' dict6 kF₉ kN₉ ?hbig ?hnn ?_; (case hbig => assumption); (case hnn => decide)); clear kF₉ kN₉; k_whole; intro h₇ D₇ F₇ N₇ hs₇ hlt₇))
theorem c0 {st : Stmt} {Q : Flow → Shared → Prop} {E : Value → Shared → Prop}
    (KX : (hd01.heap_39 w.params).In h₀) (T : Top p loose mean mg mb h₀)
    (hl : (hd01.heap_39 w.params).lookup 63 = some ⟨oc, od, .func (fnOf name qual params body scope dV kV doc pm an cdv ct), osl⟩) (hb : body[0]? = some st)
    (F : Fr h₀ L s.heap m) (N : News h₀ L s.heap news) (ht : 1 ≤ s.toks)
    (k : ∀ D n h' tk, 1 ≤ n → (D == sysModules) = false → (∀ p ∈ news, p.1 < D) → Fr h₀ L h' (fun z => if z = Str.ofString "table" then some (.ref D) else m z) → News h₀ L h' ((D, xd w ((tabE n).map Rp.ent) 6) :: news) → Q .next { s with heap := h', toks := tk }) :
    wpAny (model PySem.Challenge.rw_kt0002_01.row.prog w) (callerA.deeper (envOfC (Str.ofString "law") scope L 63 cdv)) (exec st (envOfC (Str.ofString "law") scope L 63 cdv)) Q E s := by
  revert KX; k_fill; intro KX
  have e := hl.symm.trans (by k_is)
  cases e
  cases hb
  have hnl := T.nolimit
  repeat (first | walk1 | (dsimp only; walk1))
  exact k _ s.toks _ _ ht (by assumption) (by assumption) (by k_asm) (by k_asm)
theorem c1 {st : Stmt} {Q : Flow → Shared → Prop} {E : Value → Shared → Prop}
    (KX : (hd01.heap_39 w.params).In h₀) (T : Top p loose mean mg mb h₀)
    (hl : (hd01.heap_39 w.params).lookup 63 = some ⟨oc, od, .func (fnOf name qual params body scope dV kV doc pm an cdv ct), osl⟩) (hb : body[1]? = some st)
    (F : Fr h₀ L s.heap m) (N : News h₀ L s.heap news) (ht : 1 ≤ s.toks)
    (k : ∀ D n h' tk, 1 ≤ n → (D == sysModules) = false → (∀ p ∈ news, p.1 < D) → Fr h₀ L h' (fun z => if z = Str.ofString "back" then some (.ref D) else m z) → News h₀ L h' ((D, xd w ((tabB n).map Rp.ent) 6) :: news) → Q .next { s with heap := h', toks := tk }) :
    wpAny (model PySem.Challenge.rw_kt0002_01.row.prog w) (callerA.deeper (envOfC (Str.ofString "law") scope L 63 cdv)) (exec st (envOfC (Str.ofString "law") scope L 63 cdv)) Q E s := by
  revert KX; k_fill; intro KX
  have e := hl.symm.trans (by k_is)
  cases e
  cases hb
  have hnl := T.nolimit
  repeat (first | walk1 | (dsimp only; walk1))
  exact k _ s.toks _ _ ht (by assumption) (by assumption) (by k_asm) (by k_asm)
end
end Mine
end
section
theorem Mine.fresh_H14 : True := by
  w_top off
  trivial

open PySem PySem.W PyProof.Rows PySem.Spec PySem.Calls
set_option Elab.async false
set_option maxRecDepth 100000
set_option maxHeartbeats 8000000
namespace Mine
section
variable {w : World} {s : Shared} {h₀ : Heap} {L : Addr} {m : Str → Option Value} {news : List (Addr × Obj)} {p : Program} {loose : List Str} {mean : ExcName → Option Value} {mg mb : Str → Option Value}
  {name qual : Str} {params : Arguments} {body : List Stmt} {scope : Scope} {dV kV doc pm cdv ct oc : Value} {an od : Option Addr} {osl : Array (Option Value)}
local macro_rules | `(tactic| walk_at "eval Name") => `(tactic| (k_here; (with_reducible show wpAny _ _ (eval (Expr.Name _ _) (envOfC _ _ _ _ _)) _ _ _); name_kind "local"; k_dflt (refine' nameX_L ?k1 ?k2 ?_; (case k1 => k_asm); (case k2 => first | exact rfl | (repeat (first | assumption | exact if_pos rfl | refine (if_neg (by decide)).trans ?_))); k_whole)))
local macro_rules | `(tactic| walk_at "eval ListComp") => `(tactic| (k_here; k_dflt (refine ListComp_X (_F₀ := by k_asm) (by with_unfolding_all rfl) (by decide) (by rfl) (by decide) (by rfl) ?_)))
local macro_rules | `(tactic| walk_at "pyIter") => `(tactic| fail "stop here")
theorem off1_all {D : Addr} : ∀ {l : List (Addr × Obj)}, LCg.Off1 D l → ∀ q ∈ l, q.1 ≠ D
  | [], _, _, h => by simp at h
  | p :: r, o, q, h => by
    rcases List.mem_cons.mp h with rfl | h
    · exact o.1
    · exact off1_all o.2 q h
local macro_rules | `(tactic| walk_at "binaryOp FloorDiv int int") => `(tactic| (k_here; refine floordiv_int (by assumption) ?_ (Or.inl (PyProof.noPylong_small (by assumption)))))
theorem c4 {st : Stmt} {total : Int} {t : Tok} {o : Obj} {Q : Flow → Shared → Prop} {E : Value → Shared → Prop}
    (KX : (hd01.heap_39 w.params).In h₀) (T : Top p loose mean mg mb h₀)
    (hl : (hd01.heap_39 w.params).lookup 63 = some ⟨oc, od, .func (fnOf name qual params body scope dV kV doc pm an cdv ct), osl⟩) (hb : body[4]? = some st)
    (F : Fr h₀ L s.heap m) (N : News h₀ L s.heap ((L + 1, o) :: news)) (hd : o.data = .cell (some (.int total t)))
    (k : ∀ (D : Addr) (zs : List Value) (ks : List Nat) (h' : Heap) (tk : Nat), IntsAre zs (ks.map fun c : Nat => (c : Int)) → ks.length = 8 → (∀ c ∈ ks, c < 8) → (∀ q ∈ (L + 1, o) :: news, q.1 ≠ D) → Fr h₀ L h' (fun z => if z = Str.ofString "kinds" then some (.ref D) else m z) → News h₀ L h' ((D, LCg.lst zs) :: (L + 1, o) :: news) → Q .next { s with heap := h', toks := tk }) :
    wpAny (model PySem.Challenge.rw_kt0002_01.row.prog w) (callerA.deeper (envOfC (Str.ofString "law") scope L 63 cdv)) (exec st (envOfC (Str.ofString "law") scope L 63 cdv)) Q E s := by
  revert KX; k_fill; intro KX
  have e := hl.symm.trans (by k_is)
  cases e
  cases hb
  refine Assign_ListComp_X (_F₀ := F) rfl (by with_unfolding_all rfl) (by with_unfolding_all rfl) (by decide) (by rfl) (by decide) (by rfl) (by rfl) (by rfl) ?_
  repeat (first | walk1 | (dsimp only; walk1))
  rename IsRange _ _ _ _ _ _ _ _ => hr
  refine' go_range (n := 8) (R := fun i y => ∃ t, y = .int ((((total.fdiv ((8 : Int) ^ (0 + (i : Int)).toNat)).fmod 8).toNat : Nat) : Int) t) rfl ?F ?N hr ?small ?rs ?sz ?step ?fin
  case F => k_asm
  case N => k_asm
  case small => exact small_one (by decide) (by decide) (by omega) (by omega)
  case rs => rw [rangeSize_nat]; rfl
  case sz => rw [sizeLine_eq]; omega
  case step =>
    intro i v I oI C oC D ys m₂ h tk E' hi hP hoC hv F N off hne
    obtain ⟨t, rfl⟩ := hP
    have h8 : (8 : Int) ^ (0 + (i : Int)).toNat ≠ 0 := by
      have := Int.pow_pos (n := (8 : Int)) (m := (0 + (i : Int)).toNat) (by decide)
      omega
    have h9 : ((8 : Int) ^ (0 + (i : Int)).toNat).natAbs < 1073741824 := by
      have hi' : i = 0 ∨ i = 1 ∨ i = 2 ∨ i = 3 ∨ i = 4 ∨ i = 5 ∨ i = 6 ∨ i = 7 := by omega
      rcases hi' with rfl | rfl | rfl | rfl | rfl | rfl | rfl | rfl <;> decide
    have g8 := mod8 (total.fdiv ((8 : Int) ^ (0 + (i : Int)).toNat))
    dsimp only
    repeat (first | walk1 | (dsimp only; walk1))
    · k_asm
    · refine ⟨by k_asm, ⟨_, congrArg (fun z => Value.int z _) ?_⟩⟩
      omega
  case fin =>
    intro g ys hyl hys
    unfold LCg.FinA
    intro D h2 tk2 F2 N2 o2
    refine k D ys _ h2 tk2 (ints_of_map (fun i => ((total.fdiv ((8 : Int) ^ (0 + (i : Int)).toNat)).fmod 8).toNat) hyl hys) (by simp) (fun c hc => ?_) (off1_all o2) F2 N2
    obtain ⟨i, _, rfl⟩ := List.mem_map.mp hc
    have g8 := mod8 (total.fdiv ((8 : Int) ^ (0 + (i : Int)).toNat))
    omega
end
end Mine
end
section
theorem Mine.fresh_H12 : True := by
  w_top off
  trivial
open PySem PySem.W PyProof.Rows PySem.Spec PySem.Calls
set_option Elab.async false
set_option maxRecDepth 100000
set_option maxHeartbeats 8000000
namespace Mine
section
variable {w : World} {s : Shared} {h₀ : Heap} {L : Addr} {m : Str → Option Value} {news : List (Addr × Obj)} {p : Program} {loose : List Str} {mean : ExcName → Option Value} {mg mb : Str → Option Value}
  {name qual : Str} {params : Arguments} {body : List Stmt} {scope : Scope} {dV kV doc pm cdv ct oc : Value} {an od : Option Addr} {osl : Array (Option Value)}
local macro_rules | `(tactic| walk_at "eval Name") => `(tactic| (k_here; (with_reducible show wpAny _ _ (eval (Expr.Name _ _) (envOfC _ _ _ _ _)) _ _ _); name_kind "local"; k_dflt (refine' nameX_L ?k1 ?k2 ?_; (case k1 => k_asm); (case k2 => first | exact rfl | (repeat (first | assumption | exact if_pos rfl | refine (if_neg (by decide)).trans ?_))); k_whole)))
local macro_rules | `(tactic| walk_at "eval ListComp") => `(tactic| (k_here; k_dflt (refine ListComp_X (_F₀ := by k_asm) (by with_unfolding_all rfl) (by decide) (by rfl) (by decide) (by rfl) ?_)))
local macro_rules | `(tactic| walk_at "pyIter") => `(tactic| fail "stop here")
theorem ints_any : ∀ {ys : List Value}, (∀ (i : Nat) (v : Value), ys[i]? = some v → ∃ (n : Int) (t : Tok), v = Value.int n t ∧ 0 ≤ n) → ∃ ns, IntsAre ys ns ∧ ∀ x ∈ ns, 0 ≤ x
  | [], _ => ⟨[], .nil, by simp⟩
  | v :: r, h => by
    obtain ⟨n, t, rfl, hn⟩ := h 0 v rfl
    obtain ⟨ns, h1, h2⟩ := ints_any (ys := r) fun i v e => h (i + 1) v e
    refine ⟨n :: ns, .cons _ _ h1, fun x hx => ?_⟩
    rcases List.mem_cons.mp hx with rfl | hx
    · exact hn
    · exact h2 x hx
theorem c2 {st : Stmt} {a : Addr} {vs : List Value} {xs : List Int} {Q : Flow → Shared → Prop} {E : Value → Shared → Prop}
    (KX : (hd01.heap_39 w.params).In h₀) (T : Top p loose mean mg mb h₀)
    (hl : (hd01.heap_39 w.params).lookup 63 = some ⟨oc, od, .func (fnOf name qual params body scope dV kV doc pm an cdv ct), osl⟩) (hb : body[2]? = some st)
    (F : Fr h₀ L s.heap m) (N : News h₀ L s.heap news) (ha : m (Str.ofString "script") = some (.ref a)) (hla : h₀.IsList a vs.toArray) (hia : IntsAre vs xs) (hza : xs.length ≤ 63)
    (k : ∀ (D : Addr) (zs : List Value) (ns : List Int) (h' : Heap) (tk : Nat), IntsAre zs ns → zs.length ≤ 10 → (∀ x ∈ ns, 0 ≤ x) → (∀ q ∈ news, q.1 ≠ D) → Fr h₀ L h' (fun z => if z = Str.ofString "parts" then some (.ref D) else m z) → News h₀ L h' ((D, LCg.lst zs) :: news) → Q .next { s with heap := h', toks := tk }) :
    wpAny (model PySem.Challenge.rw_kt0002_01.row.prog w) (callerA.deeper (envOfC (Str.ofString "law") scope L 63 cdv)) (exec st (envOfC (Str.ofString "law") scope L 63 cdv)) Q E s := by
  revert KX; k_fill; intro KX
  have e := hl.symm.trans (by k_is)
  cases e
  cases hb
  have hvl := hia.length
  refine Assign_ListComp_X (_F₀ := F) rfl (by with_unfolding_all rfl) (by with_unfolding_all rfl) (by decide) (by rfl) (by decide) (by rfl) (by rfl) (by rfl) ?_
  repeat (first | walk1 | (dsimp only; walk1))
  rename IntsAre _ (List.take 10 _) => hi7
  rename List Value => ws7
  rename Fr _ _ _ _ => F7
  rename News _ _ _ _ => N7
  have hw7 := hi7.length
  rw [List.length_take] at hw7
  refine' go_list (its := ws7.toArray) (R := fun i y => ∃ (n : Int) (t : Tok), y = .int n t ∧ 0 ≤ n) rfl F7 N7 (Or.inr ⟨_, List.mem_cons_self .., rfl, _, rfl⟩) ?sz ?step ?fin
  case sz => rw [sizeLine_eq, List.size_toArray]; omega
  case step =>
    intro i v I oI C oC Dc ys2 m₂ h tk E' hi8 hP hoC hv F N off hne
    obtain ⟨x, t, rfl, hx⟩ := hi7.at i v (by simpa using hP)
    dsimp only
    repeat (first | walk1 | (dsimp only; walk1))
    · k_asm
    · refine ⟨by k_asm, _, _, rfl, ?_⟩
      rw [Int.fmod_eq_emod_of_nonneg _ (by decide)]; omega
  case fin =>
    intro g5 ys hyl hys
    obtain ⟨ns, hns, hpos⟩ := ints_any hys
    unfold LCg.FinA
    intro D3 h3 tk3 F3 N3 o3
    exact k D3 ys ns h3 tk3 hns (by rw [hyl, List.size_toArray]; omega) hpos (fun q hq => off1_all o3 q (.tail _ hq)) F3 (fun q hq => N3 q (by
      rcases List.mem_cons.mp hq with rfl | hq
      · exact .head _
      · exact .tail _ (.tail _ hq)))
end
end Mine
end
section
theorem Mine.fresh_H13 : True := by
  w_top off
  trivial

open PySem PySem.W PyProof.Rows PySem.Spec PySem.Calls
set_option Elab.async false
set_option maxRecDepth 100000
set_option maxHeartbeats 8000000
namespace Mine
section
variable {w : World} {s : Shared} {h₀ : Heap} {L : Addr} {m : Str → Option Value} {news : List (Addr × Obj)} {p : Program} {loose : List Str} {mean : ExcName → Option Value} {mg mb : Str → Option Value}
  {name qual : Str} {params : Arguments} {body : List Stmt} {scope : Scope} {dV kV doc pm cdv ct oc : Value} {an od : Option Addr} {osl : Array (Option Value)}
local macro_rules | `(tactic| walk_at "eval Name") => `(tactic| (k_here; (with_reducible show wpAny _ _ (eval (Expr.Name _ _) (envOfC _ _ _ _ _)) _ _ _); name_kind "local"; k_dflt (refine' nameX_L ?k1 ?k2 ?_; (case k1 => k_asm); (case k2 => first | exact rfl | (repeat (first | assumption | exact if_pos rfl | refine (if_neg (by decide)).trans ?_))); k_whole)))
local macro_rules | `(tactic| walk_at "eval ListComp") => `(tactic| (k_here; k_dflt (refine ListComp_X (_F₀ := by k_asm) (by with_unfolding_all rfl) (by decide) (by rfl) (by decide) (by rfl) ?_)))
local macro_rules | `(tactic| walk_at "pyIter") => `(tactic| fail "stop here")
theorem c3 {st : Stmt} {Dp : Addr} {zs : List Value} {ns : List Int} {o : Obj} {vo : Option Value} {Q : Flow → Shared → Prop} {E : Value → Shared → Prop}
    (KX : (hd01.heap_39 w.params).In h₀) (T : Top p loose mean mg mb h₀)
    (hl : (hd01.heap_39 w.params).lookup 63 = some ⟨oc, od, .func (fnOf name qual params body scope dV kV doc pm an cdv ct), osl⟩) (hb : body[3]? = some st)
    (F : Fr h₀ L s.heap m) (N : News h₀ L s.heap ((Dp, LCg.lst zs) :: (L + 1, o) :: news)) (hpa : m (Str.ofString "parts") = some (.ref Dp)) (hiz : IntsAre zs ns) (hzz : zs.length ≤ 10) (hdo : o.data = .cell vo) (hD : Dp ≠ L + 1) (hnd : ∀ q ∈ news, q.1 ≠ L + 1)
    (k : ∀ (o' : Obj) (total : Int) (t : Tok) (h' : Heap) (tk : Nat), o'.data = .cell (some (.int total t)) → Fr h₀ L h' m → News h₀ L h' ((Dp, LCg.lst zs) :: (L + 1, o') :: news) → Q .next { s with heap := h', toks := tk }) :
    wpAny (model PySem.Challenge.rw_kt0002_01.row.prog w) (callerA.deeper (envOfC (Str.ofString "law") scope L 63 cdv)) (exec st (envOfC (Str.ofString "law") scope L 63 cdv)) Q E s := by
  revert KX; k_fill; intro KX
  have e := hl.symm.trans (by k_is)
  cases e
  cases hb
  have hzl := hiz.length
  repeat (first | walk1 | (dsimp only; walk1))
  refine storeX_C (c := L + 1) (by assumption) (by assumption) rfl (.tail hD (.head hnd)) hdo (fun h₂ o' F₂ N₂ d₂ => ?_)
  exact k o' _ _ _ _ d₂ F₂ N₂
end
end Mine
end
section
theorem Mine.fresh_H15 : True := by
  w_top off
  trivial

open PySem PySem.W PyProof.Rows PySem.Spec PySem.Calls
set_option Elab.async false
set_option maxRecDepth 100000
set_option maxHeartbeats 8000000
namespace Mine
section
variable {w : World} {s : Shared} {h₀ : Heap} {L : Addr} {m : Str → Option Value} {news : List (Addr × Obj)} {p : Program} {loose : List Str} {mean : ExcName → Option Value} {mg mb : Str → Option Value}
  {name qual : Str} {params : Arguments} {body : List Stmt} {scope : Scope} {dV kV doc pm cdv ct oc : Value} {an od : Option Addr} {osl : Array (Option Value)}
local macro_rules | `(tactic| walk_at "eval Name") => `(tactic| (k_here; (with_reducible show wpAny _ _ (eval (Expr.Name _ _) (envOfC _ _ _ _ _)) _ _ _); name_kind "local"; k_dflt (refine' nameX_L ?k1 ?k2 ?_; (case k1 => k_asm); (case k2 => first | exact rfl | (repeat (first | assumption | exact if_pos rfl | refine (if_neg (by decide)).trans ?_))); k_whole)))
local macro_rules | `(tactic| walk_at "eval ListComp") => `(tactic| (k_here; k_dflt (refine ListComp_X (_F₀ := by k_asm) (by with_unfolding_all rfl) (by decide) (by rfl) (by decide) (by rfl) ?_)))
local macro_rules | `(tactic| walk_at "pyIter") => `(tactic| fail "stop here")
def fW (c : Nat) : Str := Str.ofString "&" ++ Txt.item tL (c : Int) ++ Str.ofString "t;"
theorem fW_at : ∀ c, c < 8 → (fW c).cps.toList = blk c := by decide +kernel
theorem fW_len : ∀ c, c < 8 → (fW c).length = 4 := by decide +kernel
/-- the writing, into its cell -/
theorem c5 {st : Stmt} {D : Addr} {zs : List Value} {ks : List Nat} {o oT oM : Obj} {vo : Option Value} {Q : Flow → Shared → Prop} {E : Value → Shared → Prop}
    (KX : (hd01.heap_39 w.params).In h₀) (T : Top p loose mean mg mb h₀)
    (hl : (hd01.heap_39 w.params).lookup 63 = some ⟨oc, od, .func (fnOf name qual params body scope dV kV doc pm an cdv ct), osl⟩) (hb : body[5]? = some st)
    (F : Fr h₀ L s.heap m) (N : News h₀ L s.heap ((D, LCg.lst zs) :: (L + 1 + 1, o) :: news)) (hnd : ∀ q ∈ news, q.1 ≠ L + 1 + 1) (hD : D ≠ L + 1 + 1) (hdo : o.data = .cell vo) (hkn : m (Str.ofString "kinds") = some (.ref D)) (hi : IntsAre zs (ks.map fun c : Nat => (c : Int))) (h8 : ks.length = 8) (hk8 : ∀ c ∈ ks, c < 8)
    (k : ∀ (o' : Obj) (wr : Str) (t : Tok) (h' : Heap) (tk : Nat), wr.cps.toList = ks.flatMap blk → o'.data = .cell (some (.str wr t)) → Fr h₀ L h' m → News h₀ L h' ((D, LCg.lst zs) :: (L + 1 + 1, o') :: news) → Q .next { s with heap := h', toks := tk }) :
    wpAny (model PySem.Challenge.rw_kt0002_01.row.prog w) (callerA.deeper (envOfC (Str.ofString "law") scope L 63 cdv)) (exec st (envOfC (Str.ofString "law") scope L 63 cdv)) Q E s := by
  revert KX; k_fill; intro KX
  have e := hl.symm.trans (by k_is)
  cases e
  cases hb
  have hzl : zs.length = 8 := by rw [hi.length, List.length_map, h8]
  repeat (first | walk1 | (dsimp only; walk1))
  refine' go_list (its := zs.toArray) (R := fun i y => ∃ (c : Nat) (t : Tok), ks[i]? = some c ∧ y = .str (fW c) t) rfl ?F ?N (Or.inr ⟨LCg.lst zs, List.mem_cons_self .., rfl, _, rfl⟩) ?sz ?step ?fin
  case F => k_asm
  case N => k_asm
  case sz => rw [sizeLine_eq, List.size_toArray]; omega
  case step =>
    intro i v I oI C oC Dc ys2 m₂ h tk E' hi8 hP hoC hv F N off hne
    obtain ⟨c, t9, hc, rfl⟩ := int_nat_at hi (by simpa using hP)
    have hc8 := hk8 c (List.mem_of_getElem? hc)
    have hcl : (Txt.item (Str.ofString "lgmqanbh") (c : Int)).length = 1 := (item_L c hc8).2
    have z1 : (0 : Int) ≤ (c : Int) := by omega
    have z2 : (c : Int) < 8 := by omega
    dsimp only
    repeat (first | walk1 | (dsimp only; walk1))
    · k_asm
    · exact ⟨by k_asm, c, _, hc, rfl⟩
  case fin =>
    intro g5 ys2 hyl2 hys2
    have hss := strs_of_map fW (q := ks) (by rw [hyl2]; simp; omega) hys2
    unfold LCg.FinE
    intro D3 h3 tk3 F3 N3 o3
    repeat (first | walk1 | (dsimp only; walk1))
    refine' join_listW (lst_at N3 (List.mem_cons_self ..)) (by simpa using hss) (by decide) ?wt ?_
    case wt => rw [sum_of_map fW_len hk8, List.length_map, h8]; decide
    intro t8 k8
    repeat (first | walk1 | (dsimp only; walk1))
    refine storeX_C (h₀ := h₀) (news := (D, LCg.lst zs) :: (L + 1 + 1, o) :: news) (c := L + 1 + 1) F3 (fun q hq => N3 q (.tail _ hq)) rfl (.tail hD (.head hnd)) hdo (fun h₂ o' F₂ N₂ d₂ => ?_)
    exact k o' _ _ _ _ (join_of_map fW_at hk8) d₂ F₂ N₂
end
end Mine
end
section
theorem Mine.fresh_H16 : True := by
  w_top off
  trivial
open PySem PySem.W PyProof.Rows PySem.Spec PySem.Calls
set_option Elab.async false
set_option maxRecDepth 100000
set_option maxHeartbeats 8000000
namespace Mine
section
variable {w : World} {s : Shared} {h₀ : Heap} {L : Addr} {m : Str → Option Value} {news : List (Addr × Obj)} {p : Program} {loose : List Str} {mean : ExcName → Option Value} {mg mb : Str → Option Value}
  {name qual : Str} {params : Arguments} {body : List Stmt} {scope : Scope} {dV kV doc pm cdv ct oc : Value} {an od : Option Addr} {osl : Array (Option Value)}
local macro_rules | `(tactic| walk_at "eval Name") => `(tactic| (k_here; (with_reducible show wpAny _ _ (eval (Expr.Name _ _) (envOfC _ _ _ _ _)) _ _ _); name_kind "local"; k_dflt (refine' nameX_L ?k1 ?k2 ?_; (case k1 => k_asm); (case k2 => first | exact rfl | (repeat (first | assumption | exact if_pos rfl | refine (if_neg (by decide)).trans ?_))); k_whole)))
local macro_rules | `(tactic| walk_at "eval ListComp") => `(tactic| (k_here; k_dflt (refine ListComp_X (_F₀ := by k_asm) (by with_unfolding_all rfl) (by decide) (by rfl) (by decide) (by rfl) ?_)))
local macro_rules | `(tactic| walk_at "pyIter") => `(tactic| fail "stop here")
theorem c6 {st : Stmt} {D Dt : Addr} {zs : List Value} {ks : List Nat} {oW : Obj} {wr : Str} {t : Tok} {n : Nat} {Q : Flow → Shared → Prop} {E : Value → Shared → Prop}
    (KX : (hd01.heap_39 w.params).In h₀) (T : Top p loose mean mg mb h₀)
    (hl : (hd01.heap_39 w.params).lookup 63 = some ⟨oc, od, .func (fnOf name qual params body scope dV kV doc pm an cdv ct), osl⟩) (hb : body[6]? = some st)
    (F : Fr h₀ L s.heap m) (N : News h₀ L s.heap ((D, LCg.lst zs) :: (L + 1 + 1, oW) :: (Dt, xd w ((tabE n).map Rp.ent) 6) :: news)) (hn : 1 ≤ n) (ht : 1 ≤ s.toks) (hsys : (Dt == sysModules) = false) (hdo : oW.data = .cell (some (.str wr t)))
    (hkn : m (Str.ofString "kinds") = some (.ref D)) (hta : m (Str.ofString "table") = some (.ref Dt)) (hi : IntsAre zs (ks.map fun c : Nat => (c : Int))) (h8 : ks.length = 8) (hk8 : ∀ c ∈ ks, c < 8) (hwr : wr.cps.toList = ks.flatMap blk)
    (k : ∀ (h' : Heap) (tk : Nat), Fr h₀ L h' m → News h₀ L h' ((D, LCg.lst zs) :: (L + 1 + 1, oW) :: (Dt, xd w ((tabE n).map Rp.ent) 6) :: news) → Q .next { s with heap := h', toks := tk }) :
    wpAny (model PySem.Challenge.rw_kt0002_01.row.prog w) (callerA.deeper (envOfC (Str.ofString "law") scope L 63 cdv)) (exec st (envOfC (Str.ofString "law") scope L 63 cdv)) Q E s := by
  revert KX; k_fill; intro KX
  have e := hl.symm.trans (by k_is)
  cases e
  cases hb
  have hzl : zs.length = 8 := by rw [hi.length, List.length_map, h8]
  iterate 6 (first | walk1 | (dsimp only; walk1))
  refine wpAny_toks 1 (by first | assumption | (dsimp only; omega)) ?_
  repeat (first | walk1 | (dsimp only; walk1))
  refine' go_list (its := zs.toArray) (R := fun i y => ∃ (c : Nat) (t : Tok), ks[i]? = some c ∧ y = .str (f0 c) t) rfl ?F ?N (Or.inr ⟨LCg.lst zs, List.mem_cons_self .., rfl, _, rfl⟩) ?sz ?step ?fin
  case F => k_asm
  case N => k_asm
  case sz => rw [sizeLine_eq, List.size_toArray]; omega
  case step =>
    intro i v I oI C oC Dc ys2 m₂ h tk E' hi8 hP hoC hv F N off hne
    obtain ⟨c, t9, hc, rfl⟩ := int_nat_at hi (by simpa using hP)
    have hc8 := hk8 c (List.mem_of_getElem? hc)
    have z1 : (0 : Int) ≤ (c : Int) := by omega
    have z2 : (c : Int) < 8 := by omega
    dsimp only
    repeat (first | walk1 | (dsimp only; walk1))
    · k_asm
    · exact ⟨by k_asm, c, _, hc, rfl⟩
  case fin =>
    intro g5 ys2 hyl2 hys2
    have hss := strs_of_map f0 (q := ks) (by rw [hyl2]; simp; omega) hys2
    unfold LCg.FinE
    intro D3 h3 tk3 F3 N3 o3
    have hj := join_of_map f0_at hk8
    have hjl : (Txt.join (Str.ofString "") (ks.map f0)).length = 8 := by rw [join_len, sum_of_map f0_len hk8, h8]
    repeat (first | walk1 | (dsimp only; walk1))
    refine' join_listW (lst_at N3 (List.mem_cons_self ..)) (by simpa using hss) (by decide) ?wt ?_
    case wt => rw [sum_of_map f0_len hk8, List.length_map, h8]; decide
    intro t8 k8
    dsimp only
    intro ht8
    generalize Txt.join (Str.ofString "") (ks.map f0) = x at hj hjl ⊢
    repeat (first | walk1 | (dsimp only; walk1))
    rename Fr _ _ _ _ => F₅
    rename News _ _ _ _ => N₅
    refine' escape01 (l := tabE n) (n := 6) (below_caller h₀) F₅ KX N₅ T ?hA ?hf ?hke ?hr rfl ?hd hsys (nodupE n) ?hne ?hlz ?hx ?ht (okE (by omega) hn) ?_
    case hA => exact rfl
    case hf => exact rfl
    case hke => exact rfl
    case hr => show (callerA.depth + 1 + 1 : Nat) < recursionLimit; decide
    case hd => exact .tail _ (.tail _ (.tail _ (.head _)))
    case hne => simp [tabE]
    case hlz => show (6 : Nat) ≤ 100; decide
    case hx => omega
    case ht => assumption
    intro t' h' tk' F₆ N₆
    have hxw : (tabE n).foldl Rp.rep (escT x) = wr := str_ext (by rw [wrE, hj, ← map_flat, esc_kinds hk8, hwr])
    rw [hxw]
    clear F₅ N₅
    repeat (first | walk1 | (dsimp only; walk1))
    · exfalso
      rename ((_ : Str) != _) = true => hc
      exact absurd hc (by simp)
    · repeat (first | walk1 | (dsimp only; walk1))
      rename News _ _ _ _ => N₉
      exact k _ _ (by k_asm) (fun q hq => N₉ q (.tail _ hq))
end
end Mine
end
section
theorem Mine.fresh_H17 : True := by
  w_top off
  trivial

open PySem PySem.W PyProof.Rows PySem.Spec PySem.Calls
set_option Elab.async false
set_option maxRecDepth 100000
set_option maxHeartbeats 8000000
namespace Mine
section
variable {w : World} {s : Shared} {h₀ : Heap} {L : Addr} {m : Str → Option Value} {news : List (Addr × Obj)} {p : Program} {loose : List Str} {mean : ExcName → Option Value} {mg mb : Str → Option Value}
  {name qual : Str} {params : Arguments} {body : List Stmt} {scope : Scope} {dV kV doc pm cdv ct oc : Value} {an od : Option Addr} {osl : Array (Option Value)}
local macro_rules | `(tactic| walk_at "eval Name") => `(tactic| (k_here; (with_reducible show wpAny _ _ (eval (Expr.Name _ _) (envOfC _ _ _ _ _)) _ _ _); name_kind "local"; k_dflt (refine' nameX_L ?k1 ?k2 ?_; (case k1 => k_asm); (case k2 => first | exact rfl | (repeat (first | assumption | exact if_pos rfl | refine (if_neg (by decide)).trans ?_))); k_whole)))
local macro_rules | `(tactic| walk_at "eval ListComp") => `(tactic| (k_here; k_dflt (refine ListComp_X (_F₀ := by k_asm) (by with_unfolding_all rfl) (by decide) (by rfl) (by decide) (by rfl) ?_)))
local macro_rules | `(tactic| walk_at "pyIter") => `(tactic| fail "stop here")
theorem ints_of_signs : ∀ {l : List Nat} {ys : List Value}, ys.length = l.length → (∀ (i : Nat) (v : Value), ys[i]? = some v → ∃ (c : Nat) (t : Tok), l[i]? = some c ∧ v = Value.int (c : Int) t) → IntsAre ys (l.map fun c : Nat => (c : Int))
  | [], [], _, _ => .nil
  | c :: l, v :: ys, hl, h => by
    obtain ⟨d, t, hd, rfl⟩ := h 0 v rfl
    obtain rfl : c = d := by simpa using hd
    exact .cons _ _ (ints_of_signs (by simpa using hl) fun i v e => h (i + 1) v e)
theorem low_bytes {l : List Nat} (h : ∀ c ∈ l, c < 128) : (((l.map fun c : Nat => (c : Int)).map fun n => n.toNat.toUInt8).toArray).toList.map UInt8.toNat = l := by
  rw [List.map_map, List.map_map]
  conv => rhs; rw [← List.map_id l]
  refine List.map_congr_left fun c hc => ?_
  have := h c hc
  show (((c : Int).toNat).toUInt8).toNat = c
  rw [Int.toNat_natCast]
  show (UInt8.ofNat c).toNat = c
  rw [UInt8.toNat_ofNat']
  omega
theorem c7 {st : Stmt} {oW : Obj} {wr : Str} {t : Tok} {Q : Flow → Shared → Prop} {E : Value → Shared → Prop}
    (KX : (hd01.heap_39 w.params).In h₀) (T : Top p loose mean mg mb h₀)
    (hl : (hd01.heap_39 w.params).lookup 63 = some ⟨oc, od, .func (fnOf name qual params body scope dV kV doc pm an cdv ct), osl⟩) (hb : body[7]? = some st)
    (F : Fr h₀ L s.heap m) (N : News h₀ L s.heap ((L + 1 + 1, oW) :: news)) (hdo : oW.data = .cell (some (.str wr t))) (hz : wr.length ≤ 1000) (hlow : ∀ c ∈ wr.cps.toList, c < 128)
    (k : ∀ b t h' tk, b.toList.map UInt8.toNat = wr.cps.toList → Fr h₀ L h' (fun z => if z = Str.ofString "octets" then some (.bytes b t) else m z) → News h₀ L h' ((L + 1 + 1, oW) :: news) → Q .next { s with heap := h', toks := tk }) :
    wpAny (model PySem.Challenge.rw_kt0002_01.row.prog w) (callerA.deeper (envOfC (Str.ofString "law") scope L 63 cdv)) (exec st (envOfC (Str.ofString "law") scope L 63 cdv)) Q E s := by
  revert KX; k_fill; intro KX
  have e := hl.symm.trans (by k_is)
  cases e
  cases hb
  repeat (first | walk1 | (dsimp only; walk1))
  have hzz : wr.cps.size ≤ 1000 := hz
  refine' go_str (R := fun i y => ∃ (c : Nat) (t : Tok), wr.cps.toList[i]? = some c ∧ y = Value.int (c : Int) t) rfl ?F ?N ?sz ?step ?fin
  case F => k_asm
  case N => k_asm
  case sz => rw [sizeLine_eq]; omega
  case step =>
    intro i v I oI C oC D ys m₂ h tk E' hi hP hoC hv F N off hne
    obtain ⟨c, t2, hc, rfl⟩ := hP
    dsimp only
    repeat (first | walk1 | (dsimp only; walk1))
    · k_asm
    · exact ⟨by k_asm, c, _, by rw [← hc]; simp, rfl⟩
  case fin =>
    intro g ys hyl hys
    unfold LCg.FinE
    intro D h2 tk2 F2 N2 o2
    repeat (first | walk1 | (dsimp only; walk1))
    have hi := ints_of_signs (by simpa using hyl) hys
    refine' bytes_K F2 N2 (lst_at N2 (List.mem_cons_self ..)) hi ?hr ?hz rfl ?_
    case hr =>
      intro n hn
      obtain ⟨c, hc, rfl⟩ := List.mem_map.mp hn
      have := hlow c hc
      omega
    case hz => rw [sizeLine_eq]; omega
    intro h3 t3 k3 F3 N3 hB
    repeat (first | walk1 | (dsimp only; walk1))
    rename News _ _ _ _ => N₉
    exact k _ _ _ _ (low_bytes hlow) (by k_asm) (fun q hq => N₉ q (.tail _ hq))
end
end Mine
end
section
theorem Mine.fresh_H18 : True := by
  w_top off
  trivial

open PySem PySem.W PyProof.Rows PySem.Spec PySem.Calls
set_option Elab.async false
set_option maxRecDepth 100000
set_option maxHeartbeats 8000000
namespace Mine
section
variable {w : World} {s : Shared} {h₀ : Heap} {L : Addr} {m : Str → Option Value} {news : List (Addr × Obj)} {p : Program} {loose : List Str} {mean : ExcName → Option Value} {mg mb : Str → Option Value}
  {name qual : Str} {params : Arguments} {body : List Stmt} {scope : Scope} {dV kV doc pm cdv ct oc : Value} {an od : Option Addr} {osl : Array (Option Value)}
local macro_rules | `(tactic| walk_at "eval Name") => `(tactic| (k_here; (with_reducible show wpAny _ _ (eval (Expr.Name _ _) (envOfC _ _ _ _ _)) _ _ _); name_kind "local"; k_dflt (refine' nameX_L ?k1 ?k2 ?_; (case k1 => k_asm); (case k2 => first | exact rfl | (repeat (first | assumption | exact if_pos rfl | refine (if_neg (by decide)).trans ?_))); k_whole)))
local macro_rules | `(tactic| walk_at "eval ListComp") => `(tactic| (k_here; k_dflt (refine ListComp_X (_F₀ := by k_asm) (by with_unfolding_all rfl) (by decide) (by rfl) (by decide) (by rfl) ?_)))
local macro_rules | `(tactic| walk_at "pyIter") => `(tactic| fail "stop here")
theorem c8 {st : Stmt} {a : Addr} {vs : List Value} {xs : List Int} {Q : Flow → Shared → Prop} {E : Value → Shared → Prop}
    (KX : (hd01.heap_39 w.params).In h₀) (T : Top p loose mean mg mb h₀)
    (hl : (hd01.heap_39 w.params).lookup 63 = some ⟨oc, od, .func (fnOf name qual params body scope dV kV doc pm an cdv ct), osl⟩) (hb : body[8]? = some st)
    (F : Fr h₀ L s.heap m) (N : News h₀ L s.heap news) (ha : m (Str.ofString "script") = some (.ref a)) (hla : h₀.IsList a vs.toArray) (hia : IntsAre vs xs) (hza : xs.length ≤ 63)
    (k : ∀ (D : Addr) (n : Nat) (ws : List Value) (wn : List Nat) (h' : Heap) (tk : Nat), IntsAre ws (wn.map fun c : Nat => (c : Int)) → wn.length = 1 → (∀ c ∈ wn, c < 64) → Fr h₀ L h' (fun z => if z = Str.ofString "widths" then some (.ref D) else m z) → News h₀ L h' ((D, W.listOf ws.toArray n) :: news) → (∀ q ∈ news, q.1 ≠ D) → Q .next { s with heap := h', toks := tk }) :
    wpAny (model PySem.Challenge.rw_kt0002_01.row.prog w) (callerA.deeper (envOfC (Str.ofString "law") scope L 63 cdv)) (exec st (envOfC (Str.ofString "law") scope L 63 cdv)) Q E s := by
  revert KX; k_fill; intro KX
  have e := hl.symm.trans (by k_is)
  cases e
  cases hb
  have hvl := hia.length
  have m6 : 0 ≤ ((xs.length : Int) + 1).fmod 6 ∧ ((xs.length : Int) + 1).fmod 6 < 6 := by rw [Int.fmod_eq_emod_of_nonneg _ (by decide)]; omega
  repeat (first | walk1 | (dsimp only; walk1))
  rename ∀ p ∈ news, p.1 < _ => hlt
  rename Fr _ _ _ _ => F₉
  rename News _ _ _ _ => N₉
  have e2 : (2 : Int) ^ (((xs.length : Int) + 1).fmod 6).toNat = ((2 ^ (((xs.length : Int) + 1).fmod 6).toNat : Nat) : Int) := by rw [Int.natCast_pow]; rfl
  refine k _ 0 [.int ((2 : Int) ^ (((xs.length : Int) + 1).fmod 6).toNat) _] [2 ^ (((xs.length : Int) + 1).fmod 6).toNat] _ _ ?_ rfl ?_ F₉ N₉ (fun q hq => Nat.ne_of_lt (hlt q hq))
  · rw [e2]; exact .cons _ _ .nil
  · intro c hc
    obtain rfl := List.mem_singleton.mp hc
    have : (((xs.length : Int) + 1).fmod 6).toNat ≤ 5 := by omega
    exact Nat.lt_of_le_of_lt (Nat.pow_le_pow_right (by decide) this) (by decide)
end
end Mine
end
section
theorem Mine.fresh_H19 : True := by
  w_top off
  trivial
open PySem PySem.W PyProof.Rows PySem.Spec PySem.Calls
set_option Elab.async false
set_option maxRecDepth 100000
set_option maxHeartbeats 8000000
namespace Mine
section
variable {w : World} {s : Shared} {h₀ : Heap} {L : Addr} {m : Str → Option Value} {news : List (Addr × Obj)} {p : Program} {loose : List Str} {mean : ExcName → Option Value} {mg mb : Str → Option Value}
  {name qual : Str} {params : Arguments} {body : List Stmt} {scope : Scope} {dV kV doc pm cdv ct oc : Value} {an od : Option Addr} {osl : Array (Option Value)}
local macro_rules | `(tactic| walk_at "eval Name") => `(tactic| (k_here; (with_reducible show wpAny _ _ (eval (Expr.Name _ _) (envOfC _ _ _ _ _)) _ _ _); name_kind "local"; k_dflt (refine' nameX_L ?k1 ?k2 ?_; (case k1 => k_asm); (case k2 => first | exact rfl | (repeat (first | assumption | exact if_pos rfl | refine (if_neg (by decide)).trans ?_))); k_whole)))
local macro_rules | `(tactic| walk_at "eval ListComp") => `(tactic| (k_here; k_dflt (refine ListComp_X (_F₀ := by k_asm) (by with_unfolding_all rfl) (by decide) (by rfl) (by decide) (by rfl) ?_)))
local macro_rules | `(tactic| walk_at "pyIter") => `(tactic| fail "stop here")
theorem ints_app : ∀ {a b : List Value} {xs ys : List Int}, IntsAre a xs → IntsAre b ys → IntsAre (a ++ b) (xs ++ ys)
  | _, _, _, _, .nil, h => h
  | _, _, _, _, .cons n t r, h => .cons n t (ints_app r h)
theorem news_back {h₀ h : Heap} {L : Addr} {x : Addr × Obj} {own rest : List (Addr × Obj)} (N : News h₀ L h (x :: (own ++ rest))) : News h₀ L h (own ++ x :: rest) := fun q hq => N q (by
  rcases List.mem_append.mp hq with hq | hq
  · exact .tail _ (List.mem_append_left _ hq)
  · rcases List.mem_cons.mp hq with rfl | hq
    · exact .head _
    · exact .tail _ (List.mem_append_right _ hq))
theorem c9 {st : Stmt} {D Dp : Addr} {n : Nat} {ws zs : List Value} {wn : List Nat} {ns : List Int} {Q : Flow → Shared → Prop} {E : Value → Shared → Prop}
    (KX : (hd01.heap_39 w.params).In h₀) (T : Top p loose mean mg mb h₀)
    (hl : (hd01.heap_39 w.params).lookup 63 = some ⟨oc, od, .func (fnOf name qual params body scope dV kV doc pm an cdv ct), osl⟩) (hb : body[9]? = some st)
    (F : Fr h₀ L s.heap m) (N : News h₀ L s.heap ((D, W.listOf ws.toArray n) :: (Dp, LCg.lst zs) :: news)) (hwd : m (Str.ofString "widths") = some (.ref D)) (hpa : m (Str.ofString "parts") = some (.ref Dp)) (hDn : ∀ q ∈ (Dp, LCg.lst zs) :: news, q.1 ≠ D)
    (hiw : IntsAre ws (wn.map fun c : Nat => (c : Int))) (hwl : wn.length = 1) (hw64 : ∀ c ∈ wn, c < 64) (hiz : IntsAre zs ns) (hzz : zs.length ≤ 10) (hpos : ∀ x ∈ ns, 0 ≤ x)
    (k : ∀ (n : Nat) (ws : List Value) (wn : List Nat) (h' : Heap) (tk : Nat) (m' : Str → Option Value), IntsAre ws (wn.map fun c : Nat => (c : Int)) → wn.length ≤ 11 → (∀ c ∈ wn, c < 64) → (∀ y, y ≠ Str.ofString "x" → m' y = m y) → Fr h₀ L h' m' → News h₀ L h' ((D, W.listOf ws.toArray n) :: (Dp, LCg.lst zs) :: news) → Q .next { s with heap := h', toks := tk }) :
    wpT (model PySem.Challenge.rw_kt0002_01.row.prog w) (callerA.deeper (envOfC (Str.ofString "law") scope L 63 cdv)) (exec st (envOfC (Str.ofString "law") scope L 63 cdv)) Q E s := by
  revert KX; k_fill; intro KX
  have e := hl.symm.trans (by k_is)
  cases e
  cases hb
  refine For_listJ (h₀ := h₀) rfl rfl rfl (fun i m' nw => ∃ (n : Nat) (ws : List Value) (wn : List Nat), nw = (D, W.listOf ws.toArray n) :: (Dp, LCg.lst zs) :: news ∧ IntsAre ws (wn.map fun c : Nat => (c : Int)) ∧ wn.length = i + 1 ∧ (∀ c ∈ wn, c < 64) ∧ ∀ y, y ≠ Str.ofString "x" → m' y = m y)
    (D :: Dp :: news.map (·.1)) (by rintro i m' nw ⟨n, ws, wn, rfl, _⟩; rfl) ?_
  walk1
  refine ⟨Dp, zs.toArray, m, _, rfl, lst_at N (.tail _ (.head _)), ?ne, F, N, ⟨n, ws, wn, rfl, hiw, by omega, hw64, fun _ _ => rfl⟩, ?step, ?done⟩
  case ne => first | exact (N _ (.tail _ (.head _))).2.1 | exact Ne.symm (N _ (.tail _ (.head _))).2.1
  case done =>
    rintro h' tk m' nw F' N' ⟨n, ws, wn, rfl, a, b, c, d⟩
    exact k n ws wn h' tk m' a (by simp at b; omega) c d F' N'
  case step =>
    rintro i v m₁ nw h tk own hv ⟨n, ws, wn, rfl, a, b, c, d⟩ hown F₁ N₁
    obtain ⟨x, t, rfl, hx⟩ := hiz.at i v (by simpa using hv)
    have hx0 := hpos x (List.mem_of_getElem? hx)
    have hin : i < zs.length := by
      have := (List.getElem?_eq_some_iff.mp hx).1
      rw [hiz.length]; exact this
    have hwd1 : m₁ (Str.ofString "widths") = some (.ref D) := (d _ (by decide)).trans hwd
    have m7 : 0 ≤ x.fmod 7 ∧ x.fmod 7 < 7 := by rw [Int.fmod_eq_emod_of_nonneg _ (by decide)]; omega
    have hoD : ∀ q ∈ own, q.1 ≠ D := fun q hq => by
      rcases hown q hq with e | e
      · rw [e]; exact hDn _ (.head _)
      · exact fun e2 => e (e2 ▸ .head _)
    have wl := a.length
    rw [List.length_map, b] at wl
    refine wpT_any ?_
    repeat (first | walk1 | (dsimp only; walk1))
    · have hval : (2 : Int) ^ (x.fmod 7).toNat = ((2 ^ (x.fmod 7).toNat : Nat) : Int) := by rw [Int.natCast_pow]; rfl
      rw [hval]
      have N₃ : News h₀ L h ((D, W.listOf ws.toArray n) :: (own ++ (Dp, LCg.lst zs) :: news)) := fun q hq => N₁ q (by
        rcases List.mem_cons.mp hq with rfl | hq
        · exact List.mem_append_right _ (.head _)
        · rcases List.mem_append.mp hq with hq | hq
          · exact List.mem_append_left _ hq
          · exact List.mem_append_right _ (.tail _ hq))
      refine append_K (h₀ := h₀) F₁ N₃ (.head fun q hq => ?u) (fun h2 F₂ N₂ => ?_) (by rw [sizeLine_eq, List.size_toArray]; omega)
      case u =>
        rcases List.mem_append.mp hq with hq | hq
        · exact hoD q hq
        · exact hDn q hq
      iterate 2 (first | walk1 | (dsimp only; walk1))
      refine' ⟨rfl, _, _, _, _, rfl, F₂, news_back N₂, n + 1, ws ++ [?v9], wn ++ [2 ^ (x.fmod 7).toNat], ?e9, ?i9, by simp [b], ?l9, fun y hy => (if_neg hy).trans (d y hy)⟩
      case e9 => rw [List.push_toArray]
      case i9 =>
        rw [List.map_append]
        exact ints_app a (.cons _ _ .nil)
      case l9 =>
        intro c' hc'
        rcases List.mem_append.mp hc' with hc' | hc'
        · exact c c' hc'
        · rw [List.mem_singleton.mp hc']
          exact Nat.lt_of_le_of_lt (Nat.pow_le_pow_right (by decide) (show (x.fmod 7).toNat ≤ 5 by omega)) (by decide)
    · have m40 : 0 ≤ (x.fdiv 7).fmod 40 ∧ (x.fdiv 7).fmod 40 < 40 := by rw [Int.fmod_eq_emod_of_nonneg _ (by decide)]; omega
      repeat (first | walk1 | (dsimp only; walk1))
      have hval : (x.fdiv 7).fmod 40 = ((((x.fdiv 7).fmod 40).toNat : Nat) : Int) := by omega
      rw [hval]
      have N₃ : News h₀ L h ((D, W.listOf ws.toArray n) :: (own ++ (Dp, LCg.lst zs) :: news)) := fun q hq => N₁ q (by
        rcases List.mem_cons.mp hq with rfl | hq
        · exact List.mem_append_right _ (.head _)
        · rcases List.mem_append.mp hq with hq | hq
          · exact List.mem_append_left _ hq
          · exact List.mem_append_right _ (.tail _ hq))
      refine append_K (h₀ := h₀) F₁ N₃ (.head fun q hq => ?u) (fun h2 F₂ N₂ => ?_) (by rw [sizeLine_eq, List.size_toArray]; omega)
      case u =>
        rcases List.mem_append.mp hq with hq | hq
        · exact hoD q hq
        · exact hDn q hq
      iterate 2 (first | walk1 | (dsimp only; walk1))
      refine' ⟨rfl, _, _, _, _, rfl, F₂, news_back N₂, n + 1, ws ++ [?w9], wn ++ [((x.fdiv 7).fmod 40).toNat], ?e9, ?i9, by simp [b], ?l9, fun y hy => (if_neg hy).trans (d y hy)⟩
      case e9 => rw [List.push_toArray]
      case i9 =>
        rw [List.map_append]
        exact ints_app a (.cons _ _ .nil)
      case l9 =>
        intro c' hc'
        rcases List.mem_append.mp hc' with hc' | hc'
        · exact c c' hc'
        · rw [List.mem_singleton.mp hc']
          omega
end
end Mine
end
section
theorem Mine.fresh_H1A : True := by
  w_top off
  trivial
open PySem PySem.W PyProof.Rows PySem.Spec PySem.Calls
set_option Elab.async false
set_option maxRecDepth 100000
set_option maxHeartbeats 8000000
namespace Mine
section
variable {w : World} {s : Shared} {h₀ : Heap} {L : Addr} {m : Str → Option Value} {news : List (Addr × Obj)} {p : Program} {loose : List Str} {mean : ExcName → Option Value} {mg mb : Str → Option Value}
  {name qual : Str} {params : Arguments} {body : List Stmt} {scope : Scope} {dV kV doc pm cdv ct oc : Value} {an od : Option Addr} {osl : Array (Option Value)}
local macro_rules | `(tactic| walk_at "eval Name") => `(tactic| (k_here; (with_reducible show wpAny _ _ (eval (Expr.Name _ _) (envOfC _ _ _ _ _)) _ _ _); name_kind "local"; k_dflt (refine' nameX_L ?k1 ?k2 ?_; (case k1 => k_asm); (case k2 => first | exact rfl | (repeat (first | assumption | exact if_pos rfl | refine (if_neg (by decide)).trans ?_))); k_whole)))
local macro_rules | `(tactic| walk_at "eval ListComp") => `(tactic| (k_here; k_dflt (refine ListComp_X (_F₀ := by k_asm) (by with_unfolding_all rfl) (by decide) (by rfl) (by decide) (by rfl) ?_)))
local macro_rules | `(tactic| walk_at "pyIter") => `(tactic| fail "stop here")
theorem b0 {lb : List Stmt} {tg it : Expr} {st : Stmt} {pp : Pos} {b : Array UInt8} {t u : Tok} {wd : Nat} {Q : Flow → Shared → Prop} {E : Value → Shared → Prop}
    (KX : (hd01.heap_39 w.params).In h₀) (T : Top p loose mean mg mb h₀)
    (hl : (hd01.heap_39 w.params).lookup 63 = some ⟨oc, od, .func (fnOf name qual params body scope dV kV doc pm an cdv ct), osl⟩) (hb : body[11]? = some (.For tg it lb [] pp)) (hs : lb[0]? = some st)
    (F : Fr h₀ L s.heap m) (N : News h₀ L s.heap news) (h0 : m (Str.ofString "octets") = some (.bytes b t)) (h1 : m (Str.ofString "width") = some (.int (wd : Int) u)) (hz : b.size = 32) (hw : wd < 64)
    (k : ∀ v h' tk, 1 ≤ tk → ((wd = 0 ∧ ∃ t', v = .str (Str.ofString "ValueError") t') ∨ (wd ≠ 0 ∧ 32 % wd ≠ 0 ∧ ∃ t', v = .str (Str.ofString "IndexError") t') ∨ (wd ≠ 0 ∧ 32 % wd = 0 ∧ ∃ t', v = .bytes (swapB b wd) t')) → Fr h₀ L h' (fun z => if z = Str.ofString "turned" then some v else m z) → News h₀ L h' news → Q .next { s with heap := h', toks := tk }) :
    wpT (model PySem.Challenge.rw_kt0002_01.row.prog w) (callerA.deeper (envOfC (Str.ofString "law") scope L 63 cdv)) (exec st (envOfC (Str.ofString "law") scope L 63 cdv)) Q E s := by
  revert KX; k_fill; intro KX
  have e := hl.symm.trans (by k_is)
  cases e
  cases hb
  cases hs
  refine AssignT ?_
  refine CallT (a := 53) 2 rfl (Nat.le_of_ble_eq_true rfl) ?_
  walk1
  refine ⟨rfl, splicedT_cons (wpT_any ?_)⟩
  walk1
  refine splicedT_cons (wpT_any ?_)
  walk1
  refine splicedT_nil ⟨⟨_, _, (KX.keeps F.keep) _ _ (by k_is), rfl⟩, ?_⟩
  refine' turned01 (below_caller h₀) F KX N T ?hA ?hf ?hke hz hw ?hr ?hg rfl ?_
  case hA => exact rfl
  case hf => exact rfl
  case hke => exact rfl
  case hr => show (callerA.depth + 1 + 1 : Nat) < recursionLimit; decide
  case hg => exact rfl
  intro v h' tk hv F₂ N₂
  refine storeX_L F₂ N₂ (fun h₃ F₃ N₃ => ?_)
  exact k v _ _ (Nat.le_add_left 1 _) hv F₃ N₃
theorem bytes_same {x y : Array UInt8} (h : x.toList.map UInt8.toNat = y.toList.map UInt8.toNat) : x = y := by
  have : x.toList = y.toList := (List.map_inj_right (fun a b e => UInt8.toNat_inj.mp e)).mp h
  exact Array.toList_inj.mp this
theorem strs_of_bytes : ∀ {l : List UInt8} {ys : List Value}, ys.length = l.length → (∀ (i : Nat) (v : Value), ys[i]? = some v → ∃ (c : UInt8) (t : Tok), l[i]? = some c ∧ v = Value.str { cps := #[c.toNat] } t) →
    StrsAre ys (l.map fun c => (⟨#[c.toNat]⟩ : Str))
  | [], [], _, _ => .nil
  | c :: l, v :: ys, hl, h => by
    obtain ⟨d, t, hd, rfl⟩ := h 0 v rfl
    obtain rfl : c = d := by simpa using hd
    exact .cons _ _ (strs_of_bytes (by simpa using hl) fun i v e => h (i + 1) v e)
theorem one_lens : ∀ l : List UInt8, ((l.map fun c => (⟨#[c.toNat]⟩ : Str)).map (·.length)).sum = l.length
  | [] => rfl
  | c :: l => by
    rw [List.map_cons, List.map_cons, List.sum_cons, one_lens l, List.length_cons, Nat.add_comm]; rfl
theorem one_join (l : List UInt8) : (Txt.join (Str.ofString "") (l.map fun c => (⟨#[c.toNat]⟩ : Str))).cps.toList = l.map UInt8.toNat := by
  rw [join_list_eq, List.map_map]
  induction l with
  | nil => rfl
  | cons c l ih => rw [List.map_cons, List.flatten_cons, ih]; rfl
theorem turned_len (ks : List Nat) (m : Nat) : (turnedL ks m).length = 32 := by simp [turnedL]
theorem turned_at (ks : List Nat) {m i : Nat} (hi : i < 32) : (turnedL ks m).getD i 0 = (ks.flatMap blk).getD (i ^^^ m) 0 := by
  rw [List.getD_eq_getElem?_getD, List.getElem?_eq_getElem (by rw [turned_len]; exact hi)]
  simp [turnedL]
theorem turned_range (ks : List Nat) (m : Nat) : (List.range 32).map (fun i => (turnedL ks m).getD i 0) = turnedL ks m := by
  refine List.map_congr_left fun i hi => turned_at ks (List.mem_range.mp hi)
theorem turned_low {ks : List Nat} (h : ∀ c ∈ ks, c < 8) (m : Nat) : ∀ d ∈ turnedL ks m, d < 128 := fun d hd => by
  obtain ⟨i, _, rfl⟩ := List.mem_map.mp hd
  rw [List.getD_eq_getElem?_getD]
  cases e : (ks.flatMap blk)[i ^^^ m]? with
  | none => decide
  | some c => exact blk_low h c (List.mem_of_getElem? e)
theorem item_one {x : Str} {j : Nat} (hj : j < x.length) : Txt.item x (j : Int) = ⟨#[x.cps.toList.getD j 0]⟩ := by
  rw [item_meets ⟨by omega, by omega⟩, Int.toNat_natCast]
  congr 2
  simp [Array.getD_eq_getD_getElem?, List.getD_eq_getElem?_getD]
end
end Mine
end
section
theorem Mine.fresh_H1B : True := by
  w_top off
  trivial
open PySem PySem.W PyProof.Rows PySem.Spec PySem.Calls
set_option Elab.async false
set_option maxRecDepth 100000
set_option maxHeartbeats 8000000
namespace Mine
section
variable {w : World} {s : Shared} {h₀ : Heap} {L : Addr} {m : Str → Option Value} {news : List (Addr × Obj)} {p : Program} {loose : List Str} {mean : ExcName → Option Value} {mg mb : Str → Option Value}
  {name qual : Str} {params : Arguments} {body : List Stmt} {scope : Scope} {dV kV doc pm cdv ct oc : Value} {an od : Option Addr} {osl : Array (Option Value)}
local macro_rules | `(tactic| walk_at "eval Name") => `(tactic| (k_here; (with_reducible show wpAny _ _ (eval (Expr.Name _ _) (envOfC _ _ _ _ _)) _ _ _); name_kind "local"; k_dflt (refine' nameX_L ?k1 ?k2 ?_; (case k1 => k_asm); (case k2 => first | exact rfl | (repeat (first | assumption | exact if_pos rfl | refine (if_neg (by decide)).trans ?_))); k_whole)))
local macro_rules | `(tactic| walk_at "eval ListComp") => `(tactic| (k_here; k_dflt (refine ListComp_X (_F₀ := by k_asm) (by with_unfolding_all rfl) (by decide) (by rfl) (by decide) (by rfl) ?_)))
local macro_rules | `(tactic| walk_at "pyIter") => `(tactic| fail "stop here")
local macro_rules | `(tactic| walk_at "execs cons") => `(tactic| (k_here; (with_reducible refine execs_tok 1 (by first | assumption | (dsimp only; omega)) ?_); (try dsimp only)))
local macro_rules | `(tactic| walk_at "forall") => `(tactic| (intro ht'; (with_reducible change 1 ≤ _ at ht'); (try dsimp only at ht')))
/-- a width that is refused -/
theorem b1 {lb : List Stmt} {tg it : Expr} {st : Stmt} {pp : Pos} {v : Value} {u : Tok} {wd : Nat} {Q : Flow → Shared → Prop} {E : Value → Shared → Prop}
    (KX : (hd01.heap_39 w.params).In h₀) (T : Top p loose mean mg mb h₀)
    (hl : (hd01.heap_39 w.params).lookup 63 = some ⟨oc, od, .func (fnOf name qual params body scope dV kV doc pm an cdv ct), osl⟩) (hb : body[11]? = some (.For tg it lb [] pp)) (hs : lb[1]? = some st)
    (F : Fr h₀ L s.heap m) (N : News h₀ L s.heap news) (h0 : m (Str.ofString "turned") = some v) (h1 : m (Str.ofString "width") = some (.int (wd : Int) u)) (hw : wd < 64) (ht : 1 ≤ s.toks)
    (hv : ((wd = 0 ∧ ∃ t', v = .str (Str.ofString "ValueError") t') ∨ (wd ≠ 0 ∧ 32 % wd ≠ 0 ∧ ∃ t', v = .str (Str.ofString "IndexError") t')))
    (k : ∀ h' tk, Fr h₀ L h' m → News h₀ L h' news → Q .next { s with heap := h', toks := tk }) :
    wpAny (model PySem.Challenge.rw_kt0002_01.row.prog w) (callerA.deeper (envOfC (Str.ofString "law") scope L 63 cdv)) (exec st (envOfC (Str.ofString "law") scope L 63 cdv)) Q E s := by
  revert KX; k_fill; intro KX
  have e := hl.symm.trans (by k_is)
  cases e
  cases hb
  cases hs
  rcases hv with ⟨rfl, t', rfl⟩ | ⟨hw0, h32, t', rfl⟩
  · repeat (first | walk1 | (dsimp only; walk1))
    exact k _ _ (by k_asm) (by k_asm)
  · have e32 : (32 : Int).fmod (wd : Int) = ((32 % wd : Nat) : Int) := by rw [Int.fmod_eq_emod_of_nonneg _ (by omega)]; rfl
    have n32 : (32 : Int).fmod (wd : Int) ≠ 0 := by rw [e32]; omega
    have nw : (wd : Int) ≠ 0 := by omega
    repeat (first | walk1 | (dsimp only; walk1))
    · exfalso; omega
    · repeat (first | walk1 | (dsimp only; walk1))
      · exact k _ _ (by k_asm) (by k_asm)
      · exfalso; omega
end
end Mine
end
section
theorem Mine.fresh_H1C : True := by
  w_top off
  trivial
open PySem PySem.W PyProof.Rows PySem.Spec PySem.Calls
set_option Elab.async false
set_option maxRecDepth 100000
set_option maxHeartbeats 8000000
namespace Mine
section
variable {w : World} {s : Shared} {h₀ : Heap} {L : Addr} {m : Str → Option Value} {news : List (Addr × Obj)} {p : Program} {loose : List Str} {mean : ExcName → Option Value} {mg mb : Str → Option Value}
  {name qual : Str} {params : Arguments} {body : List Stmt} {scope : Scope} {dV kV doc pm cdv ct oc : Value} {an od : Option Addr} {osl : Array (Option Value)}
local macro_rules | `(tactic| walk_at "eval Name") => `(tactic| (k_here; (with_reducible show wpAny _ _ (eval (Expr.Name _ _) (envOfC _ _ _ _ _)) _ _ _); name_kind "local"; k_dflt (refine' nameX_L ?k1 ?k2 ?_; (case k1 => k_asm); (case k2 => first | exact rfl | (repeat (first | assumption | exact if_pos rfl | refine (if_neg (by decide)).trans ?_))); k_whole)))
local macro_rules | `(tactic| walk_at "eval ListComp") => `(tactic| (k_here; k_dflt (refine ListComp_X (_F₀ := by k_asm) (by with_unfolding_all rfl) (by decide) (by rfl) (by decide) (by rfl) ?_)))
local macro_rules | `(tactic| walk_at "pyIter") => `(tactic| fail "stop here")
local macro_rules | `(tactic| walk_at "execs cons") => `(tactic| (k_here; (with_reducible refine execs_tok 1 (by first | assumption | (dsimp only; omega)) ?_); (try dsimp only)))
local macro_rules | `(tactic| walk_at "forall") => `(tactic| (intro ht'; (with_reducible change 1 ≤ _ at ht'); (try dsimp only at ht')))
local macro_rules | `(tactic| walk_at "eval Call Attribute") => `(tactic| (k_here; (with_reducible show wpAny _ _ (eval (Expr.Call (Expr.Attribute (Expr.Constant _ _ _) _ _) _ _ _) _) _ _ _); refine wpAny_toks 1 (by first | assumption | (dsimp only; omega)) (MethodCall_ ?_)))
theorem news_dup {h₀ h : Heap} {L : Addr} {x : Addr × Obj} {l : List (Addr × Obj)} (N : News h₀ L h l) (hx : x ∈ l) : News h₀ L h (x :: l) := fun q hq => by
  rcases List.mem_cons.mp hq with rfl | hq
  · exact N _ hx
  · exact N _ hq
/-- a width that is taken -/
theorem b2 {lb : List Stmt} {tg it : Expr} {st : Stmt} {pp : Pos} {b : Array UInt8} {t1 u : Tok} {wd mk n : Nat} {oM oW : Obj} {wr : Str} {tw tm : Tok} {D Db : Addr} {zs : List Value} {ks : List Nat} {Q : Flow → Shared → Prop} {E : Value → Shared → Prop}
    (KX : (hd01.heap_39 w.params).In h₀) (T : Top p loose mean mg mb h₀)
    (hl : (hd01.heap_39 w.params).lookup 63 = some ⟨oc, od, .func (fnOf name qual params body scope dV kV doc pm an cdv ct), osl⟩) (hb : body[11]? = some (.For tg it lb [] pp)) (hs : lb[1]? = some st)
    (F : Fr h₀ L s.heap m) (N : News h₀ L s.heap ((L + 1 + 1 + 1, oM) :: (L + 1 + 1, oW) :: (D, LCg.lst zs) :: (Db, xd w ((tabB n).map Rp.ent) 6) :: news)) (hapart : ∀ q ∈ (D, LCg.lst zs) :: (Db, xd w ((tabB n).map Rp.ent) 6) :: news, q.1 ≠ L + 1 + 1 + 1)
    (h0 : m (Str.ofString "turned") = some (.bytes (swapB b wd) t1)) (h1 : m (Str.ofString "width") = some (.int (wd : Int) u)) (hw : wd < 64) (ht : 1 ≤ s.toks) (hw0 : wd ≠ 0) (h32 : 32 % wd = 0)
    (hoM : oM.data = .cell (some (.int (mk : Int) tm))) (hoW : oW.data = .cell (some (.str wr tw))) (hkn : m (Str.ofString "kinds") = some (.ref D)) (hbk : m (Str.ofString "back") = some (.ref Db)) (hsys : (Db == sysModules) = false) (hn : 1 ≤ n)
    (hi : IntsAre zs (ks.map fun c : Nat => (c : Int))) (h8 : ks.length = 8) (hk8 : ∀ c ∈ ks, c < 8) (hwr : wr.cps.toList = ks.flatMap blk) (hm : mk < 32) (hbt : b.toList.map UInt8.toNat = turnedL ks mk)
    (k : ∀ (o' : Obj) (t' t2 : Tok) (h' : Heap) (tk : Nat), o'.data = .cell (some (.int ((mk ^^^ (wd - 1) : Nat) : Int) t')) → Fr h₀ L h' (fun z => if z = Str.ofString "octets" then some (.bytes (swapB b wd) t2) else m z) → News h₀ L h' ((L + 1 + 1 + 1, o') :: (L + 1 + 1, oW) :: (D, LCg.lst zs) :: (Db, xd w ((tabB n).map Rp.ent) 6) :: news) → Q .next { s with heap := h', toks := tk }) :
    wpAny (model PySem.Challenge.rw_kt0002_01.row.prog w) (callerA.deeper (envOfC (Str.ofString "law") scope L 63 cdv)) (exec st (envOfC (Str.ofString "law") scope L 63 cdv)) Q E s := by
  revert KX; k_fill; intro KX
  have e := hl.symm.trans (by k_is)
  cases e
  cases hb
  cases hs
  have e32 : (32 : Int).fmod (wd : Int) = 0 := by
    have : (32 : Int).fmod (wd : Int) = ((32 % wd : Nat) : Int) := by rw [Int.fmod_eq_emod_of_nonneg _ (by omega)]; rfl
    rw [this, h32]; rfl
  have nw : (wd : Int) ≠ 0 := by omega
  repeat (first | walk1 | (dsimp only; walk1))
  · exfalso; omega
  · repeat (first | walk1 | (dsimp only; walk1))
    · exfalso; omega
    · repeat (first | walk1 | (dsimp only; walk1))
      have hwl := width_low wd hw hw0 h32
      have hx : Builtin.bitXor (mk : Int) ((wd : Int) - 1) = ((mk ^^^ (wd - 1) : Nat) : Int) := by
        rw [show ((wd : Int) - 1) = ((wd - 1 : Nat) : Int) by omega]
        exact bitXor32 mk hm (wd - 1) hwl
      rw [hx]
      have hm2 := xor_low hm hwl
      have hsw := swap_turned hbt hw hw0 h32
      generalize hmm : mk ^^^ (wd - 1) = m2 at *
      rename Fr _ _ _ _ => F₅
      rename News _ _ _ _ => N₅
      refine storeX_C (c := L + 1 + 1 + 1) F₅ N₅ rfl (.head fun q hq => ?u1) hoM (fun h₂ o' F₂ N₂ d₂ => ?_)
      case u1 =>
        rcases List.mem_cons.mp hq with rfl | hq
        · show @Ne Nat (L + 1 + 1) (L + 1 + 1 + 1); omega
        · exact hapart q hq
      clear F₅ N₅
      repeat (first | walk1 | (dsimp only; walk1))
      rename IsRange _ _ _ _ _ _ _ _ => hr
      refine' go_range (n := 32) (R := fun i y => ∃ t, y = .int (((turnedL ks m2).getD i 0 : Nat) : Int) t) rfl ?F ?N hr ?small ?rs ?sz ?step ?fin
      case F => k_asm
      case N => k_asm
      case small => exact small_one (by decide) (by decide) (by omega) (by omega)
      case rs => rw [rangeSize_nat]; rfl
      case sz => rw [sizeLine_eq]; omega
      case step =>
        intro i v I oI C oC Dc ys m₂ h tk E' hi32 hP hoC hv F N off hne
        obtain ⟨t, rfl⟩ := hP
        have hx3 : Builtin.bitXor (0 + (i : Int)) (m2 : Int) = ((i ^^^ m2 : Nat) : Int) := by
          rw [show (0 + (i : Int)) = (i : Int) by omega]
          exact bitXor32 i hi32 m2 hm2
        have hlt3 : i ^^^ m2 < 32 := xor_low hi32 hm2
        have hwrl : wr.length = 32 := by
          have := congrArg List.length hwr
          rw [flat_blk_len, h8] at this
          simpa [Str.length] using this
        dsimp only
        repeat (first | walk1 | (dsimp only; walk1))
        · k_asm
        · refine ⟨by k_asm, ⟨_, congrArg (fun z => Value.int z _) ?_⟩⟩
          rw [hx3, item_one (by omega), turned_at ks hi32, ← hwr]
          rfl
      case fin =>
        intro g5 ys hyl hys
        have hip := ints_of_map (fun i => (turnedL ks m2).getD i 0) hyl hys
        rw [turned_range] at hip
        have htl := turned_low hk8 m2
        unfold LCg.FinE
        intro D3 h3 tk3 F3 N3 o3
        repeat (first | walk1 | (dsimp only; walk1))
        refine' bytes_K F3 N3 (lst_at N3 (List.mem_cons_self ..)) hip ?hr ?hz rfl ?_
        case hr =>
          intro n hn
          obtain ⟨c, hc, rfl⟩ := List.mem_map.mp hn
          have := htl c hc
          omega
        case hz => rw [sizeLine_eq]; omega
        intro h4 t4 k4 F4 N4 hB
        have hbb : (((turnedL ks m2).map fun c : Nat => (c : Int)).map fun n => n.toNat.toUInt8).toArray = swapB b wd := bytes_same (by rw [low_bytes htl, hsw])
        rw [hbb]
        have hs32 : (swapB b wd).size = 32 := by
          have e1 := congrArg List.length hsw
          rw [List.length_map, turned_len] at e1
          simpa using e1
        clear hbb hip hB hys F3 N3
        generalize swapB b wd = bb at *
        repeat (first | walk1 | (dsimp only; walk1))
        · exfalso
          rename ((_ : List UInt8) != _) = true => hc
          exact absurd hc (by simp)
        · repeat (first | walk1 | (dsimp only; walk1))
          refine' go_bytes (R := fun i y => ∃ (c : UInt8) (t : Tok), bb.toList[i]? = some c ∧ y = Value.str { cps := #[c.toNat] } t) rfl ?F ?N ?sz ?step ?fin
          case F => k_asm
          case N => k_asm
          case sz => rw [sizeLine_eq]; omega
          case step =>
            intro i v I oI C oC D ys m₂ h tk E' hi hP hoC hv F N off hne
            obtain ⟨c, t2, hc, rfl⟩ := hP
            dsimp only
            have hc8 : (c.toNat : Int) < 256 := by have := c.toNat_lt; omega
            have hc0 : (0 : Int) ≤ (c.toNat : Int) := by omega
            repeat (first | walk1 | (dsimp only; walk1))
            · k_asm
            · refine ⟨by k_asm, c, _, ?_, by rw [Int.toNat_natCast]⟩
              rw [← hc]; simp
          case fin =>
            intro g6 ys6 hyl6 hys6
            have hss := strs_of_bytes (by simpa using hyl6) hys6
            unfold LCg.FinE
            intro D6 h6 tk6 F6 N6 o6
            repeat (first | walk1 | (dsimp only; walk1))
            refine' join_listW (lst_at N6 (List.mem_cons_self ..)) (by simpa using hss) (by decide) ?wt ?_
            case wt => rw [one_lens]; simp; omega
            intro t7 k7
            dsimp only
            intro ht7
            have hj := one_join bb.toList
            rw [hsw] at hj
            generalize Txt.join (Str.ofString "") (bb.toList.map fun c => (⟨#[c.toNat]⟩ : Str)) = x at *
            have hxl : x.length = 32 := by
              have e1 := congrArg List.length hj
              rw [turned_len] at e1
              simpa [Str.length] using e1
            repeat (first | walk1 | (dsimp only; walk1))
            rename Fr _ _ _ _ => F₇
            rename News _ _ _ _ => N₇
            refine' unescape01 (l := tabB n) (n := 6) (below_caller h₀) F₇ KX N₇ T ?hA ?hf ?hke ?hr rfl ?hd hsys (nodupB n) ?hne ?hlz ?hx ?hx2 ?ht (okB (by omega) hn) ?_
            case hA => exact rfl
            case hf => exact rfl
            case hke => exact rfl
            case hr => show (callerA.depth + 1 + 1 : Nat) < recursionLimit; decide
            case hd => simp
            case hne => simp [tabB]
            case hlz => show (6 : Nat) ≤ 100; decide
            case hx => omega
            case hx2 => exact lenB (by omega)
            case ht => assumption
            intro t8 h8' tk8 F₈ N₈
            have hun := rdB x n
            rw [hj, turned_reads h8 hk8 hm2] at hun
            generalize ampT ((tabB n).foldl Rp.rep (unT x)) = y at *
            clear F₇ N₇
            repeat (first | walk1 | (dsimp only; walk1))
            rename Fr _ _ _ _ => F₉
            rename News _ _ _ _ => N₉
            refine' reading01 (mk := m2) (ks := ks) (zs := zs) (news := _) (below_caller h₀) F₉ KX (news_dup (x := (D, LCg.lst zs)) N₉ (by simp)) T ?hA ?hf ?hke ?hr rfl hi h8 hk8 hm2 ?_
            case hA => exact rfl
            case hf => exact rfl
            case hke => exact rfl
            case hr => show (callerA.depth + 1 : Nat) < recursionLimit; decide
            intro xr tr hr' tkr hxr F₁₀ N₁₀
            obtain rfl : xr = y := str_ext (hxr.trans hun.symm)
            clear F₉ N₉
            repeat (first | walk1 | (dsimp only; walk1))
            · exfalso
              rename ((_ : Str) != _) = true => hc
              exact absurd hc (by simp)
            · repeat (first | walk1 | (dsimp only; walk1))
              rename News _ _ _ _ => N₁₁
              exact k o' _ _ _ _ d₂ (by k_asm) (fun q hq => N₁₁ q (.tail _ (.tail _ (.tail _ hq))))
end
end Mine
end
section
theorem Mine.fresh_H1D : True := by
  w_top off
  trivial
open PySem PySem.W PyProof.Rows PySem.Spec PySem.Calls
set_option Elab.async false
set_option maxRecDepth 100000
set_option maxHeartbeats 8000000
namespace Mine
section
variable {w : World} {s : Shared} {h₀ : Heap} {L : Addr} {m : Str → Option Value} {news : List (Addr × Obj)} {p : Program} {loose : List Str} {mean : ExcName → Option Value} {mg mb : Str → Option Value}
  {name qual : Str} {params : Arguments} {body : List Stmt} {scope : Scope} {dV kV doc pm cdv ct oc : Value} {an od : Option Addr} {osl : Array (Option Value)}
local macro_rules | `(tactic| walk_at "eval Name") => `(tactic| (k_here; (with_reducible show wpAny _ _ (eval (Expr.Name _ _) (envOfC _ _ _ _ _)) _ _ _); name_kind "local"; k_dflt (refine' nameX_L ?k1 ?k2 ?_; (case k1 => k_asm); (case k2 => first | exact rfl | (repeat (first | assumption | exact if_pos rfl | refine (if_neg (by decide)).trans ?_))); k_whole)))
local macro_rules | `(tactic| walk_at "eval ListComp") => `(tactic| (k_here; k_dflt (refine ListComp_X (_F₀ := by k_asm) (by with_unfolding_all rfl) (by decide) (by rfl) (by decide) (by rfl) ?_)))
local macro_rules | `(tactic| walk_at "pyIter") => `(tactic| fail "stop here")
theorem c11 {st : Stmt} {oM oW : Obj} {wr : Str} {tw tm : Tok} {D Db Dw : Addr} {zs ws : List Value} {ks wn : List Nat} {n nn : Nat} {b : Array UInt8} {t1 : Tok} {Q : Flow → Shared → Prop} {E : Value → Shared → Prop}
    (KX : (hd01.heap_39 w.params).In h₀) (T : Top p loose mean mg mb h₀)
    (hl : (hd01.heap_39 w.params).lookup 63 = some ⟨oc, od, .func (fnOf name qual params body scope dV kV doc pm an cdv ct), osl⟩) (hb : body[11]? = some st)
    (F : Fr h₀ L s.heap m) (N : News h₀ L s.heap ((L + 1 + 1 + 1, oM) :: (L + 1 + 1, oW) :: (D, LCg.lst zs) :: (Db, xd w ((tabB n).map Rp.ent) 6) :: news)) (hap : ∀ q ∈ (D, LCg.lst zs) :: (Db, xd w ((tabB n).map Rp.ent) 6) :: news, q.1 ≠ L + 1 + 1 + 1)
    (hDw : (Dw, W.listOf ws.toArray nn) ∈ news)
    (hoM : oM.data = .cell (some (.int 0 tm))) (hoW : oW.data = .cell (some (.str wr tw))) (hkn : m (Str.ofString "kinds") = some (.ref D)) (hbk : m (Str.ofString "back") = some (.ref Db)) (hwi : m (Str.ofString "widths") = some (.ref Dw)) (hoc : m (Str.ofString "octets") = some (.bytes b t1)) (hsys : (Db == sysModules) = false) (hn : 1 ≤ n)
    (hi : IntsAre zs (ks.map fun c : Nat => (c : Int))) (h8 : ks.length = 8) (hk8 : ∀ c ∈ ks, c < 8) (hwr : wr.cps.toList = ks.flatMap blk) (hbt : b.toList.map UInt8.toNat = turnedL ks 0)
    (hiw : IntsAre ws (wn.map fun c : Nat => (c : Int))) (hwn : ∀ c ∈ wn, c < 64)
    (k : ∀ (h' : Heap) (tk : Nat) (m' : Str → Option Value), Fr h₀ L h' m' → Q .next { s with heap := h', toks := tk }) :
    wpT (model PySem.Challenge.rw_kt0002_01.row.prog w) (callerA.deeper (envOfC (Str.ofString "law") scope L 63 cdv)) (exec st (envOfC (Str.ofString "law") scope L 63 cdv)) Q E s := by
  revert KX; k_fill; intro KX
  have e := hl.symm.trans (by k_is)
  cases e
  cases hb
  refine For_listJ (h₀ := h₀) rfl rfl rfl (fun i m' nw => ∃ (o' : Obj) (mk : Nat) (tm : Tok) (b : Array UInt8) (t1 : Tok), nw = (L + 1 + 1 + 1, o') :: (L + 1 + 1, oW) :: (D, LCg.lst zs) :: (Db, xd w ((tabB n).map Rp.ent) 6) :: news ∧ o'.data = .cell (some (.int (mk : Int) tm)) ∧ mk < 32 ∧ b.toList.map UInt8.toNat = turnedL ks mk ∧
      m' (Str.ofString "octets") = some (.bytes b t1) ∧ m' (Str.ofString "kinds") = some (.ref D) ∧ m' (Str.ofString "back") = some (.ref Db))
    ((L + 1 + 1 + 1) :: (L + 1 + 1) :: D :: Db :: news.map (·.1)) (by rintro i m' nw ⟨o', mk, tm, b, t1, rfl, _⟩; rfl) ?_
  walk1
  have hDw' : (Dw, W.listOf ws.toArray nn) ∈ ((L + 1 + 1 + 1, oM) :: (L + 1 + 1, oW) :: (D, LCg.lst zs) :: (Db, xd w ((tabB n).map Rp.ent) 6) :: news) := .tail _ (.tail _ (.tail _ (.tail _ hDw)))
  refine ⟨Dw, ws.toArray, m, _, rfl, ⟨_, (N _ hDw').1, rfl, _, rfl⟩, ?ne, F, N, ⟨oM, 0, tm, b, t1, rfl, hoM, by decide, hbt, hoc, hkn, hbk⟩, ?step, ?done⟩
  case ne => first | exact (N _ hDw').2.1 | exact Ne.symm (N _ hDw').2.1
  case done =>
    intro h' tk m' nw F' _ _
    exact k h' tk m' F'
  case step =>
    rintro i v m₁ nw h tk own hv ⟨o', mk, tm', b', t1', rfl, d1, d2, d3, e1, e2, e3⟩ hown F₁ N₁
    obtain ⟨wd, u, hwd, rfl⟩ := int_nat_at hiw (by simpa using hv)
    have hw := hwn wd (List.mem_of_getElem? hwd)
    have hb32 : b'.size = 32 := by
      have := congrArg List.length d3
      rw [List.length_map, turned_len] at this
      simpa using this
    have N₂ : News h₀ L h ((L + 1 + 1 + 1, o') :: (L + 1 + 1, oW) :: (D, LCg.lst zs) :: (Db, xd w ((tabB n).map Rp.ent) 6) :: (news ++ own)) := fun q hq => N₁ q (by
      rcases List.mem_append.mp (show q ∈ ((L + 1 + 1 + 1, o') :: (L + 1 + 1, oW) :: (D, LCg.lst zs) :: (Db, xd w ((tabB n).map Rp.ent) 6) :: news) ++ own from hq) with hq | hq
      · exact List.mem_append_right _ hq
      · exact List.mem_append_left _ hq)
    have hap2 : ∀ q ∈ (D, LCg.lst zs) :: (Db, xd w ((tabB n).map Rp.ent) 6) :: (news ++ own), q.1 ≠ L + 1 + 1 + 1 := fun q hq => by
      rcases List.mem_append.mp (show q ∈ ((D, LCg.lst zs) :: (Db, xd w ((tabB n).map Rp.ent) 6) :: news) ++ own from hq) with hq | hq
      · exact hap q hq
      · rcases hown q hq with e | e
        · rw [e]; exact hap _ (.tail _ (.tail _ hDw))
        · exact fun e2 => e (e2 ▸ .head _)
    have back : ∀ {h' : Heap} {o₂ : Obj}, News h₀ L h' ((L + 1 + 1 + 1, o₂) :: (L + 1 + 1, oW) :: (D, LCg.lst zs) :: (Db, xd w ((tabB n).map Rp.ent) 6) :: (news ++ own)) → News h₀ L h' (own ++ ((L + 1 + 1 + 1, o₂) :: (L + 1 + 1, oW) :: (D, LCg.lst zs) :: (Db, xd w ((tabB n).map Rp.ent) 6) :: news)) := fun N₃ q hq => N₃ q (by
      show q ∈ (_ :: _ :: _ :: _ :: news) ++ own
      rcases List.mem_append.mp hq with hq | hq
      · exact List.mem_append_right _ hq
      · exact List.mem_append_left _ hq)
    refine execsT_cons (b0 KX T hl rfl rfl F₁ N₂ (b := b') (wd := wd) ((if_neg (by decide)).trans e1) (if_pos rfl) hb32 hw fun v h2 tk2 ht2 hv F2 N2 => ?_)
    dsimp only
    rcases hv with hv | hv | ⟨hw0, h32, t2, rfl⟩
    · refine execsT_cons (wpT_any (b1 KX T hl rfl rfl F2 N2 (if_pos rfl) ((if_neg (by decide)).trans (if_pos rfl)) hw ht2 (Or.inl hv) fun h3 tk3 F3 N3 => ?_))
      dsimp only
      refine wpT_any (wpAny_execs_nil ?_)
      exact ⟨rfl, h3, tk3, _, _, rfl, F3, back N3, o', mk, tm', b', t1', rfl, d1, d2, d3, (if_neg (by decide)).trans ((if_neg (by decide)).trans e1), (if_neg (by decide)).trans ((if_neg (by decide)).trans e2), (if_neg (by decide)).trans ((if_neg (by decide)).trans e3)⟩
    · refine execsT_cons (wpT_any (b1 KX T hl rfl rfl F2 N2 (if_pos rfl) ((if_neg (by decide)).trans (if_pos rfl)) hw ht2 (Or.inr hv) fun h3 tk3 F3 N3 => ?_))
      dsimp only
      refine wpT_any (wpAny_execs_nil ?_)
      exact ⟨rfl, h3, tk3, _, _, rfl, F3, back N3, o', mk, tm', b', t1', rfl, d1, d2, d3, (if_neg (by decide)).trans ((if_neg (by decide)).trans e1), (if_neg (by decide)).trans ((if_neg (by decide)).trans e2), (if_neg (by decide)).trans ((if_neg (by decide)).trans e3)⟩
    · refine execsT_cons (wpT_any (b2 KX T hl rfl rfl F2 N2 hap2 (if_pos rfl) ((if_neg (by decide)).trans (if_pos rfl)) hw ht2 hw0 h32 d1 hoW ((if_neg (by decide)).trans ((if_neg (by decide)).trans e2)) ((if_neg (by decide)).trans ((if_neg (by decide)).trans e3)) hsys hn hi h8 hk8 hwr d2 d3 fun o₂ t' t3 h3 tk3 do2 F3 N3 => ?_))
      dsimp only
      refine wpT_any (wpAny_execs_nil ?_)
      exact ⟨rfl, h3, tk3, _, _, rfl, F3, back N3, o₂, mk ^^^ (wd - 1), t', swapB b' wd, t3, rfl, do2, xor_low d2 (width_low wd hw hw0 h32), swap_turned d3 hw hw0 h32, if_pos rfl, (if_neg (by decide)).trans ((if_neg (by decide)).trans ((if_neg (by decide)).trans e2)), (if_neg (by decide)).trans ((if_neg (by decide)).trans ((if_neg (by decide)).trans e3))⟩
end
end Mine
end
section
theorem Mine.fresh_H1E : True := by
  w_top off
  trivial

open PySem PySem.W PyProof.Rows PySem.Spec PySem.Calls
set_option Elab.async false
set_option maxRecDepth 100000
set_option maxHeartbeats 8000000
namespace Mine
section
variable {w : World} {s : Shared} {h₀ : Heap} {L : Addr} {m : Str → Option Value} {news : List (Addr × Obj)} {p : Program} {loose : List Str} {mean : ExcName → Option Value} {mg mb : Str → Option Value}
  {name qual : Str} {params : Arguments} {body : List Stmt} {scope : Scope} {dV kV doc pm cdv ct oc : Value} {an od : Option Addr} {osl : Array (Option Value)}
local macro_rules | `(tactic| walk_at "eval Name") => `(tactic| (k_here; (with_reducible show wpAny _ _ (eval (Expr.Name _ _) (envOfC _ _ _ _ _)) _ _ _); name_kind "local"; k_dflt (refine' nameX_L ?k1 ?k2 ?_; (case k1 => k_asm); (case k2 => first | exact rfl | (repeat (first | assumption | exact if_pos rfl | refine (if_neg (by decide)).trans ?_))); k_whole)))
local macro_rules | `(tactic| walk_at "eval ListComp") => `(tactic| (k_here; k_dflt (refine ListComp_X (_F₀ := by k_asm) (by with_unfolding_all rfl) (by decide) (by rfl) (by decide) (by rfl) ?_)))
local macro_rules | `(tactic| walk_at "pyIter") => `(tactic| fail "stop here")
theorem c10 {st : Stmt} {o : Obj} {vo : Option Value} {Q : Flow → Shared → Prop} {E : Value → Shared → Prop}
    (KX : (hd01.heap_39 w.params).In h₀) (T : Top p loose mean mg mb h₀)
    (hl : (hd01.heap_39 w.params).lookup 63 = some ⟨oc, od, .func (fnOf name qual params body scope dV kV doc pm an cdv ct), osl⟩) (hb : body[10]? = some st)
    (F : Fr h₀ L s.heap m) (N : News h₀ L s.heap ((L + 1 + 1 + 1, o) :: news)) (hdo : o.data = .cell vo) (hnd : ∀ q ∈ news, q.1 ≠ L + 1 + 1 + 1)
    (k : ∀ (o' : Obj) (t : Tok) (h' : Heap) (tk : Nat), o'.data = .cell (some (.int 0 t)) → Fr h₀ L h' m → News h₀ L h' ((L + 1 + 1 + 1, o') :: news) → Q .next { s with heap := h', toks := tk }) :
    wpAny (model PySem.Challenge.rw_kt0002_01.row.prog w) (callerA.deeper (envOfC (Str.ofString "law") scope L 63 cdv)) (exec st (envOfC (Str.ofString "law") scope L 63 cdv)) Q E s := by
  revert KX; k_fill; intro KX
  have e := hl.symm.trans (by k_is)
  cases e
  cases hb
  iterate 2 (first | walk1 | (dsimp only; walk1))
  refine storeX_C (c := L + 1 + 1 + 1) (by assumption) (by assumption) rfl (.head hnd) hdo (fun h₂ o' F₂ N₂ d₂ => ?_)
  exact k o' _ _ _ d₂ F₂ N₂
end
end Mine
end
section
theorem Mine.fresh_P12 : True := by
  w_top off
  trivial
open PySem PySem.W PyProof.Rows
set_option Elab.async false
namespace Mine
section
variable {h₀ h : Heap} {L : Addr}
theorem news_sub {l l' : List (Addr × Obj)} (N : News h₀ L h l) (s : ∀ q ∈ l', q ∈ l) : News h₀ L h l' := fun q hq => N q (s q hq)
theorem perm_a {p b t l3 l2 l1 : Addr × Obj} (N : News h₀ L h [p, b, t, l3, l2, l1]) : News h₀ L h [p, l1, l2, l3, b, t] := news_sub N (by simp)
theorem perm_b {p l1 l2 l3 b t : Addr × Obj} (N : News h₀ L h [p, l1, l2, l3, b, t]) : News h₀ L h [l1, p, l2, l3, b, t] := news_sub N (by simp)
theorem perm_c {k p l1 l2 l3 b t : Addr × Obj} (N : News h₀ L h [k, l1, p, l2, l3, b, t]) : News h₀ L h [k, l2, l1, p, l3, b, t] := news_sub N (by simp)
theorem perm_d {k p l1 l2 l3 b t : Addr × Obj} (N : News h₀ L h [k, l2, l1, p, l3, b, t]) : News h₀ L h [k, l2, t, l1, p, l3, b] := news_sub N (by simp)
theorem perm_e {k p l1 l2 l3 b t : Addr × Obj} (N : News h₀ L h [k, l2, t, l1, p, l3, b]) : News h₀ L h [l2, k, t, l1, p, l3, b] := news_sub N (by simp)
theorem perm_f {w k p l1 l2 l3 b t : Addr × Obj} (N : News h₀ L h [w, l2, k, t, l1, p, l3, b]) : News h₀ L h [w, p, l2, k, t, l1, l3, b] := news_sub N (by simp)
theorem perm_g {w k p l1 l2 l3 b t : Addr × Obj} (N : News h₀ L h [w, p, l2, k, t, l1, l3, b]) : News h₀ L h [l3, l2, k, b, w, p, t, l1] := news_sub N (by simp)
end
theorem all4 {x : Addr} {a b c d : Addr × Obj} (h1 : a.1 ≠ x) (h2 : b.1 ≠ x) (h3 : c.1 ≠ x) (h4 : d.1 ≠ x) : ∀ q ∈ [a, b, c, d], q.1 ≠ x := by simp [h1, h2, h3, h4]
theorem all5 {x : Addr} {a b c d e : Addr × Obj} (h1 : a.1 ≠ x) (h2 : b.1 ≠ x) (h3 : c.1 ≠ x) (h4 : d.1 ≠ x) (h5 : e.1 ≠ x) : ∀ q ∈ [a, b, c, d, e], q.1 ≠ x := by simp [h1, h2, h3, h4, h5]
theorem all6 {x : Addr} {a b c d e f : Addr × Obj} (h1 : a.1 ≠ x) (h2 : b.1 ≠ x) (h3 : c.1 ≠ x) (h4 : d.1 ≠ x) (h5 : e.1 ≠ x) (h6 : f.1 ≠ x) : ∀ q ∈ [a, b, c, d, e, f], q.1 ≠ x := by simp [h1, h2, h3, h4, h5, h6]
theorem all7 {x : Addr} {a b c d e f g : Addr × Obj} (h1 : a.1 ≠ x) (h2 : b.1 ≠ x) (h3 : c.1 ≠ x) (h4 : d.1 ≠ x) (h5 : e.1 ≠ x) (h6 : f.1 ≠ x) (h7 : g.1 ≠ x) : ∀ q ∈ [a, b, c, d, e, f, g], q.1 ≠ x := by simp [h1, h2, h3, h4, h5, h6, h7]
end Mine
end
section
theorem Mine.fresh_H01 : True := by
  w_top off
  trivial
open PySem PySem.W PyProof.Rows PySem.Spec PySem.Calls
set_option Elab.async false
set_option maxRecDepth 100000
set_option maxHeartbeats 8000000


namespace Mine
theorem news_31 {h₀ h : Heap} {L : Addr} {a b c : Addr × Obj} (N : News h₀ L h [a, b, c]) : News h₀ L h [c, a] := fun q hq => by
  rcases List.mem_cons.mp hq with rfl | hq
  · exact N _ (.tail _ (.tail _ (.head _)))
  · rw [List.mem_singleton.mp hq]; exact N _ (.head _)
theorem news_132 {h₀ h : Heap} {L : Addr} {a b c : Addr × Obj} (N : News h₀ L h [a, b, c]) : News h₀ L h [a, c, b] := fun q hq => by
  rcases List.mem_cons.mp hq with rfl | hq
  · exact N _ (.head _)
  · rcases List.mem_cons.mp hq with rfl | hq
    · exact N _ (.tail _ (.tail _ (.head _)))
    · rw [List.mem_singleton.mp hq]; exact N _ (.tail _ (.head _))
theorem good_true {c : ClaimW} {cl : Str → Option Addr} {mean : ExcName → Option Value} {args : List WData} {s₁ s' : Shared} (hg : s'.gens = #[]) (hk : ∀ b o, s₁.heap.get? b = some o → s'.heap.get? b = some o) (hos : s'.os = s₁.os) (hn : ∀ cls, c.raises args cls = false) (hp : c.post args (.bool true) args = true) :
    GoodWG c cl mean args s₁ (.ok (.ret (.bool true))) s' := GoodW.toG ⟨.inl ⟨_, _, _, rfl, hn, .bool true, hp, unshared_nil⟩, hk, hos, hg⟩
theorem w01 : PySem.Challenge.rw_kt0002_01.Holds := by
  w_on; o_law
  refine holds_tame (q := hd01.view_39) (loose := [Str.ofString "escape", Str.ofString "unescape"]) (Xt := fun s => xlAt hd01.view_39 [] s && recOk (RowW.records PySem.Challenge.rw_kt0002_01.row.toRowW) s) (XP := XL hd01.view_39 []) (Yf := Hook.obs hook01) (Ya := Hook.val hook01) (YP := Hook.says hook01) (N := 900) left01 (Hook.of hook01) (Hook.keeps hook01) (fun s e => xl_of s (Bool.and_eq_true_iff.mp e).1) XL.keeps (by rfl) (by rfl) (by rfl) (fun s e => recFacts_of (Bool.and_eq_true_iff.mp e).2) (by rfl) (by first | assumption | decide +kernel) (by decide +kernel) ⟨rfl, rfl, rfl, rfl, rfl, by decide +kernel⟩ ?hw ?hc
  case hw => w_witness2
  case hc =>
    intro w s₀ s₁ mg mb G Y fa o pm cd doc dV kV ho hd hcd hD hmg hg args vals as hpre hlay hrd hwl hlo
    have KX : (hd01.heap_39 w.params).In s₁.heap := kIn_of Y
    revert KX; k_fill; intro KX
    have X := (Ground.X G).1
    refine Ground.open G ?_
    intro T B D TE TW
    wrow_args hpre hlay hrd hwl hlo
    refine ⟨?main, ?triv⟩
    case triv =>
      refine good_true hg (fun _ _ e => e) rfl (raisesW_false ?_) ?_
      · wrow_none_raised
      · kc_post
    case main =>
      have hfa : fa = 63 := by
        have h1 := mg_of KX T.g (by k_is : nsIn (hd01.heap_39 w.params) mainGlobals (Str.ofString "law") = some (some _))
        have h2 := hmg.symm.trans h1
        exact Value.ref.inj (Option.some.inj h2)
      subst hfa
      refine wpT_call ?_
      refine' codeT_top_K KX T.nolimit ?k6 ?k7 ?hroom ?k9 ?kD ?kB1 ?kN ?_ ?c2 ?c3 ?c4
      case k6 => k_is
      case k7 => k_is
      case hroom => decide
      case k9 => exact BindsTo.of_eq rfl
      case kD => exact kindsX (by rfl)
      case kB1 => exact ⟨_, _, rfl, rfl⟩
      case kN => decide +kernel
      case c2 => exact rfl
      case c3 => exact rfl
      case c4 => exact rfl
      intro L' h₁ tk cells ht F N Y'
      obtain ⟨oc3, oc2, oc1, hE', d3, d2, d1⟩ := CellsAre.three Y'
      subst hE'
      clear Y'
      clear ho hd hcd hD hmg
      refine nameT (fun Qf hQf => ?_)
      rename s₁.heap.IsList _ _ => hLa
      rename IntsAre _ _ => hIa
      rename ¬ ((63 : Nat) : Int) < _ => hc63
      refine execsT_tok 1 ht (wpT_any (c0 KX T (by k_is) rfl F N ht fun Dt nt h0 tk0 hnt hsys0 hlt0 F0 N0 ht0 => ?_))
      dsimp only at ht0 ⊢
      refine execsT_tok 1 ht0 (wpT_any (c1 KX T (by k_is) rfl F0 N0 ht0 fun Db nb h1 tk1 hnb hsys1 hlt1 F1 N1 ht1 => ?_))
      dsimp only at ht1 ⊢
      have la1 : @LT.lt Nat _ (L' + 1) Dt := hlt0 _ (.tail _ (.tail _ (.head _)))
      have la2 : @LT.lt Nat _ (L' + 1 + 1) Dt := hlt0 _ (.tail _ (.head _))
      have la3 : @LT.lt Nat _ (L' + 1 + 1 + 1) Dt := hlt0 _ (.head _)
      have lb0 : @LT.lt Nat _ Dt Db := hlt1 _ (.head _)
      clear F N F0 N0 hlt0 hlt1
      refine execsT_tok 1 ht1 (wpT_any (c2 KX T (by k_is) rfl F1 N1 ?hs2 hLa hIa (by omega) fun Dp zs ns h2 tk2 hiz hzz hpos ap2 F2 N2 ht2 => ?_))
      case hs2 => exact (if_neg (by decide)).trans ((if_neg (by decide)).trans (rfl))
      dsimp only at ht2 ⊢
      have pa1 : @Ne Nat (L' + 1) Dp := ap2 _ (.tail _ (.tail _ (.tail _ (.tail _ (.head _)))))
      have pa2 : @Ne Nat (L' + 1 + 1) Dp := ap2 _ (.tail _ (.tail _ (.tail _ (.head _))))
      have pa3 : @Ne Nat (L' + 1 + 1 + 1) Dp := ap2 _ (.tail _ (.tail _ (.head _)))
      refine execsT_tok 1 ht2 (wpT_any (c3 KX T (by k_is) rfl F2 (perm_a N2) (if_pos rfl) hiz hzz d1 (Ne.symm pa1) (all4 (by show @Ne Nat (L' + 1 + 1) (L' + 1); omega) (by show @Ne Nat (L' + 1 + 1 + 1) (L' + 1); omega) (by show @Ne Nat (Db) (L' + 1); omega) (by show @Ne Nat (Dt) (L' + 1); omega)) fun oT total tt h3 tk3 dT F3 N3 ht3 => ?_))
      dsimp only at ht3 ⊢
      refine execsT_tok 1 ht3 (wpT_any (c4 KX T (by k_is) rfl F3 (perm_b N3) dT fun Dk ys ks h4 tk4 hik h8 hk8 ap4 F4 N4 ht4 => ?_))
      dsimp only at ht4 ⊢
      have ka2 : @Ne Nat (L' + 1 + 1) Dk := ap4 _ (.tail _ (.tail _ (.head _)))
      have ka3 : @Ne Nat (L' + 1 + 1 + 1) Dk := ap4 _ (.tail _ (.tail _ (.tail _ (.head _))))
      refine execsT_tok 1 ht4 (wpT_any (c5 (oT := oT) (oM := oT) KX T (by k_is) rfl F4 (perm_c N4) (all5 (by show @Ne Nat (L' + 1) (L' + 1 + 1); omega) (by show @Ne Nat (Dp) (L' + 1 + 1); omega) (by show @Ne Nat (L' + 1 + 1 + 1) (L' + 1 + 1); omega) (by show @Ne Nat (Db) (L' + 1 + 1); omega) (by show @Ne Nat (Dt) (L' + 1 + 1); omega)) (Ne.symm ka2) d2 (if_pos rfl) hik h8 hk8 fun oW wr tw h5 tk5 hwr dW F5 N5 ht5 => ?_))
      dsimp only at ht5 ⊢
      refine execsT_tok 1 ht5 (wpT_any (c6 KX T (by k_is) rfl F5 (perm_d N5) hnt ht5 hsys0 dW (if_pos rfl) ?hta hik h8 hk8 hwr fun h6 tk6 F6 N6 ht6 => ?_))
      case hta => exact (if_neg (by decide)).trans ((if_neg (by decide)).trans ((if_neg (by decide)).trans (if_pos rfl)))
      dsimp only at ht6 ⊢
      have hwl : wr.length = 32 := by
        have := congrArg List.length hwr
        rw [flat_blk_len, h8] at this
        simpa [Str.length] using this
      refine execsT_tok 1 ht6 (wpT_any (c7 KX T (by k_is) rfl F6 (perm_e N6) dW (by omega) (by rw [hwr]; exact blk_low hk8) fun b bt h7 tk7 hb7 F7 N7 ht7 => ?_))
      dsimp only at ht7 ⊢
      refine execsT_tok 1 ht7 (wpT_any (c8 KX T (by k_is) rfl F7 N7 ?hs8 hLa hIa (by omega) fun Dw nw ws wn h8' tk8 hiw hwn1 hw64 F8 N8 ap8 ht8 => ?_))
      case hs8 => exact (if_neg (by decide)).trans ((if_neg (by decide)).trans ((if_neg (by decide)).trans ((if_neg (by decide)).trans ((if_neg (by decide)).trans (rfl)))))
      dsimp only at ht8 ⊢
      have wa2 : @Ne Nat (L' + 1 + 1) Dw := ap8 _ (.head _)
      have wak : @Ne Nat Dk Dw := ap8 _ (.tail _ (.head _))
      have wat : @Ne Nat Dt Dw := ap8 _ (.tail _ (.tail _ (.head _)))
      have wa1 : @Ne Nat (L' + 1) Dw := ap8 _ (.tail _ (.tail _ (.tail _ (.head _))))
      have wap : @Ne Nat Dp Dw := ap8 _ (.tail _ (.tail _ (.tail _ (.tail _ (.head _)))))
      have wa3 : @Ne Nat (L' + 1 + 1 + 1) Dw := ap8 _ (.tail _ (.tail _ (.tail _ (.tail _ (.tail _ (.head _))))))
      have wab : @Ne Nat Db Dw := ap8 _ (.tail _ (.tail _ (.tail _ (.tail _ (.tail _ (.tail _ (.head _)))))))
      refine execsT_tok 1 ht8 (c9 KX T (by k_is) rfl F8 (perm_f N8) (if_pos rfl) ?hp9 (all7 wap wa2 wak wat wa1 wa3 wab) hiw hwn1 hw64 hiz hzz hpos fun nw9 ws9 wn9 h9 tk9 m9 hiw9 hwl9 hw9 hm9 F9 N9 ht9 => ?_)
      case hp9 => exact (if_neg (by decide)).trans ((if_neg (by decide)).trans ((if_neg (by decide)).trans (if_pos rfl)))
      dsimp only at ht9 ⊢
      refine execsT_tok 1 ht9 (wpT_any (c10 KX T (by k_is) rfl F9 (perm_g N9) d3 (all7 (by show @Ne Nat (L' + 1 + 1) (L' + 1 + 1 + 1); omega) (by show @Ne Nat (Dk) (L' + 1 + 1 + 1); omega) (by show @Ne Nat (Db) (L' + 1 + 1 + 1); omega) (by show @Ne Nat (Dw) (L' + 1 + 1 + 1); omega) (by show @Ne Nat (Dp) (L' + 1 + 1 + 1); omega) (by show @Ne Nat (Dt) (L' + 1 + 1 + 1); omega) (by show @Ne Nat (L' + 1) (L' + 1 + 1 + 1); omega)) fun oM tm h10 tk10 dM F10 N10 ht10 => ?_))
      dsimp only at ht10 ⊢
      refine execsT_tok 1 ht10 (c11 (b := b) (t1 := bt) KX T (by k_is) rfl F10 N10 (all6 (by show @Ne Nat (Dk) (L' + 1 + 1 + 1); omega) (by show @Ne Nat (Db) (L' + 1 + 1 + 1); omega) (by show @Ne Nat (Dw) (L' + 1 + 1 + 1); omega) (by show @Ne Nat (Dp) (L' + 1 + 1 + 1); omega) (by show @Ne Nat (Dt) (L' + 1 + 1 + 1); omega) (by show @Ne Nat (L' + 1) (L' + 1 + 1 + 1); omega)) (.head _) dM dW ?k1 ?k2 ?k3 ?k4 hsys1 hnb hik h8 hk8 hwr (hb7.trans (hwr.trans (turned_0 h8))) hiw9 hw9 fun h11 tk11 m11 F11 ht11 => ?_)
      case k1 => exact (hm9 _ (by decide)).trans ((if_neg (by decide)).trans ((if_neg (by decide)).trans (if_pos rfl)))
      case k2 => exact (hm9 _ (by decide)).trans ((if_neg (by decide)).trans ((if_neg (by decide)).trans ((if_neg (by decide)).trans ((if_neg (by decide)).trans (if_pos rfl)))))
      case k3 => exact (hm9 _ (by decide)).trans (if_pos rfl)
      case k4 => exact (hm9 _ (by decide)).trans ((if_neg (by decide)).trans (if_pos rfl))
      dsimp only at ht11 ⊢
      refine execsT_cons (wpT_any ?_)
      repeat (first | walk1 | (dsimp only; walk1))
      refine hQf () _ _ ?_
      clear hQf
      dsimp only
      refine good_true hg F11.keep rfl (raisesW_false ?_) ?_
      · wrow_none_raised
      · kc_post
end Mine
end
theorem PySem.Challenge.cw_kt0002_01_holds : PySem.Challenge.rw_kt0002_01.Holds := by
  exact Mine.w01
