import PyProof.Rows.All
import Wide.All
import OpenK.AllK
import Wide.FinOn
import PySem.Challenge.RW_eu0025_01
open PySem PySem.W PyProof.Rows
set_option Elab.async false
set_option maxRecDepth 100000
section
open PySem PySem.W PyProof.Rows
namespace Inj
-- ## the types' facts
theorem plain_deque : PlainAttrs "collections.deque" :=
  ⟨⟨"collections.deque.__getattribute__", by rw [typeLookup_type, builtinLookup_eq_fast]; kernel_rfl, by decide +kernel⟩, by rw [typeLookup_type, builtinLookup_eq_fast]; kernel_rfl⟩
theorem plain_pattern : PlainAttrs "re.Pattern" :=
  ⟨⟨"object.__getattribute__", by rw [typeLookup_type, builtinLookup_eq_fast]; kernel_rfl, by decide +kernel⟩, by rw [typeLookup_type, builtinLookup_eq_fast]; kernel_rfl⟩
theorem plain_match : PlainAttrs "re.Match" :=
  ⟨⟨"object.__getattribute__", by rw [typeLookup_type, builtinLookup_eq_fast]; kernel_rfl, by decide +kernel⟩, by rw [typeLookup_type, builtinLookup_eq_fast]; kernel_rfl⟩
theorem slot_dq_popleft : Slot "collections.deque" "popleft" "collections.deque.popleft" :=
  .of (owner := "collections.deque") (n := "popleft") (by rw [typeLookup_type, builtinLookup_eq_fast]; kernel_rfl) (by decide +kernel) (by decide +kernel) (by decide +kernel)
    (by first | exact .inl (by decide +kernel) | exact .inr (by decide +kernel)) (by rw [isSubtype_type]; kernel_rfl)
theorem type_dq_popleft : typeOf (.builtin "collections.deque.popleft") = pure (.type "method_descriptor") := by show builtinType _ = _; rw [builtinType_eq_fast]; kernel_rfl
theorem entry_dq_popleft : entryFor table "collections.deque.popleft" = some Builtin.«collections.deque.popleft» := entryFor_of_tree (by kernel_rfl)
theorem args_dq_popleft (a : Value) : argsOk "collections.deque.popleft" ⟨[a], []⟩ := by
  unfold argsOk; rw [signature?_of (id := "collections.deque.popleft") (n := ['t', 'f', 'e', 'l', 'p', 'o', 'p']) (o := ['e', 'u', 'q', 'e', 'd', '.', 's', 'n', 'o', 'i', 't', 'c', 'e', 'l', 'l', 'o', 'c']) (by kernel_rfl) (by kernel_rfl : _ = some Manifest.sig_collections_deque)]; kernel_rfl
theorem slot_dq_len : Slot "collections.deque" "__len__" "collections.deque.__len__" :=
  .of (owner := "collections.deque") (n := "__len__") (by rw [typeLookup_type, builtinLookup_eq_fast]; kernel_rfl) (by decide +kernel) (by decide +kernel) (by decide +kernel)
    (by first | exact .inl (by decide +kernel) | exact .inr (by decide +kernel)) (by rw [isSubtype_type]; kernel_rfl)
theorem entry_dq_len : entryFor table "collections.deque.__len__" = some Builtin.«collections.deque.__len__» := entryFor_of_tree (by kernel_rfl)
theorem args_dq_len (a : Value) : argsOk "collections.deque.__len__" ⟨[a], []⟩ := by
  unfold argsOk; rw [signature?_of (id := "collections.deque.__len__") (n := ['_', '_', 'n', 'e', 'l', '_', '_']) (o := ['e', 'u', 'q', 'e', 'd', '.', 's', 'n', 'o', 'i', 't', 'c', 'e', 'l', 'l', 'o', 'c']) (by kernel_rfl) (by kernel_rfl : _ = some Manifest.sig_collections_deque)]; kernel_rfl
theorem slot_dq_getitem : Slot "collections.deque" "__getitem__" "collections.deque.__getitem__" :=
  .of (owner := "collections.deque") (n := "__getitem__") (by rw [typeLookup_type, builtinLookup_eq_fast]; kernel_rfl) (by decide +kernel) (by decide +kernel) (by decide +kernel)
    (by first | exact .inl (by decide +kernel) | exact .inr (by decide +kernel)) (by rw [isSubtype_type]; kernel_rfl)
theorem entry_dq_getitem : entryFor table "collections.deque.__getitem__" = some Builtin.«collections.deque.__getitem__» := entryFor_of_tree (by kernel_rfl)
theorem args_dq_getitem (a b : Value) : argsOk "collections.deque.__getitem__" ⟨[a, b], []⟩ := by
  unfold argsOk; rw [signature?_of (id := "collections.deque.__getitem__") (n := ['_', '_', 'm', 'e', 't', 'i', 't', 'e', 'g', '_', '_']) (o := ['e', 'u', 'q', 'e', 'd', '.', 's', 'n', 'o', 'i', 't', 'c', 'e', 'l', 'l', 'o', 'c']) (by kernel_rfl) (by kernel_rfl : _ = some Manifest.sig_collections_deque)]; kernel_rfl
theorem slot_dq_init : Slot "collections.deque" "__init__" "collections.deque.__init__" :=
  .of (owner := "collections.deque") (n := "__init__") (by rw [typeLookup_type, builtinLookup_eq_fast]; kernel_rfl) (by decide +kernel) (by decide +kernel) (by decide +kernel)
    (by first | exact .inl (by decide +kernel) | exact .inr (by decide +kernel)) (by rw [isSubtype_type]; kernel_rfl)
theorem entry_dq_init : entryFor table "collections.deque.__init__" = some Builtin.«collections.deque.__init__» := entryFor_of_tree (by kernel_rfl)
theorem args_dq_init (a b : Value) : argsOk "collections.deque.__init__" ⟨[a, b], []⟩ := by
  unfold argsOk; rw [signature?_of (id := "collections.deque.__init__") (n := ['_', '_', 't', 'i', 'n', 'i', '_', '_']) (o := ['e', 'u', 'q', 'e', 'd', '.', 's', 'n', 'o', 'i', 't', 'c', 'e', 'l', 'l', 'o', 'c']) (by kernel_rfl) (by kernel_rfl : _ = some Manifest.sig_collections_deque)]; kernel_rfl
theorem slot_pat_match : Slot "re.Pattern" "match" "re.Pattern.match" :=
  .of (owner := "re.Pattern") (n := "match") (by rw [typeLookup_type, builtinLookup_eq_fast]; kernel_rfl) (by decide +kernel) (by decide +kernel) (by decide +kernel)
    (by first | exact .inl (by decide +kernel) | exact .inr (by decide +kernel)) (by rw [isSubtype_type]; kernel_rfl)
theorem type_pat_match : typeOf (.builtin "re.Pattern.match") = pure (.type "method_descriptor") := by show builtinType _ = _; rw [builtinType_eq_fast]; kernel_rfl
theorem entry_pat_match : entryFor table "re.Pattern.match" = some Builtin.«re.Pattern.match» := entryFor_of_tree (by kernel_rfl)
theorem args_pat_match (a b : Value) : argsOk "re.Pattern.match" ⟨[a, b], []⟩ := by
  unfold argsOk; rw [signature?_of (id := "re.Pattern.match") (n := ['h', 'c', 't', 'a', 'm']) (o := ['n', 'r', 'e', 't', 't', 'a', 'P', '.', 'e', 'r']) (by kernel_rfl) (by kernel_rfl : _ = some Manifest.sig_re_Pattern)]; kernel_rfl
theorem slot_mat_group : Slot "re.Match" "group" "re.Match.group" :=
  .of (owner := "re.Match") (n := "group") (by rw [typeLookup_type, builtinLookup_eq_fast]; kernel_rfl) (by decide +kernel) (by decide +kernel) (by decide +kernel)
    (by first | exact .inl (by decide +kernel) | exact .inr (by decide +kernel)) (by rw [isSubtype_type]; kernel_rfl)
theorem type_mat_group : typeOf (.builtin "re.Match.group") = pure (.type "method_descriptor") := by show builtinType _ = _; rw [builtinType_eq_fast]; kernel_rfl
theorem entry_mat_group : entryFor table "re.Match.group" = some Builtin.«re.Match.group» := entryFor_of_tree (by kernel_rfl)
theorem args_mat_group (a b : Value) : argsOk "re.Match.group" ⟨[a, b], []⟩ := by
  unfold argsOk; rw [signature?_of (id := "re.Match.group") (n := ['p', 'u', 'o', 'r', 'g']) (o := ['h', 'c', 't', 'a', 'M', '.', 'e', 'r']) (by kernel_rfl) (by kernel_rfl : _ = some Manifest.sig_re_Match)]; kernel_rfl
theorem noBool_deque : typeLookup (.type "collections.deque") "__bool__" = pure none := by rw [typeLookup_type, builtinLookup_eq_fast]; kernel_rfl
theorem noBool_match : typeLookup (.type "re.Match") "__bool__" = pure none := by rw [typeLookup_type, builtinLookup_eq_fast]; kernel_rfl
theorem noLen_match : typeLookup (.type "re.Match") "__len__" = pure none := by rw [typeLookup_type, builtinLookup_eq_fast]; kernel_rfl
theorem entry_dq_new : entryFor table "collections.deque.__new__" = some Builtin.«collections.deque.__new__» := entryFor_of_tree (by kernel_rfl)
theorem entry_dq_extend : entryFor table "collections.deque.extend" = some Builtin.«collections.deque.extend» := entryFor_of_tree (by kernel_rfl)
theorem entry_dq_extend_loop : entryFor table "collections.deque.extend.loop" = some Builtin.«collections.deque.extend.loop» := entryFor_of_tree (by kernel_rfl)
theorem mro_deque : mroOf (.type "collections.deque") = pure [.type "collections.deque", .type "object"] := by rw [mroOf_type]; kernel_rfl
theorem lookup_deque_new : typeLookup (.type "collections.deque") "__new__" = pure (some (.builtin "collections.deque.__new__")) := by rw [typeLookup_type, builtinLookup_eq_fast]; kernel_rfl
theorem called_deque : TypeCalled "collections.deque" "collections.deque.__new__" "collections.deque.__init__" :=
  ⟨by decide +kernel, by decide +kernel, ⟨_, _, mro_deque⟩, madeBy_type mro_deque lookup_deque_new (by decide +kernel), by decide +kernel, by rw [isSubtype_type]; kernel_rfl, slot_dq_init⟩
theorem typeCall_deque (a : Value) : checkTypeCall "collections.deque" ⟨[a], []⟩ = pure () := by kernel_rfl
theorem newCall_deque (a : Value) : checkBuiltinCall "collections.deque.__new__" ⟨[.type "collections.deque", a], []⟩ = pure () := by kernel_rfl
end Inj
end
section
open PySem PySem.W PyProof.Rows PySem.Builtin
namespace Inj
abbrev dqObj (k : Int) (vs : List Value) : Obj := { cls := .type "collections.deque", data := .fields (#[.none, .int k 0] ++ vs.toArray) }
theorem dq_tail (a b : Value) (l : List Value) : (#[a, b] ++ l.toArray).extract 2 (#[a, b] ++ l.toArray).size = l.toArray := by
  apply Array.ext'
  simp
theorem dq_size (a b : Value) (l : List Value) : (#[a, b] ++ l.toArray).size - 2 = l.length := by
  simp
theorem dq_change (f : Array Value → Array Value) (k j : Int) (l : List Value) :
    (dqObj k l).mapFields (fun vs => #[vs.getD 0 .none, rawInt j] ++ f (vs.extract 2 vs.size)) = { cls := .type "collections.deque", data := .fields (#[.none, .int j 0] ++ f l.toArray) } := by
  show ({ cls := .type "collections.deque", data := .fields (#[(#[Value.none, .int k 0] ++ l.toArray).getD 0 .none, rawInt j] ++ f ((#[Value.none, .int k 0] ++ l.toArray).extract 2 (#[Value.none, .int k 0] ++ l.toArray).size)) } : Obj) = _
  rw [dq_tail, show (#[Value.none, .int k 0] ++ l.toArray).getD 0 .none = Value.none from by simp [Array.getD]]
  rfl
section
variable {prog : Program} {w : World} {A : Around} {E : Value → Shared → Prop} {s : Shared} {a : Addr} {k : Int} {vs : List Value} {v : Value}
theorem dq_typeIs (ho : s.heap.get? a = some (dqObj k vs)) : s.TypeIs (.ref a) "collections.deque" := ⟨_, ho, rfl⟩
theorem dq_fields {M : Model} {Q : Array Value → Shared → Prop} (ho : s.heap.get? a = some (dqObj k vs)) (h : Q (#[.none, .int k 0] ++ vs.toArray) s) : wpAny M A (fieldsOf (.ref a)) Q E s :=
  wpAny_fieldsOf ho rfl h
theorem dq_items {M : Model} {Q : Array Value → Shared → Prop} (ho : s.heap.get? a = some (dqObj k vs)) (h : Q vs.toArray s) : wpAny M A (Deque.items (.ref a)) Q E s := by
  unfold Deque.items
  refine wpAny_bind (dq_fields ho (wpAny_pure ?_))
  rw [dq_tail]; exact h
theorem dq_sizeOf {M : Model} {Q : Nat → Shared → Prop} (ho : s.heap.get? a = some (dqObj k vs)) (h : Q vs.length s) : wpAny M A (Deque.size (.ref a)) Q E s := by
  unfold Deque.size
  refine wpAny_bind (dq_fields ho (wpAny_pure ?_))
  rw [dq_size]; exact h
theorem dq_field0 {M : Model} {Q : Value → Shared → Prop} (ho : s.heap.get? a = some (dqObj k vs)) (h : Q .none s) : wpAny M A (field (.ref a) 0) Q E s :=
  wpAny_field ho rfl (by simp) h
theorem dq_state {M : Model} {Q : Int → Shared → Prop} (ho : s.heap.get? a = some (dqObj k vs)) (h : Q k s) : wpAny M A (Deque.state (.ref a)) Q E s := by
  unfold Deque.state
  refine wpAny_bind (wpAny_field ho rfl (x := .int k 0) (by simp) ?_)
  exact wpAny_pure h
theorem dq_maxlen {M : Model} {Q : Option Nat → Shared → Prop} (ho : s.heap.get? a = some (dqObj k vs)) (h : Q none s) : wpAny M A (Deque.maxlen (.ref a)) Q E s := by
  unfold Deque.maxlen
  exact wpAny_bind (dq_field0 ho (wpAny_pure h))
theorem dq_changed {M : Model} {Q : Unit → Shared → Prop} {f : Array Value → Array Value} (ho : s.heap.get? a = some (dqObj k vs)) {vs' : List Value} (hf : f vs.toArray = vs'.toArray) (hz : vs'.length ≤ sizeLine)
    (h : ∀ h', h'.get? a = some (dqObj (k + 1) vs') → Heap.SameBut a s.heap h' → Q () { s with heap := h' }) : wpAny M A (Deque.change (.ref a) f) Q E s := by
  unfold Deque.change
  refine wpAny_bind (dq_state ho ?_)
  have e := dq_change f k (k + 1) vs
  rw [hf] at e
  refine wpAny_updateFields ho rfl (h _ ?_ (Heap.SameBut.update ..)) ?_
  · have := Heap.get?_update_self (fun o => o.mapFields (fun vs => #[vs.getD 0 .none, rawInt (if true = true then k + 1 else k)] ++ f (vs.extract 2 vs.size))) ho (by rfl)
    simp only [if_true] at this
    rw [e] at this
    exact this
  · show (#[(#[Value.none, .int k 0] ++ vs.toArray).getD 0 .none, rawInt (if true = true then k + 1 else k)] ++ f ((#[Value.none, .int k 0] ++ vs.toArray).extract 2 (#[Value.none, .int k 0] ++ vs.toArray).size)).size ≤ _
    rw [dq_tail, hf]
    simp; omega
theorem dq_truthy {Q : Bool → Shared → Prop} (ho : s.heap.get? a = some (dqObj k vs)) (hfit : (vs.length : Int) < 2 ^ 63) (h : Q (!vs.isEmpty) { s with toks := s.toks + 1 + 1 }) :
    wpAny (model prog w) A (truthy (.ref a)) Q E s := by
  have hT := dq_typeIs ho
  have hne : ((vs.length : Int) != 0) = !vs.isEmpty := by
    cases vs with
    | nil => rfl
    | cons x r => simp only [List.length_cons, List.isEmpty_cons]; exact bne_iff_ne.mpr (by omega)
  have body : wpAny (model prog w) A.in1 (Builtin.«len» ⟨[.ref a], []⟩) (fun fin s' => ∃ r, fin = .done (.ret r) ∧ (r = .int vs.length (s.toks + 1) ∧ Q (!vs.isEmpty) s')) E s := by
    unfold Builtin.«len»
    refine wpAny_bind (m := oneArg "len" _) (wpAny_pure ?_)
    refine wpAny_bind (m := callSpecial? (.ref a) (Str.ofString "__len__")) (wpAny_callSpecial?_slot (name := Str.ofString "__len__") hT slot_dq_len
      (wpAny_call_entry slot_dq_len hT entry_dq_len ?_ (args_dq_len _)))
    show wpAny _ _ (do retInt (← Deque.size (← slotArgs "__len__" 0 ⟨[.ref a], []⟩).1)) _ _ s
    refine wpAny_bind (wpAny_pure (wpAny_bind (dq_sizeOf ho ?_)))
    refine wpAny_bind (wpAny_mkInt (wpAny_pure ⟨_, rfl, ?_⟩))
    refine wpAny_bind (wpAny_holding (wpAny_pure ?_))
    refine wpAny_bind (wpAny_letGo ?_)
    show wpAny _ _ (if ((vs.length : Nat) : Int) < 0 then _ else _) _ _ _
    rw [if_neg (by omega)]
    show wpAny _ _ (if ((vs.length : Nat) : Int) ≥ 2 ^ 63 then _ else _) _ _ _
    rw [if_neg (by omega)]
    exact wpAny_bind (wpAny_mkInt (wpAny_pure ⟨_, rfl, rfl, h⟩))
  have key : wpAny (model prog w) A (runValue (.builtin "len" ⟨[.ref a], []⟩)) (fun r s' => r = .int vs.length (s.toks + 1) ∧ Q (!vs.isEmpty) s') E s := by
    refine wpAny_runValue (codeAny_builtin entry_len ?_)
    rw [Around.under_plainId plain_len _]
    exact wpAny_mono body (fun fin s' h' => by obtain ⟨r, rfl, hq⟩ := h'; exact hq) fun _ _ e => e
  unfold truthy
  first
    | refine wpAny_bind (wpAny_callSpecial?_none (name := Str.ofString "__bool__") hT noBool_deque ?_)
    | refine wpAny_bind (wpAny_pure (wpAny_bind (wpAny_callSpecial?_none (name := Str.ofString "__bool__") hT noBool_deque ?_)))
  first
    | refine wpAny_bind (wpAny_specialOf (name := Str.ofString "__len__") hT slot_dq_len.lookup ?_)
    | refine wpAny_bind (wpAny_pure (wpAny_bind (wpAny_specialOf (name := Str.ofString "__len__") hT slot_dq_len.lookup ?_)))
  first
    | exact wpAny_bind (wpAny_mono key (fun r s' h' => by obtain ⟨rfl, hq⟩ := h'; exact wpAny_pure (hne ▸ hq)) fun _ _ e => e)
    | exact wpAny_bind (wpAny_pure (wpAny_bind (wpAny_mono key (fun r s' h' => by obtain ⟨rfl, hq⟩ := h'; exact wpAny_pure (hne ▸ hq)) fun _ _ e => e)))
theorem match_truthy {M : Model} {Q : Bool → Shared → Prop} {o : Obj} (ho : s.heap.get? a = some o) (hc : o.cls = .type "re.Match") (h : Q true s) : wpAny M A (truthy (.ref a)) Q E s := by
  have hT : s.TypeIs (.ref a) "re.Match" := ⟨_, ho, hc⟩
  unfold truthy
  first
    | refine wpAny_bind (wpAny_callSpecial?_none (name := Str.ofString "__bool__") hT noBool_match ?_)
    | refine wpAny_bind (wpAny_pure (wpAny_bind (wpAny_callSpecial?_none (name := Str.ofString "__bool__") hT noBool_match ?_)))
  first
    | refine wpAny_bind (wpAny_specialOf (name := Str.ofString "__len__") hT noLen_match ?_)
    | refine wpAny_bind (wpAny_pure (wpAny_bind (wpAny_specialOf (name := Str.ofString "__len__") hT noLen_match ?_)))
  first
    | exact wpAny_pure h
    | exact wpAny_bind (wpAny_pure (wpAny_pure h))
-- ## popleft
theorem meets_popleft : Meets (Builtin.«collections.deque.popleft» ⟨[.ref a], []⟩) (fun _ R s => s.heap.get? a = some (dqObj k (v :: vs)) ∧ vs.length ≤ sizeLine ∧
      ∀ h', h'.get? a = some (dqObj (k + 1) vs) → Heap.SameBut a s.heap h' → R (.ok (.ret v)) { s with heap := h' }) :=
  .of_wp fun prog w A R s hs => by
    obtain ⟨ho, hz, h⟩ := hs
    unfold Builtin.«collections.deque.popleft»
    refine wpAny_bind (m := selfOnly "deque.popleft" _) (wpAny_pure ?_)
    refine wpAny_bind (dq_items ho ?_)
    show wpAny _ _ (do Deque.change (.ref a) (·.eraseIdxIfInBounds 0); ret v) _ _ s
    refine wpAny_bind (dq_changed ho (vs' := vs) (by simp [Array.eraseIdxIfInBounds]) hz fun h' ho' hs' => ?_)
    exact wpAny_pure ⟨_, rfl, h h' ho' hs'⟩
theorem dq_popleft {pos : Pos} {Q : Value → Shared → Prop} (ho : s.heap.get? a = some (dqObj k (v :: vs))) (hz : vs.length ≤ sizeLine)
    (h : ∀ h', h'.get? a = some (dqObj (k + 1) vs) → Heap.SameBut a s.heap h' → Q v { s with heap := h' }) : MethodOnS prog w A E "popleft" (.ref a) pos [] Q s := by
  refine ⟨"collections.deque", _, plain_deque, slot_dq_popleft, type_dq_popleft, dq_typeIs ho, fun b e => ⟨_, by cases e; exact ho, rfl⟩, ?_⟩
  exact method0_meets slot_dq_popleft entry_dq_popleft (dq_typeIs ho) (args_dq_popleft _) (meets_popleft (k := k) (v := v) (vs := vs)) ⟨ho, hz, fun h' a b => h h' a b⟩
end
end Inj
end
section
open PySem PySem.W PyProof.Rows PySem.Builtin
namespace Inj
section
variable {prog : Program} {w : World} {A : Around} {E : Value → Shared → Prop} {s : Shared} {a : Addr} {k : Int} {vs : List Value} {v : Value}
theorem entry_proto_index : entryFor table "proto.index" = some Builtin.«proto.index» := entryFor_of_tree (by kernel_rfl)
theorem seq_types_dq : (seqItemTypes.any fun n => "collections.deque.__getitem__" == s!"{n}.{(Str.ofString "__getitem__").toString}") = true := by decide +kernel
theorem dq_key {t : Tok} {Q : Value → Shared → Prop} (ho : s.heap.get? a = some (dqObj k vs)) (h : Q (.int 0 s.toks) { s with toks := s.toks + 1 }) :
    wpAny (model prog w) A (sequenceKey (.ref a) (.int 0 t) "__getitem__") Q E s := by
  unfold sequenceKey
  refine wpAny_bind (wpAny_typeOf (dq_typeIs ho) ?_)
  have e1 : (!seqItemTypes.contains "collections.deque") = false := by decide
  simp only [e1, Bool.false_eq_true, if_false]
  refine wpAny_bind (wpAny_of_eq slot_dq_getitem.lookup ?_)
  show wpAny _ _ (if (!(seqItemTypes.any fun n => "collections.deque.__getitem__" == s!"{n}.{(Str.ofString "__getitem__").toString}")) = true then _ else _) _ _ s
  rw [seq_types_dq]
  simp only [Bool.not_true, Bool.false_eq_true, if_false]
  refine wpAny_bind (wpAny_specialOf (T := "int") (typeIs_int s 0 t) int_index ?_)
  simp only [Option.isNone_some, Bool.false_eq_true, if_false]
  refine wpAny_bind (wpAny_rule ?_)
  refine wpAny_runValue (codeAny_builtin entry_proto_index ?_)
  rw [Around.under_plainId (by decide +kernel) _]
  unfold Builtin.«proto.index»
  refine wpAny_bind (m := asIndex _) (wpAny_of_eq (a := (0 : Int)) rfl ?_)
  show wpAny _ _ (if (decide ((0 : Int) < -(2 ^ 63)) || decide ((0 : Int) ≥ 2 ^ 63)) = true then _ else _) _ _ s
  rw [if_neg (by decide)]
  exact wpAny_bind (wpAny_mkInt (wpAny_pure h))
theorem dq_getItem0 {t : Tok} {Q : Value → Shared → Prop} (ho : s.heap.get? a = some (dqObj k (v :: vs))) (h : Q v { s with toks := s.toks + 1 }) : wpAny (model prog w) A (getItem (.ref a) (.int 0 t)) Q E s := by
  have hT := dq_typeIs ho
  unfold getItem
  try with_reducible refine wpAny_holding ?_
  first | refine wpAny_bind (wpAny_pure ?_) | skip
  refine wpAny_bind (dq_key ho ?_)
  refine wpAny_bind (wpAny_callSpecial?_slot (name := Str.ofString "__getitem__") hT slot_dq_getitem
    (wpAny_call_entry slot_dq_getitem hT entry_dq_getitem ?_ (args_dq_getitem _ _)))
  unfold Builtin.«collections.deque.__getitem__»
  refine wpAny_bind (m := slotArgs "__getitem__" 1 _) (wpAny_pure ?_)
  refine wpAny_bind ?_
  show wpAny _ _ (asIndex (.int 0 _) >>= _) _ _ _
  refine wpAny_bind (wpAny_of_eq (a := (0 : Int)) rfl ?_)
  show wpAny _ _ (Deque.size (.ref a) >>= _) _ _ _
  refine wpAny_bind (dq_sizeOf ho ?_)
  have e : seqIndex? 0 (v :: vs).length = some 0 := seqIndex_of (by decide) (by simp only [List.length_cons]; omega)
  rw [e]
  refine wpAny_pure ?_
  refine wpAny_bind (dq_items ho ?_)
  refine wpAny_pure ⟨v, ?_, ?_⟩
  · simp [Array.getD]
  · first
      | exact wpAny_pure h
      | exact wpAny_bind (wpAny_pure (wpAny_pure h))
theorem dq_noDict : typeHasDict (.type "collections.deque") = false := by decide +kernel
-- ## deque(list)
theorem meets_dqnew {x : Value} : Meets (Builtin.«collections.deque.__new__» ⟨[.type "collections.deque", x], []⟩) (fun _ R s =>
      R (.ok (.ret (.ref s.heap.objs.size))) { s with heap := s.heap.push (dqObj 0 []) }) :=
  .of_wp fun prog w A R s h => by
    unfold Builtin.«collections.deque.__new__»
    refine wpAny_bind (m := Deque.newArgs Deque.ty _) ?_
    · unfold Deque.newArgs
      refine wpAny_bind (m := isType _) (wpAny_of_eq (a := true) (by rfl) ?_)
      refine wpAny_bind (m := isSubtype _ _) (wpAny_of_eq (a := true) called_deque.sub ?_)
      refine wpAny_pure ?_
      refine wpAny_bind (m := Deque.new _ _ _) ?_
      unfold Deque.new
      refine wpAny_bind (m := if typeHasDict (.type "collections.deque") = true then some <$> alloc { cls := .type "dict", data := .dict #[] } else pure none) (wpAny_of_eq (a := none) (by rw [dq_noDict]; rfl) ?_)
      exact wpAny_newObj_type (wpAny_pure ⟨_, rfl, h⟩) (by size_fits)
end
end Inj
end
section
open PySem PySem.W PyProof.Rows PySem.Builtin
namespace Inj
section
variable {prog : Program} {w : World} {A : Around} {E : Value → Shared → Prop} {s : Shared} {a : Addr} {k : Int} {vs : List Value} {v : Value}
theorem plain_dq_loop : plainId "collections.deque.extend.loop" = true := by decide +kernel
theorem plain_dq_extend : plainId "collections.deque.extend" = true := by decide +kernel
theorem dq_push {M : Model} {Q : Unit → Shared → Prop} (ho : s.heap.get? a = some (dqObj k vs)) (hz : vs.length + 1 ≤ sizeLine)
    (h : ∀ h', h'.get? a = some (dqObj (k + 1) (vs ++ [v])) → Heap.SameBut a s.heap h' → Q () { s with heap := h' }) : wpAny M A (Deque.pushRight (.ref a) v) Q E s := by
  unfold Deque.pushRight
  refine wpAny_bind (dq_changed ho (vs' := vs ++ [v]) (by simp) (by simp only [List.length_append, List.length_singleton]; exact hz) fun h' ho' hs' => ?_)
  refine wpAny_bind (dq_maxlen (s := { s with heap := h' }) ho' ?_)
  exact wpAny_pure (h h' ho' hs')
theorem dq_loop {l it : Addr} {xs : List Value} (hh : A.handled = none) (hal : a ≠ l) (hai : a ≠ it) (hil : it ≠ l) (hz : xs.length ≤ sizeLine) {R : Result → Shared → Prop} :
    ∀ (rem done : List Value) (k : Int) (s : Shared), xs = done ++ rem → s.heap.get? a = some (dqObj k done) → s.heap.IsListIter it l done.length → s.heap.IsList l xs.toArray →
      (∀ h', h'.get? a = some (dqObj (k + rem.length) xs) → (∀ b o, b ≠ a → b ≠ it → s.heap.get? b = some o → h'.get? b = some o) → R (.ok (.ret .none)) { s with heap := h' }) →
      codeAny (model prog w) A (.builtin "collections.deque.extend.loop" ⟨[.ref a, .ref it, .none], []⟩) R s := by
  intro rem
  induction rem with
  | nil =>
    intro done k s e ho hit hl h
    rw [List.append_nil] at e
    subst e
    refine codeAny_builtin entry_dq_extend_loop ?_
    rw [Around.under_plainId plain_dq_loop _]
    show wpAny _ _ ((pure Value.none : Sem Value) >>= fun first => pyNext (.ref it) >>= fun r => match r with
      | none => ret .none
      | some x => _) _ _ s
    refine wpAny_bind (wpAny_pure ?_)
    refine wpAny_bind (wpAny_pyNext_list_end (A := A.in1) hh hit hl (by simp) fun h' hs' => ?_)
    exact wpAny_pure (h h' (by simpa using hs' a _ hai ho) fun b o _ hb e => hs' b o hb e)
  | cons x r ih =>
    intro done k s e ho hit hl h
    refine codeAny_builtin entry_dq_extend_loop ?_
    rw [Around.under_plainId plain_dq_loop _]
    show wpAny _ _ ((pure Value.none : Sem Value) >>= fun first => pyNext (.ref it) >>= fun r => match r with
      | none => ret .none
      | some x => _) _ _ s
    refine wpAny_bind (wpAny_pure ?_)
    have hx : xs.toArray[done.length]? = some x := by rw [e]; simp
    refine wpAny_bind (wpAny_pyNext_list_item hit hl hx fun h₁ hit₁ hs₁ => ?_)
    have ho₁ : h₁.get? a = some (dqObj k done) := (hs₁.2 a hai).trans ho
    show wpAny _ _ (field (.ref a) 0 >>= _) _ _ _
    refine wpAny_bind (dq_field0 (s := { s with heap := h₁ }) ho₁ ?_)
    have hnn : (Value.none != Value.none) = false := by rfl
    simp only [hnn, Bool.false_eq_true, if_false]
    first
      | refine wpAny_bind (dq_maxlen (s := { s with heap := h₁ }) ho₁ ?_)
      | refine wpAny_bind (wpAny_pure (wpAny_bind (dq_maxlen (s := { s with heap := h₁ }) ho₁ ?_)))
    have hnz : ((none : Option Nat) != some 0) = true := by rfl
    simp only [hnz, if_true]
    have hlen : done.length + 1 ≤ sizeLine := by
      have := congrArg List.length e
      simp only [List.length_append, List.length_cons] at this
      omega
    refine wpAny_bind (dq_push (s := { s with heap := h₁ }) ho₁ hlen fun h₂ ho₂ hs₂ => ?_)
    refine wpAny_pure ⟨plainId_quiet plain_dq_loop _, ?_⟩
    refine ih (done ++ [x]) (k + 1) { s with heap := h₂ } (by rw [e]; simp) ho₂ ?_ ?_ ?_
    · have : (done ++ [x]).length = done.length + 1 := by simp
      rw [this]
      exact hit₁.extBut hs₂.extBut (Ne.symm hai)
    · exact (hl.extBut hs₁.extBut hil.symm).extBut hs₂.extBut (Ne.symm hal)
    · intro h' ho' hk
      refine h h' ?_ fun b o hb hb' e' => hk b o hb hb' ((hs₂.2 b hb).trans ((hs₁.2 b hb').trans e'))
      have : k + 1 + (r.length : Int) = k + ((x :: r).length : Int) := by simp only [List.length_cons]; omega
      rw [this] at ho'
      exact ho'
theorem meets_dqinit {l : Addr} {xs : List Value} : Meets (Builtin.«collections.deque.__init__» ⟨[.ref a, .ref l], []⟩) (fun A R s => A.handled = none ∧ s.heap.get? a = some (dqObj 0 []) ∧ s.heap.IsList l xs.toArray ∧ xs.length ≤ sizeLine ∧
      ∀ h', h'.get? a = some (dqObj xs.length xs) → (∀ b o, b ≠ a → s.heap.get? b = some o → h'.get? b = some o) → R (.ok (.ret .none)) { s with heap := h' }) :=
  .of_wp fun prog w A R s hs => by
    obtain ⟨hh, ho, hl, hz, h⟩ := hs
    have hal : a ≠ l := by
      rintro rfl
      obtain ⟨o, e1, e2, _⟩ := hl
      rw [ho] at e1
      cases e1
      exact absurd (Value.type.inj e2) (by decide)
    show wpAny _ _ (setField (.ref a) 0 .none >>= fun _ => Deque.clear (.ref a) >>= fun _ => Deque.extend (.ref a) (.ref l) >>= fun _ => ret .none) _ _ s
    refine wpAny_bind (wpAny_setField_rec ho (by simp) fun h₁ ho₁ hs₁ => ?_)
    replace ho₁ : h₁.get? a = some (dqObj 0 []) := by rw [ho₁]; rfl
    refine wpAny_bind ?_
    · unfold Deque.clear
      refine wpAny_bind (dq_items (s := { s with heap := h₁ }) ho₁ ?_)
      show wpAny _ _ (if ([] : List Value).toArray.size > 0 then _ else _) _ _ _
      rw [if_neg (by simp)]
      refine wpAny_pure ?_
      refine wpAny_bind ?_
      unfold Deque.extend
      refine wpAny_bind ?_
      have hl₁ : h₁.IsList l xs.toArray := hl.extBut hs₁.extBut (Ne.symm hal)
      refine wpAny_runValue (codeAny_builtin entry_dq_extend ?_)
      rw [Around.under_plainId plain_dq_extend _]
      unfold Builtin.«collections.deque.extend»
      refine wpAny_bind (m := selfAndOne "deque.extend" _) (wpAny_pure ?_)
      have hne : (Value.ref a == Value.ref l) = false := by
        simp only [beq_eq_false_iff_ne, ne_eq, Value.ref.injEq]; exact hal
      simp only [hne, Bool.false_eq_true, if_false]
      first
        | refine wpAny_bind (dq_field0 (s := { s with heap := h₁ }) ho₁ ?_)
        | refine wpAny_bind (wpAny_pure (wpAny_bind (dq_field0 (s := { s with heap := h₁ }) ho₁ ?_)))
      refine wpAny_bind (wpAny_pyIter_list (s := { s with heap := h₁ }) hl₁ ?_)
      refine wpAny_pure ⟨plainId_quiet plain_dq_loop _, ?_⟩
      have lta : a < h₁.objs.size := Heap.lt_size ho₁
      have ltl : l < h₁.objs.size := by obtain ⟨o, e, _⟩ := hl₁; exact Heap.lt_size e
      refine dq_loop (A := A.in1) hh hal (Nat.ne_of_lt lta) (Nat.ne_of_gt ltl) hz xs [] 0 _ rfl ?_ ⟨_, Heap.get?_push_size _ rfl, rfl, rfl⟩ (hl₁.push _) ?_
      · exact Heap.get?_push_of_some _ ho₁
      · intro h₂ ho₂ hk₂
        refine wpAny_pure (wpAny_pure ⟨_, rfl, h h₂ ?_ fun b o hb e => hk₂ b o hb ?_ ?_⟩)
        · rw [Int.zero_add] at ho₂; exact ho₂
        · have := Heap.lt_size e
          rw [← hs₁.1] at this
          exact Nat.ne_of_lt this
        · exact Heap.get?_push_of_some _ ((hs₁.2 b hb).trans e)
theorem call_deque {l : Addr} {xs : List Value} {Q : Value → Shared → Prop} (hh : A.handled = none) (hl : s.heap.IsList l xs.toArray) (hz : xs.length ≤ sizeLine)
    (h : ∀ d h', d = s.heap.objs.size → h'.get? d = some (dqObj xs.length xs) → (∀ b o, s.heap.get? b = some o → h'.get? b = some o) → Q (.ref d) { s with heap := h' }) :
    wpAny (model prog w) A (call (.type "collections.deque") [.ref l]) Q E s := by
  refine callType_meets (Q₁ := fun obj s₁ => obj = .ref s.heap.objs.size ∧ s₁ = { s with heap := s.heap.push (dqObj 0 []) }) called_deque (typeCall_deque _) (newCall_deque _) entry_dq_new entry_dq_init meets_dqnew ⟨rfl, rfl⟩ ?_
  rintro obj s₁ ⟨rfl, rfl⟩
  refine ⟨⟨_, Heap.get?_push_size _ rfl, rfl⟩, args_dq_init _ _, _, meets_dqinit (xs := xs), hh, Heap.get?_push_size _ rfl, hl.push _, hz, fun h' ho' hk => ⟨rfl, h _ h' rfl ho' fun b o e => hk b o ?_ ?_⟩⟩
  · exact Nat.ne_of_lt (Heap.lt_size e)
  · exact Heap.get?_push_of_some _ e
end
end Inj
end
section
open PySem PySem.W PyProof.Rows PySem.Builtin PySem.Builtin.Re
namespace Inj
theorem runFor_done {m : Sre.M} (h : m.outcome.isSome = true) : ∀ n, Sre.M.runFor n m = m
  | 0 => rfl
  | n + 1 => by unfold Sre.M.runFor; rw [if_pos h]
theorem runFor_add : ∀ (a b : Nat) (m : Sre.M), Sre.M.runFor (a + b) m = Sre.M.runFor b (Sre.M.runFor a m)
  | 0, b, m => by rw [Nat.zero_add]; rfl
  | a + 1, b, m => by
    have e : a + 1 + b = (a + b) + 1 := by omega
    rw [e]
    cases h : m.outcome.isSome with
    | true => rw [runFor_done h, runFor_done h, runFor_done h]
    | false =>
      show (if m.outcome.isSome = true then m else Sre.M.runFor (a + b) m.step) = Sre.M.runFor b (if m.outcome.isSome = true then m else Sre.M.runFor a m.step)
      rw [h]
      exact runFor_add a b m.step
section
variable {α : Type} {M : Model} {prog : Program} {w : World} {A : Around} {E : Value → Shared → Prop} {s : Shared}
theorem drive {Q : Sre.M → Shared → Prop} : ∀ (n turns : Nat) (m : Sre.M), n ≤ turns → 1 ≤ n → (Sre.M.runFor (4 * n) m).outcome.isSome = true → Q (Sre.M.runFor (4 * n) m) s → wpAny M A (reDrive turns m) Q E s := by
  intro n
  induction n with
  | zero => intro turns m _ h1; omega
  | succ n ih =>
    intro turns m hle _ ho hq
    obtain ⟨t, rfl⟩ : ∃ t, turns = t + 1 := ⟨turns - 1, by omega⟩
    have e : Sre.M.runFor (4 * (n + 1)) m = Sre.M.runFor (4 * n) (Sre.M.runFor 4 m) := by
      rw [← runFor_add]; congr 1; omega
    show wpAny M A (if (Sre.M.runFor 4 m).outcome.isSome = true then pure (Sre.M.runFor 4 m) else (rule "sre.turn" >>= fun _ => reDrive t (Sre.M.runFor 4 m))) Q E s
    cases h : (Sre.M.runFor 4 m).outcome.isSome with
    | true =>
      rw [if_pos rfl]
      rw [e, runFor_done h] at hq
      exact wpAny_pure hq
    | false =>
      rw [if_neg Bool.false_ne_true]
      refine wpAny_bind (wpAny_rule ?_)
      rw [e] at ho hq
      refine ih t _ (by omega) ?_ ho hq
      rcases n with _ | n
      · rw [Nat.mul_zero] at ho
        have : (Sre.M.runFor 0 (Sre.M.runFor 4 m)) = Sre.M.runFor 4 m := rfl
        rw [this, h] at ho
        cases ho
      · omega
def reM (code : Array Nat) (groups : Nat) (x : Str) : Sre.M := Sre.M.runFor (4 * 200) (Sre.forMatch code x.cps groups 0 x.cps.size false false)
def spansOf (groups : Nat) (m : Sre.M) : List Value := (List.range groups).flatMap fun g =>
    match if ((2 * g + 1 : Nat) : Int) ≤ m.lastmark then (m.marks.getD (2 * g) none, m.marks.getD (2 * g + 1) none) else (none, none) with
    | (some b, some e) => [rawInt b, rawInt e]
    | _ => [rawInt (-1), rawInt (-1)]
def wrongSpan (groups : Nat) (m : Sre.M) : Bool := (List.range groups).any (fun g => match m.marks.getD (2 * g) none, m.marks.getD (2 * g + 1) none with | some b, some e => ((2 * g + 1 : Nat) : Int) ≤ m.lastmark && e < b | _, _ => false)
def reS (groups : Nat) (m : Sre.M) : Option (Option (Int × List Value)) :=
  match m.outcome with
  | some .matched => if wrongSpan groups m then none else some (some (m.lastindex, rawInt m.start :: rawInt m.handed :: spansOf groups m))
  | some .failed => some none
  | _ => none
theorem runToEnd {Q : Option Sre.M → Shared → Prop} {m : Sre.M} {r : Option Sre.M}
    (h : (match (Sre.M.runFor (4 * 200) m).outcome with | some .matched => r = some (Sre.M.runFor (4 * 200) m) | some .failed => r = none | _ => False)) (hq : Q r s) : wpAny M A (reRunToEnd m) Q E s := by
  unfold reRunToEnd
  have hs : (Sre.M.runFor (4 * 200) m).outcome.isSome = true := by
    cases ho : (Sre.M.runFor (4 * 200) m).outcome with
    | none => rw [ho] at h; exact h.elim
    | some o => rfl
  refine wpAny_bind (drive 200 (2 ^ 64) m (by decide) (by decide) hs ?_)
  refine wpAny_bind (wpAny_mono (wpAny_forIn_list (E := E) (s := s) _ (fun _ _ s' => s' = s) (fun _ s' => s' = s) (fun x rest b s' hs' => ?_) (fun _ _ h => h) _ _ rfl) (fun _ s' hs' => ?_) fun _ _ e => e)
  · replace hs' : s' = s := hs'
    subst hs'
    by_cases hc : (Sre.M.runFor (4 * 200) m).seen.has x = true
    · rw [if_pos hc]; exact wpAny_bind (wpAny_rule (wpAny_pure rfl))
    · rw [if_neg hc]; exact wpAny_pure rfl
  · replace hs' : s' = s := hs'
    subst hs'
    cases ho : (Sre.M.runFor (4 * 200) m).outcome with
    | none => rw [ho] at hs; cases hs
    | some o =>
      rw [ho] at h
      cases o with
      | matched => subst h; exact wpAny_pure hq
      | failed => subst h; exact wpAny_pure hq
      | stuck => exact h.elim
end
end Inj
end
section
open PySem PySem.W PyProof.Rows PySem.Builtin PySem.Builtin.Re
namespace Inj
abbrev tupObj (vs : List Value) : Obj := { cls := .type "tuple", data := .seq vs.toArray }
abbrev patObj (c : Addr) (src : Value) (fl gr : Int) (t₁ : Tok) : Obj := { cls := .type "re.Pattern", data := .fields #[src, .int fl t₁, .int gr 0, .none, .none, .ref c, .int 0 0] }
abbrev matObj (x : Str) (t : Tok) (p : Addr) (lim : Nat) (li : Int) (c : Addr) : Obj := { cls := .type "re.Match", data := .fields #[.str x t, .ref p, .int 0 0, .int lim 0, .int li 0, .ref c] }
section
variable {prog : Program} {w : World} {A : Around} {E : Value → Shared → Prop} {s : Shared}
theorem rawItems {M : Model} {c : Addr} {vs : List Value} {Q : Array Int → Shared → Prop} (hc : s.heap.get? c = some (tupObj vs)) (h : Q (vs.map reRawOf).toArray s) : wpAny M A (reRawItems (.ref c)) Q E s := by
  unfold reRawItems
  refine wpAny_bind (wpAny_seqItems hc rfl (wpAny_pure ?_))
  simpa using h
theorem target {M : Model} {p c : Addr} {src : Value} {fl gr : Int} {t₁ t : Tok} {x : Str} {vs : List Value} {Q : ReTarget → Shared → Prop} (hp : s.heap.get? p = some (patObj c src fl gr t₁)) (hc : s.heap.get? c = some (tupObj vs)) (hx : x.cps.size < 2 ^ 63 - 1)
    (h : Q ⟨.ref p, .str x t, (vs.map fun v => (reRawOf v).toNat).toArray, x.cps, 0, gr.toNat, 0, x.cps.size⟩ s) : wpAny M A (reTarget "re.Pattern.match" "match" ⟨[.ref p, .str x t], []⟩) Q E s := by
  unfold reTarget
  refine wpAny_bind (m := reNamed _ _ _ _ _ _) (wpAny_of_eq (a := [some (.str x t), none, none]) (by rfl) ?_)
  refine wpAny_bind (wpAny_pure ?_)
  refine wpAny_bind (wpAny_pure ?_)
  refine wpAny_bind (wpAny_fieldsOf hp rfl ?_)
  refine wpAny_bind (m := reTextOf _) (wpAny_of_eq (a := (x.cps, 0)) (by rfl) ?_)
  show wpAny M A (reNoCollectionInside (.str x t) 0 >>= fun _ => reRawItems (.ref c) >>= fun a => pure (ReTarget.mk (.ref p) (.str x t) (a.map (·.toNat)) x.cps 0 gr.toNat (min (0 : Int).toNat x.cps.size) (min ((2 ^ 63 - 1 : Int)).toNat x.cps.size))) Q E s
  refine wpAny_bind (wpAny_of_eq (a := ()) (by rfl) ?_)
  refine wpAny_bind (rawItems hc ?_)
  refine wpAny_pure ?_
  have e1 : min ((2 ^ 63 - 1 : Int)).toNat x.cps.size = x.cps.size := by
    apply Nat.min_eq_right
    have : ((2 ^ 63 - 1 : Int)).toNat = 2 ^ 63 - 1 := by decide
    omega
  have e2 : min (0 : Int).toNat x.cps.size = 0 := by simp
  rw [e1, e2]
  have e3 : Array.map (·.toNat) (List.map reRawOf vs).toArray = (vs.map fun v => (reRawOf v).toNat).toArray := by simp [Function.comp_def]
  rw [e3]
  exact h
theorem reS_none {gr : Nat} {m : Sre.M} (h : reS gr m = some none) : m.outcome = some .failed := by
  unfold reS at h
  split at h
  · split at h <;> cases h
  · assumption
  · cases h
theorem reS_some {gr : Nat} {m : Sre.M} {li : Int} {vs : List Value} (h : reS gr m = some (some (li, vs))) :
    m.outcome = some .matched ∧ wrongSpan gr m = false ∧ m.lastindex = li ∧ rawInt m.start :: rawInt m.handed :: spansOf gr m = vs := by
  unfold reS at h
  split at h
  · rename_i ho
    split at h
    · cases h
    · rename_i hw
      injection h with h
      injection h with h
      injection h with h1 h2
      exact ⟨ho, by simpa using hw, h1, h2⟩
  · cases h
  · cases h
theorem newMatch {M : Model} {p : Addr} {x : Str} {t : Tok} {gr lim : Nat} {m : Sre.M} {li : Int} {vs : List Value} {Q : Value → Shared → Prop} (hr : reS gr m = some (some (li, vs))) (hz : vs.length ≤ 100)
    (h : Q (.ref (s.heap.objs.size + 1)) { s with heap := (s.heap.push (tupObj vs)).push (matObj x t p lim li s.heap.objs.size) }) : wpAny M A (reNewMatch (.ref p) (.str x t) gr 0 lim m) Q E s := by
  obtain ⟨_, hw, rfl, rfl⟩ := reS_some hr
  unfold reNewMatch
  show wpAny M A (if wrongSpan gr m = true then _ else _) Q E s
  rw [hw]
  simp only [Bool.false_eq_true, if_false]
  first
    | refine wpAny_bind (m := newTuple _) ?_
    | refine wpAny_bind (wpAny_pure (wpAny_bind (m := newTuple _) ?_))
  refine wpAny_newObj_type ?_ ?_
  · refine wpAny_newObj_type ?_ (by size_fits)
    have : (s.heap.push (tupObj (rawInt m.start :: rawInt m.handed :: spansOf gr m))).objs.size = s.heap.objs.size + 1 := Heap.size_push ..
    show Q (.ref (s.heap.push (tupObj (rawInt m.start :: rawInt m.handed :: spansOf gr m))).objs.size) _
    rw [this]
    exact h
  · show (rawInt m.start :: rawInt m.handed :: spansOf gr m).toArray.size ≤ sizeLine
    rw [List.size_toArray, sizeLine_eq]; omega
/-- what the pattern's match gives for one text -/
def PatRes (codeL : List Nat) (gr : Nat) (x : Str) (r : Option (Int × List Value)) : Prop := reS gr (reM codeL.toArray gr x) = some r
theorem meets_match {p c : Addr} {src : Value} {fl gr : Int} {t₁ t : Tok} {x : Str} {cs : List Value} {r : Option (Int × List Value)} (hx : x.cps.size < 2 ^ 63 - 1)
    (hr : PatRes (cs.map fun v => (reRawOf v).toNat) gr.toNat x r) (hz : ∀ y, r = some y → y.2.length ≤ 100) :
    Meets (Builtin.«re.Pattern.match» ⟨[.ref p, .str x t], []⟩) (fun _ R s => s.heap.get? p = some (patObj c src fl gr t₁) ∧ s.heap.get? c = some (tupObj cs) ∧
      match r with
      | none => R (.ok (.ret .none)) s
      | some (li, vs) => R (.ok (.ret (.ref (s.heap.objs.size + 1)))) { s with heap := (s.heap.push (tupObj vs)).push (matObj x t p x.cps.size li s.heap.objs.size) }) :=
  .of_wp fun prog w A R s hs => by
    obtain ⟨hp, hc, h⟩ := hs
    unfold Builtin.«re.Pattern.match»
    refine wpAny_bind (target hp hc hx ?_)
    show wpAny _ _ (reAnswer _ (Sre.forMatch (cs.map fun v => (reRawOf v).toNat).toArray x.cps gr.toNat 0 x.cps.size false false)) _ _ s
    unfold reAnswer
    cases r with
    | none =>
      have ho := reS_none hr
      refine wpAny_bind (runToEnd (r := none) ?_ ?_)
      · have : (Sre.M.runFor (4 * 200) (Sre.forMatch (cs.map fun v => (reRawOf v).toNat).toArray x.cps gr.toNat 0 x.cps.size false false)).outcome = some .failed := ho
        rw [this]
      · exact wpAny_pure ⟨_, rfl, h⟩
    | some y =>
      obtain ⟨li, vs⟩ := y
      have ho := (reS_some hr).1
      refine wpAny_bind (runToEnd (r := some (reM (cs.map fun v => (reRawOf v).toNat).toArray gr.toNat x)) ?_ ?_)
      · have : (Sre.M.runFor (4 * 200) (Sre.forMatch (cs.map fun v => (reRawOf v).toNat).toArray x.cps gr.toNat 0 x.cps.size false false)).outcome = some .matched := ho
        rw [this]
        rfl
      · refine wpAny_bind (newMatch hr (hz _ rfl) ?_)
        exact wpAny_pure ⟨_, rfl, h⟩
theorem pat_match {p c : Addr} {src : Value} {fl gr : Int} {t₁ : Tok} {cs : List Value} {pos : Pos} {e : Sem Value} {Q : Value → Shared → Prop}
    (hT : s.heap.get? p = some (patObj c src fl gr t₁))
    (h : wpAny (model prog w) A e (fun v s₁ => ∃ x t r, v = .str x t ∧ x.cps.size < 2 ^ 63 - 1 ∧ PatRes (cs.map fun v => (reRawOf v).toNat) gr.toNat x r ∧ (∀ y, r = some y → y.2.length ≤ 100) ∧ s₁.heap.get? p = some (patObj c src fl gr t₁) ∧ s₁.heap.get? c = some (tupObj cs) ∧
      match r with
      | none => Q .none s₁
      | some (li, vs) => Q (.ref (s₁.heap.objs.size + 1)) { s₁ with heap := (s₁.heap.push (tupObj vs)).push (matObj x t p x.cps.size li s₁.heap.objs.size) }) E s) :
    MethodOnS prog w A E "match" (.ref p) pos [(false, e)] Q s := by
  refine ⟨"re.Pattern", _, plain_pattern, slot_pat_match, type_pat_match, ⟨_, hT, rfl⟩, fun b e => ⟨_, by cases e; exact hT, rfl⟩, ?_⟩
  refine method1_meets slot_pat_match entry_pat_match (wpAny_mono h (fun v s₁ hv => ?_) fun _ _ e => e)
  obtain ⟨x, t, r, rfl, hx, hr, hz, hp, hc, hq⟩ := hv
  refine ⟨⟨_, hp, rfl⟩, args_pat_match _ _, _, meets_match hx hr hz, hp, hc, ?_⟩
  cases r with
  | none => exact hq
  | some y => exact hq
-- ## group
theorem meets_group {a p c : Addr} {x : Str} {t u : Tok} {lim : Nat} {li : Int} {vs : List Value} {g : Int} {b e : Nat} (h0 : 0 ≤ g) (hg : 2 * g < vs.length)
    (hb : vs[2 * g.toNat]? = some (.int b 0)) (he : vs[2 * g.toNat + 1]? = some (.int e 0)) (hz : x.cps.size ≤ sizeLine) :
    Meets (Builtin.«re.Match.group» ⟨[.ref a, .int g u], []⟩) (fun _ R s => s.heap.get? a = some (matObj x t p lim li c) ∧ s.heap.get? c = some (tupObj vs) ∧
      R (.ok (.ret (.str ⟨x.cps.extract b e⟩ s.toks))) { s with toks := s.toks + 1 }) :=
  .of_wp fun prog w A R s hs => by
    obtain ⟨ha, hc, h⟩ := hs
    unfold Builtin.«re.Match.group»
    refine wpAny_bind (m := noKeywords _ _) (wpAny_pure ?_)
    refine wpAny_bind (m := reFound _) ?_
    unfold reFound
    refine wpAny_bind (wpAny_fieldsOf ha rfl ?_)
    refine wpAny_bind (rawItems (vs := vs) hc (wpAny_pure ?_))
    refine wpAny_bind (m := reGroupNumber _ _) ?_
    unfold reGroupNumber
    refine wpAny_bind (m := asInt? _) (wpAny_of_eq (a := some g) (by rfl) ?_)
    simp only [Option.isSome_some, if_true]
    refine wpAny_bind (m := asIndex _) (wpAny_of_eq (a := g) (by rfl) ?_)
    have hc1 : (decide (g < 0) || decide (2 * g ≥ (((List.map reRawOf vs).toArray.size : Nat) : Int))) = false := by
      simp only [Bool.or_eq_false_iff, decide_eq_false_iff_not, List.size_toArray, List.length_map]
      omega
    simp only [hc1, Bool.false_eq_true, if_false]
    refine wpAny_pure ?_
    have eb : (List.map reRawOf vs).toArray.getD (2 * g.toNat) (-1) = (b : Int) := by
      simp [Array.getD_eq_getD_getElem?, hb, reRawOf]
    have ee : (List.map reRawOf vs).toArray.getD (2 * g.toNat + 1) (-1) = (e : Int) := by
      simp [Array.getD_eq_getD_getElem?, he, reRawOf]
    refine wpAny_bind (m := reGroupText _ _ _) ?_
    unfold reGroupText
    simp only [eb, ee]
    have hn : (decide ((b : Int) < 0) || decide ((e : Int) < 0)) = false := by
      simp only [Bool.or_eq_false_iff, decide_eq_false_iff_not]; omega
    simp only [hn, Bool.false_eq_true, if_false]
    refine wpAny_bind (m := reTextOf _) (wpAny_of_eq (a := (x.cps, 0)) (by rfl) ?_)
    show wpAny _ _ (mkStr ⟨x.cps.extract (b : Int).toNat (e : Int).toNat⟩) _ _ s
    simp only [Int.toNat_natCast]
    refine wpAny_mkStr (wpAny_pure ⟨_, rfl, h⟩) ?_
    show (x.cps.extract b e).size ≤ sizeLine
    rw [Array.size_extract]; omega
theorem mat_group {a p c : Addr} {x : Str} {t : Tok} {lim : Nat} {li : Int} {vs : List Value} {pos : Pos} {ex : Sem Value} {Q : Value → Shared → Prop}
    (hT : s.heap.get? a = some (matObj x t p lim li c))
    (h : wpAny (model prog w) A ex (fun v s₁ => ∃ g u, ∃ b e : Nat, v = .int g u ∧ 0 ≤ g ∧ 2 * g < vs.length ∧ vs[2 * g.toNat]? = some (.int b 0) ∧ vs[2 * g.toNat + 1]? = some (.int e 0) ∧ x.cps.size ≤ sizeLine ∧
      s₁.heap.get? a = some (matObj x t p lim li c) ∧ s₁.heap.get? c = some (tupObj vs) ∧ Q (.str ⟨x.cps.extract b e⟩ s₁.toks) { s₁ with toks := s₁.toks + 1 }) E s) :
    MethodOnS prog w A E "group" (.ref a) pos [(false, ex)] Q s := by
  refine ⟨"re.Match", _, plain_match, slot_mat_group, type_mat_group, ⟨_, hT, rfl⟩, fun b e => ⟨_, by cases e; exact hT, rfl⟩, ?_⟩
  refine method1_meets slot_mat_group entry_mat_group (wpAny_mono h (fun v s₁ hv => ?_) fun _ _ e => e)
  obtain ⟨g, u, b, e, rfl, h0, hg, hb, he, hz, ha, hc, hq⟩ := hv
  exact ⟨⟨_, ha, rfl⟩, args_mat_group _ _, _, meets_group h0 hg hb he hz, ha, hc, hq⟩
end
end Inj
end
section
open PySem PySem.W PyProof.Rows
namespace Inj
-- ## the text's parts, read off the row
def nth : List Stmt → Nat → Stmt
  | [], _ => .Pass default
  | s :: _, 0 => s
  | _ :: r, n + 1 => nth r n
def dparams : Stmt → Arguments | .FunctionDef _ a .. => a | _ => default
def dbody : Stmt → List Stmt | .FunctionDef _ _ b .. => b | _ => []
def dscope : Stmt → Scope | .FunctionDef _ _ _ _ _ _ sc .. => sc | _ => default
def inBody : Stmt → List Stmt | .For _ _ b .. => b | .While _ b .. => b | .If _ b .. => b | _ => []
def inElse : Stmt → List Stmt | .For _ _ _ b .. => b | .While _ _ b .. => b | .If _ _ b .. => b | _ => []
def defAt (i : Nat) : Stmt := nth Challenge.pw_eu0025_01.main.body i
/-- a plain def of the text at an address -/
def FnAt (b : Heap) (f : Addr) (name : Str) (i : Nat) : Prop :=
  ∃ o pm cd doc, b.get? f = some o ∧ o.data = .func (Calls.docDef name (dparams (defAt i)) (dbody (defAt i)) (dscope (defAt i)) pm cd doc) ∧ b.CodeRec cd name
def Keeps (h h' : Heap) : Prop := ∀ b o, h.get? b = some o → h'.get? b = some o
theorem Keeps.refl (h : Heap) : Keeps h h := fun _ _ e => e
theorem Keeps.trans {h₁ h₂ h₃ : Heap} (a : Keeps h₁ h₂) (b : Keeps h₂ h₃) : Keeps h₁ h₃ := fun x o e => b x o (a x o e)
theorem Keeps.push {h h' : Heap} (a : Keeps h h') (o : Obj) : Keeps h (h'.push o) := fun x o' e => Heap.get?_push_of_some o (a x o' e)
theorem FnAt.keeps {b b' : Heap} {f : Addr} {name : Str} {i : Nat} (x : FnAt b f name i) (k : Keeps b b') : FnAt b' f name i :=
  let ⟨o, pm, cd, doc, e, d, c⟩ := x; ⟨o, pm, cd, doc, k _ _ e, d, c.keeps k⟩
def lawNames : List Str := ["echo", "pool", "args", "kw", "other", "note"]
def lawTexts : List Str := [".. versionadded:: 2.1", "Old.", "see: the end::"]
def lawStars : List Str := ["", "*", "**"]
def paramCode : List Nat := [14, 4, 0, 10, 4294967295, 17, 0, 24, 9, 1, 4294967295, 13, 4, 8, 12, 0, 1, 17, 1, 16, 58, 16, 112, 16, 97, 16, 114, 16, 97, 16, 109, 16, 32, 17, 2, 26, 5, 1, 4294967295, 2, 1, 17, 3, 16, 58, 1]
def twinCode : List Nat := [14, 4, 0, 2, 4294967295, 17, 0, 24, 9, 1, 4294967295, 13, 4, 8, 12, 0, 1, 17, 1, 13, 4, 8, 13, 0, 1]
def codeVals (l : List Nat) : List Value := l.map fun (n : Nat) => Value.int n 0
theorem codeVals_back (l : List Nat) : (codeVals l).map (fun v => (Builtin.Re.reRawOf v).toNat) = l := by
  unfold codeVals
  rw [List.map_map]
  induction l with
  | nil => rfl
  | cons n r ih => rw [List.map_cons, ih]; rfl
/-- what stands at the call's start -/
structure Bs (mg mb : Str → Option Value) (b : Heap) : Prop where
  g : b.Ns mainGlobals mg
  bi : b.Ns builtinsNs mb
  lim : b.NoLimit
  gPick : mg "_law_pick" = some (.ref 76)
  gNames : mg "_law_names" = some (.ref 55)
  gTexts : mg "_law_texts" = some (.ref 62)
  gStars : mg "_law_stars" = some (.ref 69)
  gInj : mg "inject_param_text" = some (.ref 54)
  gDeque : mg "deque" = some (.type "collections.deque")
  gParam : mg "_param_reg" = some (.ref 47)
  gTwin : mg "_twin_re_2" = some (.ref 42)
  noRange : mg "range" = none
  noEnum : mg "enumerate" = none
  noLen : mg "len" = none
  bRange : mb "range" = some (.type "range")
  bEnum : mb "enumerate" = some (.type "enumerate")
  bLen : mb "len" = some (.builtin "len")
  fPick : FnAt b 76 "_law_pick" 10
  fTexts : FnAt b 62 "_law_texts" 8
  fStars : FnAt b 69 "_law_stars" 9
  fInj : FnAt b 54 "inject_param_text" 5
  names : ∃ vs, b.IsList 55 vs.toArray ∧ StrsAre vs lawNames
  param : ∃ src t₁, b.get? 47 = some (patObj 46 src 32 2 t₁)
  paramC : b.get? 46 = some (tupObj (codeVals paramCode))
  twin : ∃ src t₁, b.get? 42 = some (patObj 41 src 32 1 t₁)
  twinC : b.get? 41 = some (tupObj (codeVals twinCode))
theorem Bs.keeps {mg mb : Str → Option Value} {b b' : Heap} (B : Bs mg mb b) (k : Keeps b b') : Bs mg mb b' :=
  { B with
    g := B.g.keeps k, bi := B.bi.keeps k, lim := B.lim.keeps k
    fPick := B.fPick.keeps k, fTexts := B.fTexts.keeps k, fStars := B.fStars.keeps k, fInj := B.fInj.keeps k
    names := let ⟨vs, l, e⟩ := B.names; ⟨vs, l.at fun o x => k _ o x, e⟩
    param := let ⟨s, t, e⟩ := B.param; ⟨s, t, k _ _ e⟩
    paramC := k _ _ B.paramC
    twin := let ⟨s, t, e⟩ := B.twin; ⟨s, t, k _ _ e⟩
    twinC := k _ _ B.twinC }
section
variable {prog : Program} {w : World} {A : Around} {E : Value → Shared → Prop} {h : Heap} {g : Array GenState} {d : Drawn} {tk : Nat} {os : OsState}
/-- a call of a plain def that does not raise -/
theorem call_fn {f : Addr} {name : Str} {i : Nat} {args : List Value} {binds : List (Str × Value)} {Q : Value → Shared → Prop} (hroom : A.depth < recursionLimit) (hf : FnAt h f name i) (hlim : h.NoLimit)
    (hbind : ∀ pm cd doc, bindArgs (Calls.docDef name (dparams (defAt i)) (dbody (defAt i)) (dscope (defAt i)) pm cd doc) ⟨args, []⟩ = pure binds)
    (hloc : ∀ x ∈ binds, (dscope (defAt i)).names.lookup x.1 = some .local)
    (body : ∀ h₁ cd, Fr h h.objs.size h₁ (fun x => binds.reverse.lookup x) →
      wpAny (model prog w) (A.deeper (envOf name (dscope (defAt i)) h.objs.size f cd)) (execs (dbody (defAt i)) (envOf name (dscope (defAt i)) h.objs.size f cd))
        (fun fl s' => Q (match fl with | .ret v => v | _ => .none) s') (fun _ _ => False) ⟨h₁, g, d, tk + binds.length, os⟩)
    (hco : (dscope (defAt i)).isCoroutine = false) (hgen : (dscope (defAt i)).isGenerator = false) (hk : (dscope (defAt i)).kind = .function)
    (hcell : ∀ x ∈ (dscope (defAt i)).names, x.2 ≠ .cell) : wpAny (model prog w) A (call (.ref f) args) Q E ⟨h, g, d, tk, os⟩ := by
  obtain ⟨o, pm, cd, doc, ho, hd, hc⟩ := hf
  exact wpAny_call (call_plain_ret hroom ho hd hlim hc (hbind pm cd doc) hloc (fun h₁ F => body h₁ cd F) hco hgen hk hcell)
end
-- ## the frame and the ledger; the rules in a state written out
abbrev upd (m : Str → Option Value) (x : Str) (v : Value) : Str → Option Value := fun y => if y = x then some v else m y
structure St (base : Heap) (L : Addr) (m : Str → Option Value) (N : List (Addr × Obj)) (h : Heap) : Prop where
  F : Fr base L h m
  N : News base L h N
abbrev listO (vs : List Value) (n : Nat) : Obj := { cls := .type "list", data := .seq vs.toArray n }
/-- the ledger holds a list of texts there -/
def StrL (N : List (Addr × Obj)) (a : Addr) (l : List Str) : Prop := ∃ vs n, (a, listO vs n) ∈ N ∧ StrsAre vs l
theorem StrL.mono {N N' : List (Addr × Obj)} {a : Addr} {l : List Str} (x : StrL N a l) (k : ∀ p ∈ N, p ∈ N') : StrL N' a l := let ⟨vs, n, e, i⟩ := x; ⟨vs, n, k _ e, i⟩
theorem StrL.isList {base : Heap} {L : Addr} {m : Str → Option Value} {N : List (Addr × Obj)} {h : Heap} {a : Addr} {l : List Str} (x : StrL N a l) (S : St base L m N h) : ∃ vs, h.IsList a vs.toArray ∧ StrsAre vs l :=
  let ⟨vs, n, e, i⟩ := x; ⟨vs, ⟨_, (S.N _ e).1, rfl, n, rfl⟩, i⟩
theorem StrsAre.length {vs : List Value} {l : List Str} (x : StrsAre vs l) : vs.length = l.length := by
  induction x with
  | nil => rfl
  | cons _ _ _ ih => rw [List.length_cons, List.length_cons, ih]
theorem St.push {base : Heap} {L : Addr} {m : Str → Option Value} {N : List (Addr × Obj)} {h : Heap} (S : St base L m N h) (o : Obj) (hf : o.isFreed = false) : St base L m ((h.objs.size, o) :: N) (h.push o) :=
  ⟨S.F.push o, News.push S.F S.N o hf⟩
theorem St.ext {base : Heap} {L : Addr} {m : Str → Option Value} {N : List (Addr × Obj)} {h h' : Heap} (S : St base L m N h) (k : Keeps h h') : St base L m N h' :=
  ⟨⟨S.F.ns.keeps k, fun b o e => k b o (S.F.keep b o e), S.F.above⟩, fun p hp => ⟨k _ _ (S.N p hp).1, (S.N p hp).2⟩⟩
theorem St.more {base : Heap} {L : Addr} {m : Str → Option Value} {N : List (Addr × Obj)} {h h' : Heap} (S : St base L m N h) (k : Keeps h h') {c : Addr} {o : Obj} (hc : h'.get? c = some o) (hn : h.get? c = none) : St base L m ((c, o) :: N) h' := by
  have S' := S.ext k
  refine ⟨S'.F, fun p hp => ?_⟩
  rcases List.mem_cons.mp hp with rfl | hp
  · refine ⟨hc, ?_, ?_⟩
    · rintro rfl
      obtain ⟨oL, es, ep, hL, _⟩ := S.F.ns
      rw [hn] at hL; cases hL
    · cases q : base.get? c with
      | none => rfl
      | some o' => rw [S.F.keep _ _ q] at hn; cases hn
  · exact S'.N p hp
theorem St.ne {base : Heap} {L : Addr} {m : Str → Option Value} {N : List (Addr × Obj)} {h : Heap} (S : St base L m N h) {a b : Addr} {oa ob : Obj} (ha : (a, oa) ∈ N) (hb : (b, ob) ∈ N) (hc : oa.cls ≠ ob.cls) : a ≠ b := by
  rintro rfl
  have e := (S.N _ ha).1.symm.trans (S.N _ hb).1
  cases e
  exact hc rfl
theorem St.lt {base : Heap} {L : Addr} {m : Str → Option Value} {N : List (Addr × Obj)} {h : Heap} (S : St base L m N h) {p : Addr × Obj} (hp : p ∈ N) : p.1 < h.objs.size := Heap.lt_size (S.N p hp).1
theorem St.sub {base : Heap} {L : Addr} {m : Str → Option Value} {N N' : List (Addr × Obj)} {h : Heap} (S : St base L m N h) (k : ∀ p ∈ N', p ∈ N) : St base L m N' h := ⟨S.F, fun p hp => S.N p (k p hp)⟩
section
variable {α : Type} {M : Model} {prog : Program} {w : World} {A : Around} {E : Value → Shared → Prop} {h : Heap} {g : Array GenState} {d : Drawn} {tk : Nat} {os : OsState} {mg mb : Str → Option Value}
  {base : Heap} {L f : Addr} {cd : Value} {m : Str → Option Value} {N : List (Addr × Obj)} {env : Env} {fn : Str} {sc : Scope}
theorem cInt {i : Int} {k : Nat} {pos : Pos} {Q : Value → Shared → Prop} (q : Q (.int i tk) ⟨h, g, d, tk + 1, os⟩) : wpAny M A (eval (.Constant (.int i) k pos) env) Q E ⟨h, g, d, tk, os⟩ := wpAny_Constant_int q
theorem cStr {x : Str} {k : Nat} {pos : Pos} {Q : Value → Shared → Prop} (q : Q (.str x tk) ⟨h, g, d, tk + 1, os⟩) : wpAny M A (eval (.Constant (.str x) k pos) env) Q E ⟨h, g, d, tk, os⟩ := wpAny_Constant_str q
theorem addI {a b : Int} {t u : Tok} {Q : Value → Shared → Prop} (q : Q (.int (a + b) tk) ⟨h, g, d, tk + 1, os⟩) : wpAny (model prog w) A (binaryOp .Add (.int a t) (.int b u)) Q E ⟨h, g, d, tk, os⟩ := PySem.wpAny_add_int q
theorem mulI {a b : Int} {t u : Tok} {Q : Value → Shared → Prop} (hm : IntMulOk a b) (q : Q (.int (a * b) tk) ⟨h, g, d, tk + 1, os⟩) : wpAny (model prog w) A (binaryOp .Mult (.int a t) (.int b u)) Q E ⟨h, g, d, tk, os⟩ := PyProof.Rows.mul_int q hm
theorem modI {a b : Int} {t u : Tok} {Q : Value → Shared → Prop} (hb : b ≠ 0) (q : Q (.int (a.fmod b) tk) ⟨h, g, d, tk + 1, os⟩) : wpAny (model prog w) A (binaryOp .Mod (.int a t) (.int b u)) Q E ⟨h, g, d, tk, os⟩ := mod_int' hb q
theorem divI {a b : Int} {t u : Tok} {Q : Value → Shared → Prop} (hb : b ≠ 0) (hs : b.natAbs < 1073741824) (q : Q (.int (a.fdiv b) tk) ⟨h, g, d, tk + 1, os⟩) : wpAny (model prog w) A (binaryOp .FloorDiv (.int a t) (.int b u)) Q E ⟨h, g, d, tk, os⟩ := floordiv_int hb q (.inl (PyProof.noPylong_small hs))
theorem eqI {a b : Int} {t u : Tok} {Q : Value → Shared → Prop} (q : Q (.bool (a == b)) ⟨h, g, d, tk, os⟩) : wpAny (model prog w) A (compareOp .Eq (.int a t) (.int b u)) Q E ⟨h, g, d, tk, os⟩ := PyProof.Rows.eq_int q
theorem addS {x y : Str} {t u : Tok} {Q : Value → Shared → Prop} (hz : x.length + y.length ≤ sizeLine) (q : ∀ t' tk', Q (.str (x ++ y) t') ⟨h, g, d, tk', os⟩) : wpAny (model prog w) A (binaryOp .Add (.str x t) (.str y u)) Q E ⟨h, g, d, tk, os⟩ := PyProof.Rows.add_str q hz
theorem mulS {x : Str} {n : Int} {t u : Tok} {Q : Value → Shared → Prop} (hok : MulOk x n) (q : ∀ t' tk', Q (.str (Txt.mul x n) t') ⟨h, g, d, tk', os⟩) : wpAny (model prog w) A (binaryOp .Mult (.str x t) (.int n u)) Q E ⟨h, g, d, tk, os⟩ := SB.mul hok q
theorem truI {a : Int} {t : Tok} {Q : Bool → Shared → Prop} (q : Q (a != 0) ⟨h, g, d, tk, os⟩) : wpAny (model prog w) A (truthy (.int a t)) Q E ⟨h, g, d, tk, os⟩ := PyProof.Rows.truthy_int q
theorem truS {x : Str} {t : Tok} {Q : Bool → Shared → Prop} (hz : x.length < 2 ^ 62) (q : ∀ tk', Q ((x.length : Int) != 0) ⟨h, g, d, tk', os⟩) : wpAny (model prog w) A (truthy (.str x t)) Q E ⟨h, g, d, tk, os⟩ := P.truthy_str (by omega) (q _)
theorem truL {a : Addr} {items : Array Value} {Q : Bool → Shared → Prop} (hl : h.IsList a items) (hz : items.size < 2 ^ 62) (q : ∀ tk', Q (!items.isEmpty) ⟨h, g, d, tk', os⟩) : wpAny (model prog w) A (truthy (.ref a)) Q E ⟨h, g, d, tk, os⟩ := wpAny_truthy_list hl (by omega) (q _)
theorem lenLst {a : Addr} {items : Array Value} {Q : Value → Shared → Prop} (hl : h.IsList a items) (hz : items.size < 2 ^ 62) (q : ∀ t tk', Q (.int items.size t) ⟨h, g, d, tk', os⟩) : wpAny (model prog w) A (call (.builtin "len") [.ref a]) Q E ⟨h, g, d, tk, os⟩ := Calls.call_len_list hl (by omega) (q _ _)
theorem lenStr {x : Str} {t : Tok} {Q : Value → Shared → Prop} (hz : x.length < 2 ^ 62) (q : ∀ t tk', Q (.int x.length t) ⟨h, g, d, tk', os⟩) : wpAny (model prog w) A (call (.builtin "len") [.str x t]) Q E ⟨h, g, d, tk, os⟩ := PyProof.Rows.len_str (by omega) (q _ _)
theorem sto {x : Str} {v : Value} {Q : Unit → Shared → Prop} (S : St base L m N h) (q : ∀ h' tk', St base L (upd m x v) N h' → Q () ⟨h', g, d, tk', os⟩)
    (hk : sc.kind = .function := by rfl) (hl : (envOf fn sc L f cd).kindOf x = some .local := by rfl) : wpAny M A (storeName (envOf fn sc L f cd) x v) Q E ⟨h, g, d, tk, os⟩ :=
  stN S.F S.N (fun h' F' N' => q h' _ ⟨F', N'⟩) hk hl
theorem glo {x : Str} {pos : Pos} {v : Value} {Q : Value → Shared → Prop} (S : St base L m N h) (B : Bs mg mb base) (e : mg x = some v) (q : Q v ⟨h, g, d, tk, os⟩)
    (hk : sc.kind = .function := by rfl) (hx : (envOf fn sc L f cd).kindOf x = some .globalImplicit := by rfl) (hd : (x == ("__debug__" : Str)) = false := by decide) : wpAny M A (eval (.Name x pos) (envOf fn sc L f cd)) Q E ⟨h, g, d, tk, os⟩ :=
  ld_global_at S.F B.g e q hk hx hd
theorem bui {x : Str} {pos : Pos} {v : Value} {Q : Value → Shared → Prop} (S : St base L m N h) (B : Bs mg mb base) (e : mg x = none) (e' : mb x = some v) (q : Q v ⟨h, g, d, tk, os⟩)
    (hk : sc.kind = .function := by rfl) (hx : (envOf fn sc L f cd).kindOf x = some .globalImplicit := by rfl) (hd : (x == ("__debug__" : Str)) = false := by decide) : wpAny M A (eval (.Name x pos) (envOf fn sc L f cd)) Q E ⟨h, g, d, tk, os⟩ :=
  ld_builtin_at S.F B.g e B.bi e' q hk hx hd
theorem loc {x : Str} {pos : Pos} {v : Value} {Q : Value → Shared → Prop} (S : St base L m N h) (hv : m x = some v) (q : Q v ⟨h, g, d, tk, os⟩)
    (hk : sc.kind = .function := by rfl) (hl : (envOf fn sc L f cd).kindOf x = some .local := by rfl) (hd : (x == ("__debug__" : Str)) = false := by decide) : wpAny M A (eval (.Name x pos) (envOf fn sc L f cd)) Q E ⟨h, g, d, tk, os⟩ :=
  ld S.F hv q hk hl hd
theorem isN {v : Value} {Q : Value → Shared → Prop} (q : Q (.bool (v == .none)) ⟨h, g, d, tk, os⟩) : wpAny M A (compareOp .Is v .none) Q E ⟨h, g, d, tk, os⟩ := is_none q
theorem isNotN {v : Value} {Q : Value → Shared → Prop} (q : Q (.bool (!(v == .none))) ⟨h, g, d, tk, os⟩) : wpAny M A (compareOp .IsNot v .none) Q E ⟨h, g, d, tk, os⟩ := isNot_none q
theorem mkL {vs : List Value} {Q : Value → Shared → Prop} (S : St base L m N h) (hz : vs.length ≤ 1000) (q : ∀ a h', a = h.objs.size → St base L m ((a, listO vs 0) :: N) h' → Keeps h h' → Q (.ref a) ⟨h', g, d, tk, os⟩) : wpAny M A (newList vs) Q E ⟨h, g, d, tk, os⟩ :=
  wpAny_newList (q _ _ rfl (S.push _ rfl) ((Keeps.refl h).push _)) (by rw [sizeLine_eq]; omega)
end

end Inj
end
section
open PySem PySem.W PyProof.Rows
namespace Inj
-- ## _law_pick: some int below the third argument
abbrev pickE (L f : Addr) (cd : Value) : Env := envOf "_law_pick" (dscope (defAt 10)) L f cd
section
variable {prog : Program} {w : World} {A : Around} {E : Value → Shared → Prop} {h : Heap} {g : Array GenState} {d : Drawn} {tk : Nat} {os : OsState} {mg mb : Str → Option Value}
theorem pick_body {base : Heap} {L f l : Addr} {cd : Value} {m : Str → Option Value} {vs : List Value} {ns : List Int} {k n : Int} {t u : Tok} {Q : Flow → Shared → Prop} (B : Bs mg mb base) (S : St base L m [] h)
    (hl : base.IsList l vs.toArray) (hi : IntsAre vs ns) (hsz : ns.length ≤ 63) (hn : 0 < n) (hk : 0 ≤ k) (hk' : k ≤ 100)
    (m1 : m "script" = some (.ref l)) (m2 : m "k" = some (.int k t)) (m3 : m "n" = some (.int n u))
    (hq : ∀ r t' h' tk', 0 ≤ r → r < n → Keeps base h' → Q (.ret (.int r t')) ⟨h', g, d, tk', os⟩) :
    wpAny (model prog w) A (execs (dbody (defAt 10)) (pickE L f cd)) Q E ⟨h, g, d, tk, os⟩ := by
  have hlen : vs.length = ns.length := hi.length
  have hls : h.IsList l vs.toArray := hl.at fun o e => S.F.keep l o e
  have hfit : vs.toArray.size < 2 ^ 62 := by rw [List.size_toArray, hlen]; omega
  refine wpAny_execs_cons ?_
  refine wpAny_If (wpAny_isTrue_Not (wpAny_isTrue_value (loc S m1 (truL hls hfit fun tk₁ => ?_))))
  cases hv : vs with
  | nil =>
    simp only [List.isEmpty_toArray, List.isEmpty_nil, Bool.not_true, Bool.not_false, if_true]
    refine wpAny_execs_cons (wpAny_Return_some (wpAny_BinOp (loc S m2 (loc S m3 ?_))))
    exact modI (by omega) (hq _ _ _ _ (by rw [Int.fmod_eq_emod_of_nonneg _ (by omega)]; exact Int.emod_nonneg _ (by omega)) (by rw [Int.fmod_eq_emod_of_nonneg _ (by omega)]; exact Int.emod_lt_of_pos _ hn) S.F.keep)
  | cons v0 vr =>
    have hpos : 0 < ns.length := by rw [← hlen, hv]; simp
    rw [← hv]
    have he : vs.toArray.isEmpty = false := by rw [hv]; rfl
    simp only [he, Bool.not_false, Bool.not_true, Bool.false_eq_true, if_false]
    refine wpAny_execs_nil ?_
    -- lap = k // len(script)
    refine wpAny_execs_cons (wpAny_Assign_Name (wpAny_BinOp (loc S m2 (Call_ (bui S B B.noLen B.bLen (callWith_builtin1 (args_cons (loc S m1 (args_nil (lenLst hls hfit fun t₁ tk₂ => ?_))))))))))
    have e1 : ((vs.toArray.size : Nat) : Int) = (ns.length : Int) := by rw [List.size_toArray, hlen]
    rw [e1]
    have q0 : 0 ≤ k.fdiv (ns.length : Int) := by rw [Int.fdiv_eq_ediv_of_nonneg _ (by omega)]; exact Int.ediv_nonneg hk (by omega)
    have q1 : k.fdiv (ns.length : Int) ≤ 100 := by rw [Int.fdiv_eq_ediv_of_nonneg _ (by omega)]; exact Int.le_trans (Int.ediv_le_self _ hk) hk'
    refine divI (by omega) (by omega) ?_
    refine sto S fun h₁ tk₃ S₁ => ?_
    -- return (script[k % len(script)] // (lap + 1) + lap) % n
    have hls₁ : h₁.IsList l vs.toArray := hl.at fun o e => S₁.F.keep l o e
    refine wpAny_execs_cons (wpAny_Return_some (wpAny_BinOp (wpAny_BinOp (wpAny_BinOp (Subscript_ (loc S₁ (v := .ref l) (by exact m1) (wpAny_BinOp (loc S₁ (v := .int k t) (by exact m2) (Call_ (bui S₁ B B.noLen B.bLen (callWith_builtin1 (args_cons (loc S₁ (v := .ref l) (by exact m1) (args_nil (lenLst hls₁ hfit fun t₄ tk₄ => ?_)))))))))))))))
    rw [e1]
    refine modI (by omega) ?_
    have r0 : 0 ≤ k.fmod (ns.length : Int) := by rw [Int.fmod_eq_emod_of_nonneg _ (by omega)]; exact Int.emod_nonneg _ (by omega)
    have r1 : k.fmod (ns.length : Int) < (ns.length : Int) := by rw [Int.fmod_eq_emod_of_nonneg _ (by omega)]; exact Int.emod_lt_of_pos _ (by omega)
    obtain ⟨j, hj⟩ := Int.eq_ofNat_of_zero_le r0
    have hjl : j < ns.length := by omega
    obtain ⟨tj, hx⟩ := hi.get j ns[j] (by simp [hjl])
    refine tail_any (T := "list") (s := ⟨h₁, g, d, _, os⟩) (Heap.IsList.typeIs (s := ⟨h₁, g, d, _, os⟩) hls₁) slot_list_getitem.lookup (wpAny_getItem_list (s := ⟨h₁, g, d, _, os⟩) (x := .int ns[j] tj) hls₁ r0 (by omega) (by rw [hj]; simpa using hx) ?_) (by with_unfolding_all rfl)
    refine wpAny_BinOp (loc S₁ (v := .int (k.fdiv (ns.length : Int)) _) (by rfl) (cInt (addI (divI (by omega) (by omega) ?_))))
    refine loc S₁ (v := .int (k.fdiv (ns.length : Int)) _) (by rfl) (addI (loc S₁ (v := .int n u) (by exact m3) ?_))
    exact modI (by omega) (hq _ _ _ _ (by rw [Int.fmod_eq_emod_of_nonneg _ (by omega)]; exact Int.emod_nonneg _ (by omega)) (by rw [Int.fmod_eq_emod_of_nonneg _ (by omega)]; exact Int.emod_lt_of_pos _ hn) S₁.F.keep)
end
end Inj
end
section
open PySem PySem.W PyProof.Rows
namespace Inj
section
variable {prog : Program} {w : World} {A : Around} {E : Value → Shared → Prop} {h : Heap} {g : Array GenState} {d : Drawn} {tk : Nat} {os : OsState} {mg mb : Str → Option Value}
  {base : Heap} {L : Addr} {m : Str → Option Value} {N : List (Addr × Obj)}
theorem pick_call {l : Addr} {vs : List Value} {ns : List Int} {k n : Int} {t u : Tok} {Q : Value → Shared → Prop} (B : Bs mg mb base) (S : St base L m N h) (hA : A.depth < recursionLimit)
    (hl : base.IsList l vs.toArray) (hi : IntsAre vs ns) (hsz : ns.length ≤ 63) (hn : 0 < n) (hk : 0 ≤ k) (hk' : k ≤ 100)
    (q : ∀ r t' h' tk', 0 ≤ r → r < n → St base L m N h' → Keeps h h' → Q (.int r t') ⟨h', g, d, tk', os⟩) :
    wpAny (model prog w) A (call (.ref 76) [.ref l, .int k t, .int n u]) Q E ⟨h, g, d, tk, os⟩ := by
  have B' := B.keeps S.F.keep
  refine call_fn (binds := [("script", .ref l), ("k", .int k t), ("n", .int n u)]) hA B'.fPick B'.lim (fun _ _ _ => by rfl) (locs (by rfl)) (fun h₁ cd F => ?_) (by rfl) (by rfl) (by rfl) (by decide)
  exact pick_body B' ⟨F, News.nil⟩ (hl.at fun o e => S.F.keep l o e) hi hsz hn hk hk' (by rfl) (by rfl) (by rfl) fun r t' h' tk' r0 r1 K => q r t' h' tk' r0 r1 (S.ext K) K
theorem texts_call {Q : Value → Shared → Prop} (B : Bs mg mb base) (S : St base L m N h) (hA : A.depth < recursionLimit)
    (q : ∀ a h' tk' vs, StrsAre vs lawTexts → St base L m ((a, listO vs 0) :: N) h' → Keeps h h' → Q (.ref a) ⟨h', g, d, tk', os⟩) :
    wpAny (model prog w) A (call (.ref 62) []) Q E ⟨h, g, d, tk, os⟩ := by
  have B' := B.keeps S.F.keep
  refine call_fn (binds := []) hA B'.fTexts B'.lim (fun _ _ _ => by rfl) (locs (by rfl)) (fun h₁ cd F => ?_) (by rfl) (by rfl) (by rfl) (by decide)
  have S₁ : St h h.objs.size _ [] h₁ := ⟨F, News.nil⟩
  refine wpAny_execs_cons (wpAny_Return_some (List_ (args_cons (cStr (args_cons (cStr (args_cons (cStr (args_nil ?_)))))))))
  refine mkL S₁ (by show 3 ≤ 1000; omega) fun a h' _ S' K => ?_
  have hm := S'.N _ (.head _)
  exact q a h' _ _ (.cons _ _ (.cons _ _ (.cons _ _ .nil))) (S.more S'.F.keep hm.1 hm.2.2) S'.F.keep
theorem stars_call {Q : Value → Shared → Prop} (B : Bs mg mb base) (S : St base L m N h) (hA : A.depth < recursionLimit)
    (q : ∀ a h' tk' vs, StrsAre vs lawStars → St base L m ((a, listO vs 0) :: N) h' → Keeps h h' → Q (.ref a) ⟨h', g, d, tk', os⟩) :
    wpAny (model prog w) A (call (.ref 69) []) Q E ⟨h, g, d, tk, os⟩ := by
  have B' := B.keeps S.F.keep
  refine call_fn (binds := []) hA B'.fStars B'.lim (fun _ _ _ => by rfl) (locs (by rfl)) (fun h₁ cd F => ?_) (by rfl) (by rfl) (by rfl) (by decide)
  have S₁ : St h h.objs.size _ [] h₁ := ⟨F, News.nil⟩
  refine wpAny_execs_cons (wpAny_Return_some (List_ (args_cons (cStr (args_cons (cStr (args_cons (cStr (args_nil ?_)))))))))
  refine mkL S₁ (by show 3 ≤ 1000; omega) fun a h' _ S' K => ?_
  have hm := S'.N _ (.head _)
  exact q a h' _ _ (.cons _ _ (.cons _ _ (.cons _ _ .nil))) (S.more S'.F.keep hm.1 hm.2.2) S'.F.keep
-- ## lists of texts
theorem addL {a b : Addr} {x y : List Str} {Q : Value → Shared → Prop} (S : St base L m N h) (ha : StrL N a x) (hb : StrL N b y) (hz : x.length + y.length ≤ 10000)
    (q : ∀ c h' N', St base L m N' h' → (∀ p ∈ N, p ∈ N') → StrL N' c (x ++ y) → Q (.ref c) ⟨h', g, d, tk, os⟩) : wpAny (model prog w) A (binaryOp .Add (.ref a) (.ref b)) Q E ⟨h, g, d, tk, os⟩ := by
  obtain ⟨va, la, ia⟩ := ha.isList S
  obtain ⟨vb, lb, ib⟩ := hb.isList S
  have e1 := StrsAre.length ia
  have e2 := StrsAre.length ib
  refine add_lists S.F S.N la lb (fun h' F' N' => ?_) (by rw [sizeLine_eq]; omega)
  exact q _ h' _ ⟨F', N'⟩ (fun p hp => .tail _ hp) ⟨va ++ vb, 0, .head _, StrsAre.append' ia ib⟩
theorem dispL {vs : List Value} {x : List Str} {Q : Value → Shared → Prop} (S : St base L m N h) (hv : StrsAre vs x) (hz : x.length ≤ 1000)
    (q : ∀ c h' N', St base L m N' h' → (∀ p ∈ N, p ∈ N') → StrL N' c x → Q (.ref c) ⟨h', g, d, tk, os⟩) : wpAny (model prog w) A (newList vs) Q E ⟨h, g, d, tk, os⟩ :=
  mkL S (by rw [StrsAre.length hv]; exact hz) fun a h' _ S' _ => q a h' _ S' (fun p hp => .tail _ hp) ⟨vs, 0, .head _, hv⟩
theorem StrsAre.get {vs : List Value} {x : List Str} (hv : StrsAre vs x) : ∀ (k : Nat), k < x.length → ∃ t, vs[k]? = some (.str (x.getD k Str.empty) t) := by
  induction hv with
  | nil => intro k hk; cases hk
  | cons y t _ ih =>
    intro k hk
    cases k with
    | zero => exact ⟨t, rfl⟩
    | succ k => exact ih k (Nat.lt_of_succ_lt_succ hk)
theorem itemL {value slice : Expr} {a : Addr} {vs : List Value} {x : List Str} {k : Int} {u : Tok} {Q : Value → Shared → Prop} (hl : h.IsList a vs.toArray) (hv : StrsAre vs x) (h0 : 0 ≤ k) (h1 : k < x.length) (hz : x.length ≤ 1000)
    (q : ∀ t, Q (.str (x.getD k.toNat Str.empty) t) ⟨h, g, d, tk, os⟩)
    (hs : subscripted slice false (.ref a) (.int k u) = operate [.ref a, .int k u] (getItem (.ref a) (.int k u)) := by with_unfolding_all rfl) : wpAny (model prog w) A (subscriptTail value slice (.ref a) (.int k u)) Q E ⟨h, g, d, tk, os⟩ := by
  obtain ⟨t, ht⟩ := StrsAre.get hv k.toNat (by omega)
  exact tail_any (T := "list") (s := ⟨h, g, d, tk, os⟩) (Heap.IsList.typeIs (s := ⟨h, g, d, tk, os⟩) hl) slot_list_getitem.lookup (wpAny_getItem_list (s := ⟨h, g, d, tk, os⟩) hl h0 (by omega) (by simpa using ht) (q t)) hs
end
end Inj
end
section
open PySem PySem.W PyProof.Rows
namespace Inj
abbrev lawE (L f : Addr) (cd : Value) : Env := envOf "law" (dscope (defAt 11)) L f cd
abbrev lawB : List Stmt := dbody (defAt 11)
/-- what the table of named texts holds -/
def Named (kvs : List (Str × Value)) : Prop := ∀ kv ∈ kvs, kv.1 ∈ lawNames.take 4 ∧ ∃ x ∈ lawTexts, ∃ t, kv.2 = .str x t
theorem Named.stored {kvs : List (Str × Value)} (H : Named kvs) {k x : Str} {t : Tok} (hk : k ∈ lawNames.take 4) (hx : x ∈ lawTexts) : Named (stored kvs k (.str x t)) := by
  intro kv hm
  unfold PySem.stored at hm
  split at hm
  · obtain ⟨kv', hm', rfl⟩ := List.mem_map.mp hm
    split
    · exact ⟨(H _ hm').1, x, hx, t, rfl⟩
    · exact H _ hm'
  · rcases List.mem_append.mp hm with hm | hm
    · exact H _ hm
    · rw [List.mem_singleton.mp hm]; exact ⟨hk, x, hx, t, rfl⟩
theorem stored_length (kvs : List (Str × Value)) (k : Str) (v : Value) : (stored kvs k v).length ≤ kvs.length + 1 := by
  unfold PySem.stored
  split
  · rw [List.length_map]; omega
  · rw [List.length_append, List.length_singleton]; omega
theorem St.change {base : Heap} {L : Addr} {m : Str → Option Value} {N : List (Addr × Obj)} {h h' : Heap} {a : Addr} {o o' : Obj} (S : St base L m N h) (hm : (a, o) ∈ N) (hs : Heap.SameBut a h h') (ho : h'.get? a = some o') :
    ∃ N', St base L m N' h' ∧ (a, o') ∈ N' ∧ ∀ p ∈ N, p.1 ≠ a → p ∈ N' := by
  have z := S.N _ hm
  refine ⟨(a, o') :: N.filter (fun p => decide (p.1 ≠ a)), ⟨S.F.change hs z.2.1 z.2.2, fun p hp => ?_⟩, .head _, fun p hp hne => .tail _ (List.mem_filter.mpr ⟨hp, by simpa using hne⟩)⟩
  rcases List.mem_cons.mp hp with rfl | hp
  · exact ⟨ho, z.2⟩
  · obtain ⟨hp, hne⟩ := List.mem_filter.mp hp
    have hne : p.1 ≠ a := by simpa using hne
    exact ⟨(hs.2 p.1 hne).trans (S.N p hp).1, (S.N p hp).2⟩
section
variable {prog : Program} {w : World} {A : Around} {E : Value → Shared → Prop} {h : Heap} {g : Array GenState} {d : Drawn} {tk : Nat} {os : OsState} {mg mb : Str → Option Value}
  {base : Heap} {L : Addr} {m : Str → Option Value} {N : List (Addr × Obj)}
theorem setD {a : Addr} {o : Obj} {kvs : List (Str × Value)} {k : Str} {t : Tok} {v : Value} {Q : Unit → Shared → Prop} (S : St base L m N h) (hm : (a, o) ∈ N) (hd : o.IsDictOf (strKind prog w) kvs) (hz : kvs.length ≤ 100)
    (q : ∀ h' tk' N' o', St base L m N' h' → (a, o') ∈ N' → (∀ p ∈ N, p.1 ≠ a → p ∈ N') → o'.IsDictOf (strKind prog w) (stored kvs k v) → o'.cls = .type "dict" → Q () ⟨h', g, d, tk', os⟩) :
    wpAny (model prog w) A (setItem (.ref a) (.str k t) v) Q E ⟨h, g, d, tk, os⟩ := by
  refine wpAny_setItem_pairs (s := ⟨h, g, d, tk, os⟩) (knd := strKind prog w) (strKind_is prog w k t) (Heap.dictOf_iff.mpr ⟨o, (S.N _ hm).1, hd⟩) (fun h' hd' hs' => ?_) (by rw [sizeLine_eq]; omega)
  obtain ⟨o', ho', hd''⟩ := Heap.dictOf_iff.mp hd'
  obtain ⟨N', S', h1, h2⟩ := S.change hm hs' ho'
  refine q h' _ N' o' S' h1 h2 hd'' ?_
  obtain ⟨es, ep, hx, _⟩ := hd''
  exact hx.1
theorem callWith_fn0 {M : Model} {env : Env} {pos : Pos} {f : Addr} {o : Obj} {fd : FuncData} {s : Shared} {Q : Value → Shared → Prop} (ho : s.heap.get? f = some o) (hdat : o.data = .func fd) (q : wpAny M A (call (.ref f) []) Q E s) :
    wpAny M A (callWith pos (.ref f) [] (backTo pos (starEach [] env)) []) Q E s :=
  Calls.callWith_function (o := o) (fd := fd) (evalArgs_nil3 ⟨⟨ho, hdat⟩, q⟩)
theorem call_pick1 {Lf f l : Addr} {cd : Value} {np pp : Pos} {e₁ e₂ e₃ : Expr} {vs : List Value} {ns : List Int} {Q : Value → Shared → Prop} (B : Bs mg mb base) (S : St base Lf m N h) (hA : A.depth < recursionLimit)
    (hl : base.IsList l vs.toArray) (hi : IntsAre vs ns) (hsz : ns.length ≤ 63)
    (he : wpAny (model prog w) A (spliced (backTo pp (starEach [e₁, e₂, e₃] (lawE Lf f cd)))) (fun as s' => ∃ k n t u tk', as = [.ref l, .int k t, .int n u] ∧ 0 ≤ k ∧ k ≤ 100 ∧ 0 < n ∧ s' = ⟨h, g, d, tk', os⟩ ∧
      ∀ r t' h' tk', 0 ≤ r → r < n → St base Lf m N h' → Keeps h h' → Q (.int r t') ⟨h', g, d, tk', os⟩) E ⟨h, g, d, tk, os⟩)
    (hs : starEach [e₁, e₂, e₃] (lawE Lf f cd) = (false, eval e₁ (lawE Lf f cd)) :: starEach [e₂, e₃] (lawE Lf f cd) := by rfl) :
    wpAny (model prog w) A (eval (.Call (.Name "_law_pick" np) [e₁, e₂, e₃] [] pp) (lawE Lf f cd)) Q E ⟨h, g, d, tk, os⟩ := by
  obtain ⟨o, pm, c, doc, ho, hd, _⟩ := (B.keeps S.F.keep).fPick
  refine Call_ (glo S B B.gPick (PyProof.Rows.callWith_def (o := o) hd (wpAny_mono he (fun as s' ha => ?_) fun _ _ e => e) hs))
  obtain ⟨k, n, t, u, tk', rfl, h0, h1, h2, rfl, q⟩ := ha
  exact ⟨ho, pick_call B S hA hl hi hsz h2 h0 h1 q⟩
theorem named_turn {Lf f l dn : Addr} {cd : Value} {vs : List Value} {ns : List Int} {o : Obj} {kvs : List (Str × Value)} {k : Int} {t : Tok} {Q : Flow → Shared → Prop} (B : Bs mg mb base) (S : St base Lf m N h) (hA : A.depth < recursionLimit)
    (hl : base.IsList l vs.toArray) (hi : IntsAre vs ns) (hsz : ns.length ≤ 63) (m1 : m "script" = some (.ref l)) (m2 : m "named" = some (.ref dn)) (m3 : m "k" = some (.int k t)) (hk0 : 0 ≤ k) (hk1 : k < 4)
    (hm : (dn, o) ∈ N) (hd : o.IsDictOf (strKind prog w) kvs) (hn : Named kvs) (hz : kvs.length ≤ 10)
    (q : ∀ h' tk' N' o' kvs', St base Lf m N' h' → (dn, o') ∈ N' → (∀ p ∈ N, p.1 ≠ dn → p ∈ N') → o'.IsDictOf (strKind prog w) kvs' → o'.cls = .type "dict" → Named kvs' → kvs'.length ≤ kvs.length + 1 → Q .next ⟨h', g, d, tk', os⟩) :
    wpAny (model prog w) A (execs (inBody (nth lawB 1)) (lawE Lf f cd)) Q E ⟨h, g, d, tk, os⟩ := by
  have hcls : o.cls = .type "dict" := by obtain ⟨es, ep, hx, _⟩ := hd; exact hx.1
  have small : ∀ x : Int, 0 ≤ x → x < 4 → IntMulOk 2 x := fun x a b => by mul_fits
  refine wpAny_execs_cons (wpAny_If (wpAny_isTrue_value (call_pick1 B S hA hl hi hsz (args_cons (loc S m1 (args_cons (wpAny_BinOp (cInt (loc S m3 (mulI (small k hk0 hk1) (args_cons (cInt (args_nil ?_))))))))))))) 
  refine ⟨_, _, _, _, _, rfl, by omega, by omega, by omega, rfl, fun r t' h₁ tk₁ r0 r1 S₁ K₁ => ?_⟩
  refine truI ?_
  by_cases hr : r = 0
  · subst hr
    have e0 : ((0 : Int) != 0) = false := rfl
    simp only [e0, Bool.false_eq_true, if_false]
    exact wpAny_execs_nil (wpAny_execs_nil (q _ _ N o kvs S₁ hm (fun p hp _ => hp) hd hcls hn (by omega)))
  · have e0 : (r != 0) = true := by simpa using hr
    simp only [e0, if_true]
    obtain ⟨ot, pmt, ct, doct, hot, hdt, _⟩ := (B.keeps S₁.F.keep).fTexts
    refine wpAny_execs_cons (wpAny_Assign_Subscript (Subscript_ (Call_ (glo S₁ B B.gTexts ?_))))
    refine callWith_fn0 hot hdt (texts_call B S₁ hA fun a h₂ tk₂ vt hvt S₂ K₂ => ?_)
    refine call_pick1 B S₂ hA hl hi hsz (args_cons (loc S₂ m1 (args_cons (wpAny_BinOp (wpAny_BinOp (cInt (loc S₂ m3 (mulI (small k hk0 hk1) (cInt (addI (args_cons (cInt (args_nil ?_)))))))))))))
    refine ⟨_, _, _, _, _, rfl, by omega, by omega, by omega, rfl, fun r' t'' h₃ tk₃ r0' r1' S₃ K₃ => ?_⟩
    have hla : h₃.IsList a vt.toArray := ⟨_, (S₃.N _ (.head _)).1, rfl, 0, rfl⟩
    refine itemL hla hvt r0' (by show r' < 3; exact r1') (by decide) (fun t₄ => ?_) (by with_unfolding_all rfl)
    obtain ⟨vn, hln, hvn⟩ := B.names
    refine loc S₃ m2 (Subscript_ (glo S₃ B B.gNames (loc S₃ m3 ?_)))
    refine itemL (hln.at fun o e => S₃.F.keep _ o e) hvn hk0 (by show k < 6; omega) (by decide) (fun t₅ => ?_) (by with_unfolding_all rfl)
    refine setD S₃ (.tail _ hm) hd (by omega) fun h₄ tk₄ N₄ o₄ S₄ hm₄ hN₄ hd₄ hc₄ => wpAny_execs_nil (wpAny_execs_nil ?_)
    refine q h₄ tk₄ N₄ o₄ _ S₄ hm₄ (fun p hp hne => hN₄ p (.tail _ hp) hne) hd₄ hc₄ (hn.stored ?_ ?_) (stored_length _ _ _)
    · obtain ⟨j, rfl⟩ := Int.eq_ofNat_of_zero_le hk0
      have hj : j < 4 := by omega
      show lawNames.getD j Str.empty ∈ lawNames.take 4
      rcases j with _ | _ | _ | _ | j
      · exact .head _
      · exact .tail _ (.head _)
      · exact .tail _ (.tail _ (.head _))
      · exact .tail _ (.tail _ (.tail _ (.head _)))
      · omega
    · obtain ⟨j, rfl⟩ := Int.eq_ofNat_of_zero_le r0'
      have hj : j < 3 := by omega
      show lawTexts.getD j Str.empty ∈ lawTexts
      rcases j with _ | _ | _ | j
      · exact .head _
      · exact .tail _ (.head _)
      · exact .tail _ (.tail _ (.head _))
      · omega
end
end Inj
end
section
open PySem PySem.W PyProof.Rows
namespace Inj
theorem St.extBut {base : Heap} {L : Addr} {m : Str → Option Value} {N : List (Addr × Obj)} {h h' : Heap} {a : Addr} {o : Obj} (S : St base L m N h) (hm : (a, o) ∈ N) (hx : Heap.ExtBut a h h') {N' : List (Addr × Obj)} (hN : ∀ p ∈ N', p ∈ N ∧ p.1 ≠ a) : St base L m N' h' := by
  have z := S.N _ hm
  obtain ⟨oL, es, ep, hL, r⟩ := S.F.ns
  refine ⟨⟨⟨oL, es, ep, hx L oL (Ne.symm z.2.1) hL, r⟩, fun b o' e => hx b o' ?_ (S.F.keep b o' e), S.F.above⟩, fun p hp => ?_⟩
  · rintro rfl
    rw [z.2.2] at e; cases e
  · obtain ⟨h1, h2⟩ := hN p hp
    exact ⟨hx _ _ h2 (S.N p h1).1, (S.N p h1).2⟩
abbrev rangeIt (x left : Int) : Obj := { cls := .type "range_iterator", dict := none, data := .fields #[rawInt x, rawInt left, rawInt 1], slots := #[] }
section
variable {prog : Program} {w : World} {A : Around} {E : Value → Shared → Prop} {h : Heap} {g : Array GenState} {d : Drawn} {tk : Nat} {os : OsState} {mg mb : Str → Option Value}
  {base : Heap} {L : Addr} {m : Str → Option Value} {N : List (Addr × Obj)}
theorem named_loop {Lf f l dn : Addr} {cd : Value} {vs : List Value} {ns : List Int} {o : Obj} {Q : Flow → Shared → Prop} (B : Bs mg mb base) (S : St base Lf m N h) (hA : A.depth < recursionLimit) (hh : A.handled = none)
    (hl : base.IsList l vs.toArray) (hi : IntsAre vs ns) (hsz : ns.length ≤ 63) (m1 : m "script" = some (.ref l)) (m2 : m "named" = some (.ref dn))
    (hm : (dn, o) ∈ N) (hd : o.IsDictOf (strKind prog w) [])
    (q : ∀ h' tk' m' o' kvs', St base Lf m' [(dn, o')] h' → o'.IsDictOf (strKind prog w) kvs' → o'.cls = .type "dict" → Named kvs' → m' "script" = some (.ref l) → m' "named" = some (.ref dn) → Q .next ⟨h', g, d, tk', os⟩) :
    wpAny (model prog w) A (exec (nth lawB 1) (lawE Lf f cd)) Q E ⟨h, g, d, tk, os⟩ := by
  refine wpAny_For (Call_ (bui S B B.noRange B.bRange (PyProof.Rows.callWith_type1 (args_cons (cInt (args_nil ?_))))))
  refine call_range_1 (s := ⟨h, g, d, _, os⟩) ?_
  dsimp only
  have S₁ := S.push { cls := .type "range", data := .fields #[.int 0 (tk + 1), .int 4 tk, .int 1 (tk + 1 + 1)] } rfl
  refine wpAny_pyIter_range (s := ⟨h.push _, g, d, _, os⟩) (IsRange.new h 0 4 1 (tk + 1) tk (tk + 1 + 1)) (by decide) ?_
  dsimp only
  have S₂ := S₁.push (rangeIt 0 (Builtin.Range.rangeSize 0 4 1)) rfl
  generalize h.push { cls := .type "range", data := .fields #[.int 0 (tk + 1), .int 4 tk, .int 1 (tk + 1 + 1)] } = h₁ at S₂ ⊢
  have e4 : Builtin.Range.rangeSize 0 4 1 = 4 := by decide
  rw [e4] at S₂ ⊢
  have hcls : o.cls = .type "dict" := by obtain ⟨es, ep, hx, _⟩ := hd; exact hx.1
  refine codeAny_forLoop (fun cnt s' => ∃ (h' : Heap) (tk' : Nat) (m' : Str → Option Value) (i : Nat) (o' : Obj) (kvs : List (Str × Value)), s' = ⟨h', g, d, tk', os⟩ ∧ i ≤ 4 ∧ cnt = 5 - i ∧ St base Lf m' [(dn, o'), (h₁.objs.size, rangeIt i (4 - i))] h' ∧
      o'.IsDictOf (strKind prog w) kvs ∧ o'.cls = .type "dict" ∧ Named kvs ∧ kvs.length ≤ i ∧ m' "script" = some (.ref l) ∧ m' "named" = some (.ref dn)) ?_ 5 ?_
  · rintro cnt s' ⟨h', tk', m', i, o', kvs, rfl, hi4, rfl, S', hd', hc', hn', hz', m1', m2'⟩
    have hit : IsRangeIter h' h₁.objs.size i (4 - i) 1 := (S'.N _ (.tail _ (.head _))).1
    by_cases hlt : i < 4
    · refine wpAny_pyNext_range_item (s := ⟨h', g, d, tk', os⟩) hit (by omega) fun h₂ hit₂ hs₂ => ?_
      obtain ⟨N₂, S₃, hm₃, hN₃⟩ := S'.change (.tail _ (.head _)) hs₂ hit₂
      have hne : dn ≠ h₁.objs.size := S'.ne (.head _) (.tail _ (.head _)) (by rw [hc']; exact fun e => absurd (Value.type.inj e) (by decide))
      dsimp only
      refine wpAny_assign_Name (sto S₃ fun h₃ tk₃ S₄ => ?_)
      have hm₄ := hN₃ _ (.head _) hne
      refine named_turn (k := i) (t := tk') B S₄ hA hl hi hsz (by exact m1') (by exact m2') (by rfl) (by omega) (by omega) hm₄ hd' hn' (by omega) fun h₅ tk₅ N₅ o₅ kvs₅ S₅ hm₅ hN₅ hd₅ hc₅ hn₅ hz₅ => ?_
      refine ⟨5 - (i + 1), by omega, h₅, tk₅, _, i + 1, o₅, kvs₅, rfl, hlt, rfl, S₅.sub ?_, hd₅, hc₅, hn₅, by omega, by exact m1', by exact m2'⟩
      intro p hp
      rcases List.mem_cons.mp hp with rfl | hp
      · exact hm₅
      · rw [List.mem_singleton.mp hp]
        have e1 : ((i + 1 : Nat) : Int) = (i : Int) + 1 := by push_cast; rfl
        have e2 : (4 : Int) - ((i + 1 : Nat) : Int) = 4 - (i : Int) - 1 := by push_cast; omega
        rw [e1]
        have e3 : (4 : Int) - ((i : Int) + 1) = 4 - (i : Int) - 1 := by omega
        rw [e3]
        exact hN₅ _ hm₃ (Ne.symm hne)
    · have hi4' : i = 4 := by omega
      subst hi4'
      refine wpAny_pyNext_range_end (s := ⟨h', g, d, tk', os⟩) hh hit (by decide) fun h₂ hx => wpAny_execs_nil ?_
      have hne : dn ≠ h₁.objs.size := S'.ne (.head _) (.tail _ (.head _)) (by rw [hc']; exact fun e => absurd (Value.type.inj e) (by decide))
      refine q h₂ tk' m' o' kvs (S'.extBut (.tail _ (.head _)) hx fun p hp => ?_) hd' hc' hn' m1' m2'
      rw [List.mem_singleton.mp hp]
      exact ⟨.head _, hne⟩
  · refine ⟨_, _, m, 0, o, [], rfl, by omega, rfl, S₂.sub ?_, hd, hcls, (fun kv hkv => nomatch hkv), by simp, m1, m2⟩
    intro p hp
    rcases List.mem_cons.mp hp with rfl | hp
    · exact .tail _ (.tail _ hm)
    · rw [List.mem_singleton.mp hp]; exact .head _
end
end Inj
end
section
open PySem PySem.W PyProof.Rows
namespace Inj
-- ## the law's blocks as plain functions
def sp (n : Nat) : Str := ⟨(List.replicate n 32).toArray⟩
structure Blk where
  k : Nat
  e : Nat
  n : Nat
  nm : Nat
  st : Nat
  rc : Nat
  b : Bool
  wd : Bool
structure Blk.Ok (p : Blk) : Prop where
  k : p.k < 5
  e : p.e < 5
  n : p.n < 4
  nm : p.nm < 6
  st : p.st < 3
  rc : p.rc < 3
def Blk.edge (p : Blk) : Str := sp (p.e + 1)
def Blk.inner (p : Blk) : Str := sp (p.e + 1 + p.n)
def Blk.blank (p : Blk) : Str := if p.b then "  " else ""
def Blk.plain (p : Blk) : List Str := [p.edge ++ "plain words", p.edge ++ ":returns: :param:", p.blank]
def Blk.name (p : Blk) (w : Bool) : Str := if w then "other" else lawNames.getD p.nm Str.empty
def Blk.head (p : Blk) (w : Bool) : Str := p.edge ++ ":param " ++ lawStars.getD p.st Str.empty ++ p.name w ++ ":" ++ (if p.wd then (" words: more" : Str) else "")
def Blk.rest (p : Blk) : List Str :=
  List.replicate p.rc (p.inner ++ "further words") ++ (if p.k = 2 then [p.inner ++ "as here::", "", p.inner ++ "    x = 1", p.inner ++ "    y = 2"] else []) ++ (if p.k = 3 then [p.inner ++ "no blank line"] else [])
def Blk.text (p : Blk) (nm : Str → Option Str) (w : Bool) : Option Str := (nm (p.name w)).map fun z => (if p.rest.isEmpty then p.edge ++ " " else p.inner) ++ z
def Blk.isPlain (p : Blk) (wt : Option Str) : Bool := p.k == 0 && wt.isNone
def waitD (wt : Option Str) : List Str := match wt with | none => [] | some t => ["\n", t, "\n"]
def Blk.gRows (p : Blk) (wt : Option Str) : List Str :=
  if p.isPlain wt then p.plain else [p.head wt.isSome] ++ p.rest ++ (if p.k = 3 then [] else [p.blank])
def Blk.dRows (p : Blk) (nm : Str → Option Str) (wt : Option Str) : List Str :=
  if p.isPlain wt then p.plain else waitD wt ++ [p.head wt.isSome] ++ p.rest ++
    (if p.k = 3 then [] else match p.text nm wt.isSome with | none => [p.blank] | some t => [p.blank, t, "\n", p.blank])
def Blk.next (p : Blk) (nm : Str → Option Str) (wt : Option Str) : Option Str :=
  if p.isPlain wt then none else if p.k = 3 then p.text nm wt.isSome else none
def blkOf (x : Int) (i : Nat) : Blk :=
  let y := x.fdiv 5 + i
  { k := (x.fmod 5).toNat, e := (y.fmod 5).toNat, n := ((y.fdiv 15).fmod 4).toNat, nm := ((y.fdiv 60).fmod 6).toNat, st := ((y.fdiv 360).fmod 3).toNat, rc := ((y.fdiv 5).fmod 3).toNat,
    b := y.fmod 2 != 0, wd := y.fmod 3 != 0 }
theorem fmod_nat (a : Int) (n : Nat) (hn : 0 < n) : ∃ j : Nat, a.fmod n = j ∧ j < n := by
  have h0 : 0 ≤ a.fmod n := by rw [Int.fmod_eq_emod_of_nonneg _ (by omega)]; exact Int.emod_nonneg _ (by omega)
  have h1 : a.fmod n < n := by rw [Int.fmod_eq_emod_of_nonneg _ (by omega)]; exact Int.emod_lt_of_pos _ (by omega)
  obtain ⟨j, hj⟩ := Int.eq_ofNat_of_zero_le h0
  exact ⟨j, hj, by omega⟩
theorem blkOf_ok (x : Int) (i : Nat) : (blkOf x i).Ok := by
  have t : ∀ (a : Int) (n : Nat), 0 < n → (a.fmod n).toNat < n := fun a n hn => by
    obtain ⟨j, hj, hl⟩ := fmod_nat a n hn
    rw [hj]; simpa using hl
  exact ⟨t _ 5 (by decide), t _ 5 (by decide), t _ 4 (by decide), t _ 6 (by decide), t _ 3 (by decide), t _ 3 (by decide)⟩
theorem mul_sp : ∀ j : Nat, j < 20 → Txt.mul " " (j : Int) = sp j := by
  have : ∀ j : Fin 20, Txt.mul " " ((j : Nat) : Int) = sp j := by decide +kernel
  exact fun j hj => this ⟨j, hj⟩
theorem mulOk_sp (j : Nat) (hj : j < 20) : MulOk " " (j : Int) := by
  have hl : (Str.ofString " ").length = 1 := by decide +kernel
  unfold MulOk
  rw [hl]
  refine ⟨by simp only [Bool.or_eq_false_iff, decide_eq_false_iff_not]; omega, fun h1 _ => ?_, fun _ _ => ?_⟩
  · have : (1 : Int) ≤ (2 ^ 63 - 1) / (j : Int) := by
      rw [Int.le_ediv_iff_mul_le (by omega)]; omega
    omega
  · unfold Builtin.Str.tooLong
    simp only [decide_eq_false_iff_not]
    have e : ((j : Int)).toNat = j := Int.toNat_natCast j
    rw [e, sizeLine_eq]
    omega
theorem sp_add (a b : Nat) : sp a ++ sp b = sp (a + b) := by
  show Str.mk ((List.replicate a 32).toArray ++ (List.replicate b 32).toArray) = Str.mk (List.replicate (a + b) 32).toArray
  rw [← List.replicate_append_replicate]
  simp
theorem sp_length (n : Nat) : (sp n).length = n := by simp [sp, Str.length]
end Inj
end
section
open PySem PySem.W PyProof.Rows
namespace Inj
section
variable {M : Model} {prog : Program} {w : World} {A : Around} {E : Value → Shared → Prop} {h : Heap} {g : Array GenState} {d : Drawn} {tk : Nat} {os : OsState} {mg mb : Str → Option Value}
  {base : Heap} {L : Addr} {m : Str → Option Value} {N : List (Addr × Obj)} {env : Env}
theorem mkT {vs : List Value} {Q : Value → Shared → Prop} (S : St base L m N h) (hz : vs.length ≤ 1000) (q : ∀ a h', St base L m ((a, tupObj vs) :: N) h' → Q (.ref a) ⟨h', g, d, tk, os⟩) : wpAny M A (newTuple vs) Q E ⟨h, g, d, tk, os⟩ :=
  newTuple_N S.F S.N (fun h' F' N' => q _ h' ⟨F', N'⟩) (by rw [sizeLine_eq]; omega)
theorem unpkT {a : Addr} {vs : List Value} {n : Nat} {Q : List Value → Shared → Prop} (S : St base L m N h) (hm : (a, tupObj vs) ∈ N) (hh : A.handled = none) (hn : n = vs.length) (q : ∀ h', St base L m N h' → Q vs ⟨h', g, d, tk, os⟩) :
    wpAny (model prog w) A (unpackItems (.ref a) n none) Q E ⟨h, g, d, tk, os⟩ :=
  unpackItemsN_ S.F S.N (News.isTup (n := 0) (d := none) (sl := #[]) S.N hm) hh (by simpa using hn) fun h' F' N' => q h' ⟨F', N'⟩
theorem truB {b : Bool} {Q : Bool → Shared → Prop} (q : Q b ⟨h, g, d, tk, os⟩) : wpAny M A (truthy (.bool b)) Q E ⟨h, g, d, tk, os⟩ := wpAny_truthy_bool q
theorem eqT {x : Str} {pos p1 p2 : Pos} {k : Nat} {a c : Int} {t : Tok} {whole : Sem Value} {L f : Addr} {cd : Value} {fn : Str} {sc : Scope} {Q : Bool → Shared → Prop} (S : St base L m N h) (hv : m x = some (.int a t)) (q : ∀ tk', Q (a == c) ⟨h, g, d, tk', os⟩)
    (hk : sc.kind = .function := by rfl) (hl : (envOf fn sc L f cd).kindOf x = some .local := by rfl) (hd : (x == ("__debug__" : Str)) = false := by decide) :
    wpAny (model prog w) A (isTrue (.Compare (.Name x p1) [.Eq] [.Constant (.int c) k p2] pos) (envOf fn sc L f cd) whole) Q E ⟨h, g, d, tk, os⟩ :=
  wpAny_isTrue_Compare1 (loc S hv (cInt (eqI (truB (q _)))) hk hl hd) (by with_unfolding_all rfl)
theorem isT {x : Str} {pos p1 p2 : Pos} {k : Nat} {v : Value} {whole : Sem Value} {L f : Addr} {cd : Value} {fn : Str} {sc : Scope} {Q : Bool → Shared → Prop} (S : St base L m N h) (hv : m x = some v) (q : ∀ tk', Q (v == .none) ⟨h, g, d, tk', os⟩)
    (hk : sc.kind = .function := by rfl) (hl : (envOf fn sc L f cd).kindOf x = some .local := by rfl) (hd : (x == ("__debug__" : Str)) = false := by decide) :
    wpAny (model prog w) A (isTrue (.Compare (.Name x p1) [.Is] [.Constant .none k p2] pos) (envOf fn sc L f cd) whole) Q E ⟨h, g, d, tk, os⟩ :=
  wpAny_isTrue_Compare1 (loc S hv (wpAny_Constant_none (isN (truB (q _)))) hk hl hd) (by with_unfolding_all rfl)
theorem isNotT {x : Str} {pos p1 p2 : Pos} {k : Nat} {v : Value} {whole : Sem Value} {L f : Addr} {cd : Value} {fn : Str} {sc : Scope} {Q : Bool → Shared → Prop} (S : St base L m N h) (hv : m x = some v) (q : ∀ tk', Q (!(v == .none)) ⟨h, g, d, tk', os⟩)
    (hk : sc.kind = .function := by rfl) (hl : (envOf fn sc L f cd).kindOf x = some .local := by rfl) (hd : (x == ("__debug__" : Str)) = false := by decide) :
    wpAny (model prog w) A (isTrue (.Compare (.Name x p1) [.IsNot] [.Constant .none k p2] pos) (envOf fn sc L f cd) whole) Q E ⟨h, g, d, tk, os⟩ :=
  wpAny_isTrue_Compare1 (loc S hv (wpAny_Constant_none (isNotN (truB (q _)))) hk hl hd) (by with_unfolding_all rfl)
end
def WaitV (v : Option Value) : Option Str → Prop
  | none => v = some .none
  | some x => ∃ t, v = some (.str x t)
/-- what stays in the frame from turn to turn -/
structure LM (m : Str → Option Value) (l dn : Addr) (N : List (Addr × Obj)) (G D : List Str) (wt : Option Str) : Prop where
  script : m "script" = some (.ref l)
  named : m "named" = some (.ref dn)
  given : ∃ a, m "given" = some (.ref a) ∧ StrL N a G
  due : ∃ a, m "due" = some (.ref a) ∧ StrL N a D
  waits : WaitV (m "waits") wt
abbrev bodyT (j : Nat) : Stmt := nth (inBody (nth lawB 3)) j
theorem LM.mono {m : Str → Option Value} {l dn : Addr} {N N' : List (Addr × Obj)} {G D : List Str} {wt : Option Str} (X : LM m l dn N G D wt) (k : ∀ p ∈ N, p ∈ N') : LM m l dn N' G D wt :=
  { X with given := let ⟨a, e, s⟩ := X.given; ⟨a, e, s.mono k⟩, due := let ⟨a, e, s⟩ := X.due; ⟨a, e, s.mono k⟩ }
theorem LM.put {m : Str → Option Value} {l dn : Addr} {N : List (Addr × Obj)} {G D : List Str} {wt : Option Str} (X : LM m l dn N G D wt) {x : Str} {v : Value} (hx : x ∉ (["script", "named", "given", "due", "waits"] : List Str)) : LM (upd m x v) l dn N G D wt := by
  have ne : ∀ y ∈ (["script", "named", "given", "due", "waits"] : List Str), upd m x v y = m y := fun y hy => by
    unfold Inj.upd
    rw [if_neg]
    rintro rfl
    exact hx hy
  refine ⟨(ne _ (by simp)).trans X.script, (ne _ (by simp)).trans X.named, ?_, ?_, ?_⟩
  · obtain ⟨a, e, s⟩ := X.given; exact ⟨a, (ne _ (by simp)).trans e, s⟩
  · obtain ⟨a, e, s⟩ := X.due; exact ⟨a, (ne _ (by simp)).trans e, s⟩
  · rw [ne _ (by simp)]; exact X.waits
def yOf (x : Int) (i : Nat) : Int := x.fdiv 5 + i
theorem fmod_small {a : Int} {n : Nat} (hn : 0 < n) : a.fmod n = ((a.fmod n).toNat : Nat) ∧ (a.fmod n).toNat < n := by
  obtain ⟨j, hj, hl⟩ := fmod_nat a n hn
  rw [hj]; exact ⟨rfl, by simpa using hl⟩
section
variable {prog : Program} {w : World} {A : Around} {E : Value → Shared → Prop} {h : Heap} {g : Array GenState} {d : Drawn} {tk : Nat} {os : OsState} {mg mb : Str → Option Value}
  {base : Heap} {m : Str → Option Value} {N : List (Addr × Obj)}
theorem seg0 {L f l dn : Addr} {cd : Value} {G D : List Str} {wt : Option Str} {x : Int} {i : Nat} {t u : Tok} {Q : Flow → Shared → Prop} (S : St base L m N h) (X : LM m l dn N G D wt) (hh : A.handled = none) (mx : m "x" = some (.int x t)) (mi : m "i" = some (.int i u))
    (q : ∀ h' tk' m' N' t u, St base L m' N' h' → LM m' l dn N' G D wt → (∀ p ∈ N, p ∈ N') → m' "kind" = some (.int (blkOf x i).k t) → m' "y" = some (.int (yOf x i) u) → Q .next ⟨h', g, d, tk', os⟩) :
    wpAny (model prog w) A (exec (bodyT 0) (lawE L f cd)) Q E ⟨h, g, d, tk, os⟩ := by
  refine Assign_Tuple_swapped (names := ["kind", "y"]) (Tuple_ (args_cons (wpAny_BinOp (loc S mx (cInt (modI (by decide) (args_cons (wpAny_BinOp (wpAny_BinOp (loc S mx (cInt (divI (by decide) (by decide) (loc S mi (addI (args_nil ?_)))))))))))))))
  refine mkT S (by show 2 ≤ 1000; omega) fun a h₁ S₁ => ?_
  refine unpkT S₁ (.head _) hh rfl fun h₂ S₂ => ?_
  refine assignInOrder_cons (bindName_ (sto S₂ fun h₃ tk₃ S₃ => ?_))
  refine assignInOrder_cons (bindName_ (sto S₃ fun h₄ tk₄ S₄ => assignInOrder_nil ?_))
  have e : x.fmod 5 = ((blkOf x i).k : Int) := (fmod_small (a := x) (n := 5) (by decide)).1
  refine q _ _ _ _ _ _ S₄ (((X.mono fun p hp => .tail _ hp).put (by decide)).put (by decide)) (fun p hp => .tail _ hp) (by rw [← e]; rfl) (by rfl)
end
end Inj
end
section
open PySem PySem.W PyProof.Rows
namespace Inj
structure FB (m : Str → Option Value) (x : Int) (i : Nat) : Prop where
  kind : ∃ t, m "kind" = some (.int (blkOf x i).k t)
  y : ∃ t, m "y" = some (.int (yOf x i) t)
  edge : ∃ t, m "edge" = some (.str (blkOf x i).edge t)
  inner : ∃ t, m "inner" = some (.str (blkOf x i).inner t)
  blank : ∃ t, m "blank" = some (.str (blkOf x i).blank t)
theorem FB.put {m : Str → Option Value} {x : Int} {i : Nat} (X : FB m x i) {z : Str} {v : Value} (hx : z ∉ (["kind", "y", "edge", "inner", "blank"] : List Str)) : FB (upd m z v) x i := by
  have ne : ∀ y ∈ (["kind", "y", "edge", "inner", "blank"] : List Str), upd m z v y = m y := fun y hy => by
    unfold Inj.upd
    rw [if_neg]
    rintro rfl
    exact hx hy
  exact ⟨by rw [ne _ (by simp)]; exact X.kind, by rw [ne _ (by simp)]; exact X.y, by rw [ne _ (by simp)]; exact X.edge, by rw [ne _ (by simp)]; exact X.inner, by rw [ne _ (by simp)]; exact X.blank⟩
theorem Blk.edge_len (p : Blk) (o : p.Ok) : p.edge.length ≤ 5 := by
  unfold Blk.edge; rw [sp_length]; have := o.e; omega
theorem Blk.inner_len (p : Blk) (o : p.Ok) : p.inner.length ≤ 8 := by
  unfold Blk.inner; rw [sp_length]; have := o.e; have := o.n; omega
theorem str_append_length (a b : Str) : (a ++ b).length = a.length + b.length := by
  show (a.cps ++ b.cps).size = _
  rw [Array.size_append]; rfl
theorem Blk.blank_len (p : Blk) : p.blank.length ≤ 2 := by
  unfold Blk.blank
  cases p.b
  · show (Str.ofString "").length ≤ 2; decide +kernel
  · show (Str.ofString "  ").length ≤ 2; decide +kernel
section
variable {prog : Program} {w : World} {A : Around} {E : Value → Shared → Prop} {h : Heap} {g : Array GenState} {d : Drawn} {tk : Nat} {os : OsState} {mg mb : Str → Option Value}
  {base : Heap} {m : Str → Option Value} {N : List (Addr × Obj)}
theorem seg123 {L f l dn : Addr} {cd : Value} {G D : List Str} {wt : Option Str} {x : Int} {i : Nat} {t u : Tok} {rest : List Stmt} {Q : Flow → Shared → Prop} (S : St base L m N h) (X : LM m l dn N G D wt)
    (mk : m "kind" = some (.int (blkOf x i).k t)) (my : m "y" = some (.int (yOf x i) u))
    (q : ∀ h' tk' m', St base L m' N h' → LM m' l dn N G D wt → FB m' x i → wpAny (model prog w) A (execs rest (lawE L f cd)) Q E ⟨h', g, d, tk', os⟩) :
    wpAny (model prog w) A (execs (bodyT 1 :: bodyT 2 :: bodyT 3 :: rest) (lawE L f cd)) Q E ⟨h, g, d, tk, os⟩ := by
  have ok := blkOf_ok x i
  have he : (1 : Int) + (yOf x i).fmod 5 = (((blkOf x i).e + 1 : Nat) : Int) := by
    have : (yOf x i).fmod 5 = (((yOf x i).fmod 5).toNat : Int) := (fmod_small (a := yOf x i) (n := 5) (by decide)).1
    show (1 : Int) + (yOf x i).fmod 5 = ((((yOf x i).fmod 5).toNat + 1 : Nat) : Int)
    omega
  have hn : ((yOf x i).fdiv 15).fmod 4 = ((blkOf x i).n : Int) := (fmod_small (a := (yOf x i).fdiv 15) (n := 4) (by decide)).1
  have oe := ok.e
  have on := ok.n
  refine wpAny_execs_cons (wpAny_Assign_Name (wpAny_BinOp (cStr (wpAny_BinOp (cInt (wpAny_BinOp (loc S my (cInt (modI (by decide) (addI ?_)))))))))) 
  rw [he]
  refine mulS (mulOk_sp _ (by omega)) fun t₁ tk₁ => ?_
  rw [mul_sp _ (by omega)]
  refine sto S fun h₁ tk₂ S₁ => ?_
  refine wpAny_execs_cons (wpAny_Assign_Name (wpAny_BinOp (loc S₁ (v := .str (blkOf x i).edge t₁) (by rfl) (wpAny_BinOp (cStr (wpAny_BinOp (wpAny_BinOp (loc S₁ (v := .int (yOf x i) u) (by exact my) (cInt (divI (by decide) (by decide) (cInt (modI (by decide) ?_))))))))))))
  rw [hn]
  refine mulS (mulOk_sp _ (by omega)) fun t₃ tk₃ => ?_
  rw [mul_sp _ (by omega)]
  have l1 := (blkOf x i).edge_len ok
  refine addS (by rw [sp_length, sizeLine_eq]; omega) fun t₄ tk₄ => ?_
  have e2 : (blkOf x i).edge ++ sp (blkOf x i).n = (blkOf x i).inner := by unfold Blk.edge Blk.inner; rw [sp_add]
  rw [e2]
  refine sto S₁ fun h₂ tk₅ S₂ => ?_
  have fin : ∀ h' tk' t', St base L (upd (upd (upd m "edge" (.str (blkOf x i).edge t₁)) "inner" (.str (blkOf x i).inner t₄)) "blank" (.str (blkOf x i).blank t')) N h' → wpAny (model prog w) A (execs rest (lawE L f cd)) Q E ⟨h', g, d, tk', os⟩ := fun h' tk' t' S' =>
    q _ _ _ S' (((X.put (by decide)).put (by decide)).put (by decide)) ⟨⟨t, by exact mk⟩, ⟨u, by exact my⟩, ⟨t₁, by rfl⟩, ⟨t₄, by rfl⟩, ⟨t', by rfl⟩⟩
  refine wpAny_execs_cons (wpAny_Assign_Name (IfExp_ (wpAny_isTrue_value (wpAny_BinOp (loc S₂ (v := .int (yOf x i) u) (by exact my) (cInt (modI (by decide) (truI ?_))))))))
  have hb : ((yOf x i).fmod 2 != 0) = (blkOf x i).b := rfl
  rw [hb]
  cases hbb : (blkOf x i).b with
  | true =>
    rw [if_pos rfl]
    refine cStr (sto S₂ fun h₃ tk₆ S₃ => fin _ _ (tk₅ + 1 + 1) ?_)
    rw [show (blkOf x i).blank = "  " by unfold Blk.blank; rw [hbb]; rfl]
    exact S₃
  | false =>
    rw [if_neg Bool.false_ne_true]
    refine cStr (sto S₂ fun h₃ tk₆ S₃ => fin _ _ (tk₅ + 1 + 1) ?_)
    rw [show (blkOf x i).blank = "" by unfold Blk.blank; rw [hbb]; rfl]
    exact S₃
theorem seg4 {L f l dn : Addr} {cd : Value} {G D : List Str} {wt : Option Str} {x : Int} {i : Nat} {rest : List Stmt} {Q : Flow → Shared → Prop} (S : St base L m N h) (X : LM m l dn N G D wt) (Y : FB m x i) (hh : A.handled = none) (hG : G.length ≤ 1000) (hD : D.length ≤ 1000)
    (q1 : (blkOf x i).isPlain wt = true → ∀ h' tk' m' N', St base L m' N' h' → (∀ p ∈ N, p ∈ N') → LM m' l dn N' (G ++ (blkOf x i).plain) (D ++ (blkOf x i).plain) none → Q .cont ⟨h', g, d, tk', os⟩)
    (q2 : (blkOf x i).isPlain wt = false → ∀ tk', wpAny (model prog w) A (execs rest (lawE L f cd)) Q E ⟨h, g, d, tk', os⟩) :
    wpAny (model prog w) A (execs (bodyT 4 :: rest) (lawE L f cd)) Q E ⟨h, g, d, tk, os⟩ := by
  obtain ⟨t, mk⟩ := Y.kind
  obtain ⟨te, me⟩ := Y.edge
  obtain ⟨tb, mbl⟩ := Y.blank
  obtain ⟨ag, mg', sg⟩ := X.given
  obtain ⟨ad, md', sd⟩ := X.due
  have hw := X.waits
  have ok := blkOf_ok x i
  have l1 := (blkOf x i).edge_len ok
  refine wpAny_execs_cons (wpAny_If (isTrue_and (eqT S mk fun tk₁ => ?_)))
  by_cases hk : (blkOf x i).k = 0
  · rw [show ((((blkOf x i).k : Nat) : Int) == 0) = true from by rw [hk]; rfl]
    simp only [if_true]
    cases wt with
    | some z =>
      obtain ⟨tz, hz⟩ := hw
      refine isTrue_and (isT S hz fun tk₂ => ?_)
      rw [show ((Value.str z tz) == Value.none) = false from rfl]
      simp only [Bool.false_eq_true, if_false]
      exact wpAny_execs_nil (q2 (by simp [Blk.isPlain]) _)
    | none =>
      replace hw : m "waits" = some .none := hw
      refine isTrue_and (isT S hw fun tk₂ => ?_)
      rw [show (Value.none == Value.none) = true from rfl]
      simp only [if_true]
      refine isTrue_and_nil ?_
      simp only [if_true]
      refine wpAny_execs_cons (wpAny_Assign_Name (List_ (args_cons (wpAny_BinOp (loc S me (cStr (addS ?_ fun t₃ tk₃ => ?_)))))))
      · rw [show (Str.ofString "plain words").length = 11 from by decide +kernel, sizeLine_eq]; omega
      refine args_cons (wpAny_BinOp (loc S me (cStr (addS ?_ fun t₄ tk₄ => ?_))))
      · rw [show (Str.ofString ":returns: :param:").length = 17 from by decide +kernel, sizeLine_eq]; omega
      refine args_cons (loc S mbl (args_nil ?_))
      refine dispL S (x := (blkOf x i).plain) (.cons _ _ (.cons _ _ (.cons _ _ .nil))) (by show 3 ≤ 1000; omega) fun a h₁ N₁ S₁ k₁ L₁ => ?_
      refine sto S₁ fun h₂ tk₅ S₂ => ?_
      refine wpAny_execs_cons (Assign_Tuple_swapped (names := ["given", "due"]) (Tuple_ (args_cons (wpAny_BinOp (loc S₂ (v := .ref ag) (by exact mg') (loc S₂ (v := .ref a) (by rfl) ?_))))))
      refine addL S₂ (sg.mono k₁) L₁ (by show _ + 3 ≤ _; omega) fun c₃ h₃ N₃ S₃ k₃ L₃ => ?_
      refine args_cons (wpAny_BinOp (loc S₃ (v := .ref ad) (by exact md') (loc S₃ (v := .ref a) (by rfl) ?_)))
      refine addL S₃ ((sd.mono k₁).mono k₃) (L₁.mono k₃) (by show _ + 3 ≤ _; omega) fun c₄ h₄ N₄ S₄ k₄ L₄ => args_nil ?_
      refine mkT S₄ (by show 2 ≤ 1000; omega) fun a₅ h₅ S₅ => ?_
      refine unpkT S₅ (.head _) hh rfl fun h₆ S₆ => ?_
      refine assignInOrder_cons (bindName_ (sto S₆ fun h₇ tk₇ S₇ => ?_))
      refine assignInOrder_cons (bindName_ (sto S₇ fun h₈ tk₈ S₈ => assignInOrder_nil ?_))
      refine wpAny_execs_cons (wpAny_Continue ?_)
      have hp : (blkOf x i).isPlain none = true := by unfold Blk.isPlain; rw [hk]; rfl
      refine q1 hp _ _ _ _ S₈ (fun p hp => .tail _ (k₄ _ (k₃ _ (k₁ _ hp)))) ⟨by exact X.script, by exact X.named, ⟨c₃, by rfl, (L₃.mono k₄).mono fun p hp => .tail _ hp⟩, ⟨c₄, by rfl, L₄.mono fun p hp => .tail _ hp⟩, by exact X.waits⟩
  · rw [show ((((blkOf x i).k : Nat) : Int) == 0) = false from by simpa using hk]
    simp only [Bool.false_eq_true, if_false]
    refine wpAny_execs_nil (q2 ?_ _)
    unfold Blk.isPlain
    rw [show ((blkOf x i).k == 0) = false from by simpa using hk]; rfl
end
end Inj
end
section
open PySem PySem.W PyProof.Rows
namespace Inj
theorem stars_len : ∀ j, (lawStars.getD j Str.empty).length ≤ 2
  | 0 => by decide +kernel
  | 1 => by decide +kernel
  | 2 => by decide +kernel
  | _ + 3 => by show (Str.empty).length ≤ 2; decide +kernel
theorem names_len : ∀ j, (lawNames.getD j Str.empty).length ≤ 5
  | 0 => by decide +kernel
  | 1 => by decide +kernel
  | 2 => by decide +kernel
  | 3 => by decide +kernel
  | 4 => by decide +kernel
  | 5 => by decide +kernel
  | _ + 6 => by show (Str.empty).length ≤ 5; decide +kernel
theorem Blk.head_eq (p : Blk) (w : Bool) : p.head w = p.edge ++ ":param " ++ lawStars.getD p.st Str.empty ++ p.name w ++ ":" ++ (if p.wd = true then (" words: more" : Str) else "") := by
  rfl
theorem Blk.name_len (p : Blk) (w : Bool) : (p.name w).length ≤ 5 := by
  unfold Blk.name
  cases w
  · exact names_len _
  · show (Str.ofString "other").length ≤ 5; decide +kernel
structure FH (m : Str → Option Value) (N : List (Addr × Obj)) (p : Blk) (w : Bool) (R : List Str) : Prop where
  name : ∃ t, m "name" = some (.str (p.name w) t)
  head : ∃ t, m "head" = some (.str (p.head w) t)
  rest : ∃ a, m "rest" = some (.ref a) ∧ StrL N a R
section
variable {prog : Program} {w : World} {A : Around} {E : Value → Shared → Prop} {h : Heap} {g : Array GenState} {d : Drawn} {tk : Nat} {os : OsState} {mg mb : Str → Option Value}
  {base : Heap} {m : Str → Option Value} {N : List (Addr × Obj)}
theorem seg5 {L f l dn : Addr} {cd : Value} {G D : List Str} {wt : Option Str} {x : Int} {i : Nat} {Q : Flow → Shared → Prop} (B : Bs mg mb base) (S : St base L m N h) (X : LM m l dn N G D wt) (Y : FB m x i)
    (q : ∀ h' tk' m' t, St base L m' N h' → LM m' l dn N G D wt → FB m' x i → m' "name" = some (.str ((blkOf x i).name wt.isSome) t) → Q .next ⟨h', g, d, tk', os⟩) :
    wpAny (model prog w) A (exec (bodyT 5) (lawE L f cd)) Q E ⟨h, g, d, tk, os⟩ := by
  obtain ⟨ty, my⟩ := Y.y
  have hw := X.waits
  have ok := blkOf_ok x i
  refine wpAny_Assign_Name (IfExp_ ?_)
  cases wt with
  | some z =>
    obtain ⟨tz, hz⟩ := hw
    refine isT S hz fun tk₂ => ?_
    rw [show ((Value.str z tz) == Value.none) = false from rfl]
    rw [if_neg Bool.false_ne_true]
    exact cStr (sto S fun h₁ tk₁ S₁ => q _ _ _ _ S₁ (X.put (by decide)) (Y.put (by decide)) (by rfl))
  | none =>
    replace hw : m "waits" = some .none := hw
    refine isT S hw fun tk₂ => ?_
    rw [show (Value.none == Value.none) = true from rfl]
    rw [if_pos rfl]
    obtain ⟨vn, hln, hvn⟩ := B.names
    refine Subscript_ (glo S B B.gNames (wpAny_BinOp (wpAny_BinOp (loc S my (cInt (divI (by decide) (by decide) (cInt (modI (by decide) ?_))))))))
    have e : ((yOf x i).fdiv 60).fmod 6 = ((blkOf x i).nm : Int) := (fmod_small (a := (yOf x i).fdiv 60) (n := 6) (by decide)).1
    rw [e]
    have o1 := ok.nm
    refine itemL (hln.at fun o e => S.F.keep _ o e) hvn (by omega) (by show _ < (6 : Int); omega) (by decide) (fun t₅ => ?_) (by with_unfolding_all rfl)
    exact sto S fun h₁ tk₁ S₁ => q _ _ _ _ S₁ (X.put (by decide)) (Y.put (by decide)) (by rfl)
theorem seg6 {L f l dn : Addr} {cd : Value} {G D : List Str} {wt : Option Str} {x : Int} {i : Nat} {b : Bool} {tn : Tok} {Q : Flow → Shared → Prop} (B : Bs mg mb base) (S : St base L m N h) (hA : A.depth < recursionLimit) (X : LM m l dn N G D wt) (Y : FB m x i)
    (mn : m "name" = some (.str ((blkOf x i).name b) tn))
    (q : ∀ h' tk' m' N' t, St base L m' N' h' → (∀ p ∈ N, p ∈ N') → LM m' l dn N' G D wt → FB m' x i → m' "name" = some (.str ((blkOf x i).name b) tn) → m' "head" = some (.str ((blkOf x i).head b) t) → Q .next ⟨h', g, d, tk', os⟩) :
    wpAny (model prog w) A (exec (bodyT 6) (lawE L f cd)) Q E ⟨h, g, d, tk, os⟩ := by
  obtain ⟨ty, my⟩ := Y.y
  obtain ⟨te, me⟩ := Y.edge
  have ok := blkOf_ok x i
  have l1 := (blkOf x i).edge_len ok
  have l2 := (blkOf x i).name_len b
  have l3 := stars_len (blkOf x i).st
  have c1 : (Str.ofString ":param ").length = 7 := by decide +kernel
  have c2 : (Str.ofString ":").length = 1 := by decide +kernel
  have c3 : (Str.ofString " words: more").length = 12 := by decide +kernel
  have c4 : (Str.ofString "").length = 0 := by decide +kernel
  obtain ⟨ot, pmt, ct, doct, hot, hdt, _⟩ := (B.keeps S.F.keep).fStars
  refine wpAny_Assign_Name (wpAny_BinOp (wpAny_BinOp (wpAny_BinOp (wpAny_BinOp (wpAny_BinOp (loc S me (cStr (addS (by rw [c1, sizeLine_eq]; omega) fun t₁ tk₁ => ?_))))))))
  refine Subscript_ (Call_ (glo S B B.gStars (callWith_fn0 hot hdt (stars_call B S hA fun a h₂ tk₂ vt hvt S₂ K₂ => ?_))))
  refine wpAny_BinOp (wpAny_BinOp (loc S₂ my (cInt (divI (by decide) (by decide) (cInt (modI (by decide) ?_))))))
  have e : ((yOf x i).fdiv 360).fmod 3 = ((blkOf x i).st : Int) := (fmod_small (a := (yOf x i).fdiv 360) (n := 3) (by decide)).1
  rw [e]
  have o1 := ok.st
  have hla : h₂.IsList a vt.toArray := ⟨_, (S₂.N _ (.head _)).1, rfl, 0, rfl⟩
  refine itemL hla hvt (by omega) (by show _ < (3 : Int); omega) (by decide) (fun t₃ => ?_) (by with_unfolding_all rfl)
  rw [Int.toNat_natCast]
  refine addS (by rw [str_append_length, c1, sizeLine_eq]; omega) fun t₄ tk₄ => ?_
  refine loc S₂ mn (addS (by rw [str_append_length, str_append_length, c1, sizeLine_eq]; omega) fun t₅ tk₅ => ?_)
  refine cStr (addS (by rw [str_append_length, str_append_length, str_append_length, c1, c2, sizeLine_eq]; omega) fun t₆ tk₆ => ?_)
  refine IfExp_ (wpAny_isTrue_value (wpAny_BinOp (loc S₂ my (cInt (modI (by decide) (truI ?_))))))
  have hb : ((yOf x i).fmod 3 != 0) = (blkOf x i).wd := rfl
  rw [hb]
  have fin : ∀ (z : Str) (hz : z = (if (blkOf x i).wd then (" words: more" : Str) else "")) (hl : z.length ≤ 12) (tz : Tok) (tk' : Nat), wpAny (model prog w) A (binaryOp .Add (.str ((blkOf x i).edge ++ ":param " ++ lawStars.getD (blkOf x i).st Str.empty ++ (blkOf x i).name b ++ ":") t₆) (.str z tz))
      (fun v s => wpAny (model prog w) A (storeName (lawE L f cd) "head" v) (fun _ => Q .next) E s) E ⟨h₂, g, d, tk', os⟩ := fun z hz hl tz tk' => by
    refine addS (by rw [str_append_length, str_append_length, str_append_length, str_append_length, c1, c2, sizeLine_eq]; omega) fun t₇ tk₇ => ?_
    rw [hz, ← Blk.head_eq]
    exact sto S₂ fun h₃ tk₈ S₃ => q _ _ _ _ t₇ S₃ (fun p hp => .tail _ hp) ((X.mono fun p hp => .tail _ hp).put (by decide)) (Y.put (by decide)) (by exact mn) (by rfl)
  cases hbb : (blkOf x i).wd with
  | true =>
    rw [if_pos rfl]
    exact cStr (fin _ (by rw [hbb]; rfl) (by rw [c3]; omega) _ _)
  | false =>
    rw [if_neg Bool.false_ne_true]
    exact cStr (fin _ (by rw [hbb]; rfl) (by rw [c4]; omega) _ _)
end
end Inj
end
section
open PySem PySem.W PyProof.Rows
namespace Inj
def Blk.rest0 (p : Blk) : List Str := List.replicate p.rc (p.inner ++ "further words")
def Blk.rest1 (p : Blk) : List Str := p.rest0 ++ (if p.k = 2 then [p.inner ++ "as here::", "", p.inner ++ "    x = 1", p.inner ++ "    y = 2"] else [])
theorem Blk.rest_eq (p : Blk) : p.rest = p.rest1 ++ (if p.k = 3 then [p.inner ++ "no blank line"] else []) := rfl
theorem Blk.rest0_len (p : Blk) (o : p.Ok) : p.rest0.length ≤ 2 := by
  unfold Blk.rest0; rw [List.length_replicate]; have := o.rc; omega
theorem Blk.rest1_len (p : Blk) (o : p.Ok) : p.rest1.length ≤ 6 := by
  unfold Blk.rest1; rw [List.length_append]
  have := p.rest0_len o
  split <;> simp <;> omega
theorem Blk.rest_len (p : Blk) (o : p.Ok) : p.rest.length ≤ 7 := by
  rw [Blk.rest_eq, List.length_append]
  have := p.rest1_len o
  split <;> simp <;> omega
structure FR (m : Str → Option Value) (p : Blk) (w : Bool) : Prop where
  name : ∃ t, m "name" = some (.str (p.name w) t)
  head : ∃ t, m "head" = some (.str (p.head w) t)
theorem FR.put {m : Str → Option Value} {p : Blk} {b : Bool} (X : FR m p b) {z : Str} {v : Value} (hx : z ∉ (["name", "head"] : List Str)) : FR (upd m z v) p b := by
  have ne : ∀ y ∈ (["name", "head"] : List Str), upd m z v y = m y := fun y hy => by
    unfold Inj.upd
    rw [if_neg]
    rintro rfl
    exact hx hy
  exact ⟨by rw [ne _ (by simp)]; exact X.name, by rw [ne _ (by simp)]; exact X.head⟩
section
variable {prog : Program} {w : World} {A : Around} {E : Value → Shared → Prop} {h : Heap} {g : Array GenState} {d : Drawn} {tk : Nat} {os : OsState} {mg mb : Str → Option Value}
  {base : Heap} {m : Str → Option Value} {N : List (Addr × Obj)}
theorem seg789 {L f l dn : Addr} {cd : Value} {G D : List Str} {wt : Option Str} {x : Int} {i : Nat} {b : Bool} {rest : List Stmt} {Q : Flow → Shared → Prop} (S : St base L m N h) (X : LM m l dn N G D wt) (Y : FB m x i) (Z : FR m (blkOf x i) b)
    (q : ∀ h' tk' m' N', St base L m' N' h' → (∀ p ∈ N, p ∈ N') → LM m' l dn N' G D wt → FB m' x i → FR m' (blkOf x i) b → (∃ a, m' "rest" = some (.ref a) ∧ StrL N' a (blkOf x i).rest) → wpAny (model prog w) A (execs rest (lawE L f cd)) Q E ⟨h', g, d, tk', os⟩) :
    wpAny (model prog w) A (execs (bodyT 7 :: bodyT 8 :: bodyT 9 :: rest) (lawE L f cd)) Q E ⟨h, g, d, tk, os⟩ := by
  obtain ⟨ty, my⟩ := Y.y
  obtain ⟨tk0, mk⟩ := Y.kind
  obtain ⟨ti, mi⟩ := Y.inner
  have ok := blkOf_ok x i
  have l1 := (blkOf x i).inner_len ok
  have c1 : (Str.ofString "further words").length = 13 := by decide +kernel
  have c2 : (Str.ofString "as here::").length = 9 := by decide +kernel
  have c3 : (Str.ofString "    x = 1").length = 9 := by decide +kernel
  have c4 : (Str.ofString "    y = 2").length = 9 := by decide +kernel
  have c5 : (Str.ofString "no blank line").length = 13 := by decide +kernel
  refine wpAny_execs_cons (wpAny_Assign_Name (wpAny_BinOp (List_ (args_cons (wpAny_BinOp (loc S mi (cStr (addS (by rw [c1, sizeLine_eq]; omega) fun t₁ tk₁ => args_nil ?_)))))))) 
  refine mkL S (by show 1 ≤ 1000; omega) fun a h₁ _ S₁ _ => ?_
  refine wpAny_BinOp (wpAny_BinOp (loc S₁ my (cInt (divI (by decide) (by decide) (cInt (modI (by decide) ?_))))))
  have e : ((yOf x i).fdiv 5).fmod 3 = ((blkOf x i).rc : Int) := (fmod_small (a := (yOf x i).fdiv 5) (n := 3) (by decide)).1
  rw [e]
  have orc := ok.rc
  refine mul_list S₁.F S₁.N (S₁.N _ (.head _)).1 (by omega) (by omega) (by show 1 * _ ≤ _; rw [Int.toNat_natCast]; omega) fun h₂ F₂ N₂ => ?_
  have e1 : (List.foldl (fun x1 x2 => x1 ++ x2) #[] (List.replicate (if (#[Value.str ((blkOf x i).inner ++ "further words") t₁] : Array Value).isEmpty = true then 0 else ((blkOf x i).rc : Int).toNat) #[Value.str ((blkOf x i).inner ++ "further words") t₁])) = (List.replicate (blkOf x i).rc (.str ((blkOf x i).inner ++ "further words") t₁) : List Value).toArray := by
    have : (blkOf x i).rc = 0 ∨ (blkOf x i).rc = 1 ∨ (blkOf x i).rc = 2 := by omega
    rcases this with h | h | h <;> rw [h] <;> rfl
  have S₂ : St base L m ((h₁.objs.size, listO (List.replicate (blkOf x i).rc (.str ((blkOf x i).inner ++ "further words") t₁)) 0) :: (a, listO [Value.str ((blkOf x i).inner ++ "further words") t₁] 0) :: N) h₂ := by
    rw [e1] at N₂; exact ⟨F₂, N₂⟩
  dsimp only
  refine sto S₂ fun h₃ tk₃ S₃ => ?_
  have R₃ : StrL ((h₁.objs.size, listO (List.replicate (blkOf x i).rc (.str ((blkOf x i).inner ++ "further words") t₁)) 0) :: (a, listO [Value.str ((blkOf x i).inner ++ "further words") t₁] 0) :: N) h₁.objs.size (blkOf x i).rest0 := ⟨List.replicate (blkOf x i).rc (.str ((blkOf x i).inner ++ "further words") t₁), 0, List.mem_cons_self .., (by
    unfold Blk.rest0
    have : ∀ n : Nat, StrsAre (List.replicate n (.str ((blkOf x i).inner ++ "further words") t₁)) (List.replicate n ((blkOf x i).inner ++ "further words")) := fun n => by
      induction n with
      | zero => exact .nil
      | succ n ih => exact .cons _ _ ih
    exact this _)⟩
  generalize hN₃ : ((h₁.objs.size, listO (List.replicate (blkOf x i).rc (.str ((blkOf x i).inner ++ "further words") t₁)) 0) :: (a, listO [Value.str ((blkOf x i).inner ++ "further words") t₁] 0) :: N) = N₃ at S₃ R₃
  have k₃ : ∀ p ∈ N, p ∈ N₃ := fun p hp => by rw [← hN₃]; exact .tail _ (.tail _ hp)
  have l0 := (blkOf x i).rest0_len ok
  -- if kind == 2
  have next : ∀ h' tk' m' N', St base L m' N' h' → (∀ p ∈ N, p ∈ N') → LM m' l dn N' G D wt → FB m' x i → FR m' (blkOf x i) b → (∃ a, m' "rest" = some (.ref a) ∧ StrL N' a (blkOf x i).rest1) →
      wpAny (model prog w) A (execs (bodyT 9 :: rest) (lawE L f cd)) Q E ⟨h', g, d, tk', os⟩ := by
    rintro h' tk' m' N' S' k' X' Y' Z' ⟨a', ma, sa⟩
    obtain ⟨tk0', mk'⟩ := Y'.kind
    obtain ⟨ti', mi'⟩ := Y'.inner
    refine wpAny_execs_cons (wpAny_If (eqT S' mk' fun tk₄ => ?_))
    by_cases hk : (blkOf x i).k = 3
    · rw [show ((((blkOf x i).k : Nat) : Int) == 3) = true from by rw [hk]; rfl, if_pos rfl]
      refine wpAny_execs_cons (wpAny_Assign_Name (wpAny_BinOp (loc S' ma (List_ (args_cons (wpAny_BinOp (loc S' mi' (cStr (addS (by rw [c5, sizeLine_eq]; omega) fun t₅ tk₅ => args_nil ?_)))))))))
      refine dispL S' (x := [(blkOf x i).inner ++ "no blank line"]) (.cons _ _ .nil) (by show 1 ≤ 1000; omega) fun c h₆ N₆ S₆ k₆ L₆ => ?_
      have l2 := (blkOf x i).rest1_len ok
      refine addL S₆ (sa.mono k₆) L₆ (by show _ + 1 ≤ _; omega) fun c₇ h₇ N₇ S₇ k₇ L₇ => ?_
      refine sto S₇ fun h₈ tk₈ S₈ => wpAny_execs_nil ?_
      refine q _ _ _ _ S₈ (fun p hp => k₇ _ (k₆ _ (k' _ hp))) ((X'.mono fun p hp => k₇ _ (k₆ _ hp)).put (by decide)) (Y'.put (by decide)) (Z'.put (by decide)) ⟨c₇, by rfl, ?_⟩
      rw [Blk.rest_eq, if_pos hk]; exact L₇
    · rw [show ((((blkOf x i).k : Nat) : Int) == 3) = false from by simp only [beq_eq_false_iff_ne]; omega, if_neg Bool.false_ne_true]
      refine wpAny_execs_nil (q _ _ _ _ S' k' X' Y' Z' ⟨a', ma, ?_⟩)
      rw [Blk.rest_eq, if_neg hk, List.append_nil]; exact sa
  have X₃ := (X.mono k₃).put (x := "rest") (v := .ref h₁.objs.size) (by decide)
  have Y₃ := Y.put (z := "rest") (v := .ref h₁.objs.size) (by decide)
  have Z₃ := Z.put (z := "rest") (v := .ref h₁.objs.size) (by decide)
  obtain ⟨tk0', mk'⟩ := Y₃.kind
  obtain ⟨ti', mi'⟩ := Y₃.inner
  refine wpAny_execs_cons (wpAny_If (eqT S₃ mk' fun tk₄ => ?_))
  by_cases hk : (blkOf x i).k = 2
  · rw [show ((((blkOf x i).k : Nat) : Int) == 2) = true from by rw [hk]; rfl, if_pos rfl]
    refine wpAny_execs_cons (wpAny_Assign_Name (wpAny_BinOp (loc S₃ (v := .ref h₁.objs.size) (by rfl) (List_ (args_cons (wpAny_BinOp (loc S₃ mi' (cStr (addS (by rw [c2, sizeLine_eq]; omega) fun t₅ tk₅ => args_cons (cStr ?_)))))))))) 
    refine args_cons (wpAny_BinOp (loc S₃ mi' (cStr (addS (by rw [c3, sizeLine_eq]; omega) fun t₆ tk₆ => ?_))))
    refine args_cons (wpAny_BinOp (loc S₃ mi' (cStr (addS (by rw [c4, sizeLine_eq]; omega) fun t₇ tk₇ => args_nil ?_))))
    refine dispL S₃ (x := [(blkOf x i).inner ++ "as here::", "", (blkOf x i).inner ++ "    x = 1", (blkOf x i).inner ++ "    y = 2"]) (.cons _ _ (.cons _ _ (.cons _ _ (.cons _ _ .nil)))) (by show 4 ≤ 1000; omega) fun c h₆ N₆ S₆ k₆ L₆ => ?_
    refine addL S₆ (R₃.mono k₆) L₆ (by show _ + 4 ≤ _; omega) fun c₇ h₇ N₇ S₇ k₇ L₇ => ?_
    refine sto S₇ fun h₈ tk₈ S₈ => wpAny_execs_nil ?_
    refine next _ _ _ _ S₈ (fun p hp => k₇ _ (k₆ _ (k₃ _ hp))) ((X₃.mono fun p hp => k₇ _ (k₆ _ hp)).put (by decide)) (Y₃.put (by decide)) (Z₃.put (by decide)) ⟨c₇, by rfl, ?_⟩
    unfold Blk.rest1; rw [if_pos hk]; exact L₇
  · rw [show ((((blkOf x i).k : Nat) : Int) == 2) = false from by simp only [beq_eq_false_iff_ne]; omega, if_neg Bool.false_ne_true]
    refine wpAny_execs_nil (next _ _ _ _ S₃ k₃ X₃ Y₃ Z₃ ⟨_, by rfl, ?_⟩)
    unfold Blk.rest1; rw [if_neg hk, List.append_nil]; exact R₃
end
end Inj
end
section
open PySem PySem.W PyProof.Rows
namespace Inj
def strOf? : Value → Option Str | .str x _ => some x | _ => none
/-- the table of named texts as a function -/
def nmOf (kvs : List (Str × Value)) (k : Str) : Option Str := (valueAt kvs k).bind strOf?
theorem Named.at {kvs : List (Str × Value)} (H : Named kvs) {k : Str} {v : Value} (hv : valueAt kvs k = some v) : k ∈ lawNames.take 4 ∧ ∃ x ∈ lawTexts, ∃ t, v = .str x t := by
  unfold valueAt at hv
  cases hf : kvs.find? (fun kv => kv.1 = k) with
  | none => rw [hf] at hv; cases hv
  | some kv =>
    rw [hf] at hv
    have e1 : kv.1 = k := by simpa using List.find?_some hf
    have e2 : kv.2 = v := Option.some.inj hv
    have := H _ (List.mem_of_find?_eq_some hf)
    rw [e1, e2] at this
    exact this
theorem Named.nm {kvs : List (Str × Value)} (H : Named kvs) {k y : Str} (hy : nmOf kvs k = some y) : k ∈ lawNames.take 4 ∧ y ∈ lawTexts := by
  unfold nmOf at hy
  cases hv : valueAt kvs k with
  | none => rw [hv] at hy; cases hy
  | some v =>
    obtain ⟨h1, x, hx, t, rfl⟩ := H.at hv
    rw [hv] at hy
    cases hy
    exact ⟨h1, hx⟩
theorem texts_len {x : Str} (hx : x ∈ lawTexts) : x.length ≤ 22 := by
  have : ∀ x ∈ lawTexts, x.length ≤ 22 := by decide +kernel
  exact this x hx
/-- the table stands in the ledger -/
structure DT (prog : Program) (w : World) (dn : Addr) (N : List (Addr × Obj)) (kvs : List (Str × Value)) : Prop where
  at_ : ∃ o, (dn, o) ∈ N ∧ o.IsDictOf (strKind prog w) kvs
  mods : (dn == sysModules) = false
  named : Named kvs
theorem DT.mono {prog : Program} {w : World} {dn : Addr} {N N' : List (Addr × Obj)} {kvs : List (Str × Value)} (X : DT prog w dn N kvs) (k : ∀ p ∈ N, p ∈ N') : DT prog w dn N' kvs :=
  { X with at_ := let ⟨o, h, d⟩ := X.at_; ⟨o, k _ h, d⟩ }
section
variable {prog : Program} {w : World} {A : Around} {E : Value → Shared → Prop} {h : Heap} {g : Array GenState} {d : Drawn} {tk : Nat} {os : OsState} {mg mb : Str → Option Value}
  {base : Heap} {m : Str → Option Value} {N : List (Addr × Obj)} {L : Addr}
theorem DT.mapOf {dn : Addr} {kvs : List (Str × Value)} (X : DT prog w dn N kvs) (S : St base L m N h) : h.MapOf (strKind prog w) dn (valueAt kvs) := by
  obtain ⟨o, ho, hd⟩ := X.at_
  exact (Heap.dictOf_iff.mpr ⟨o, (S.N _ ho).1, hd⟩).mapOf
theorem notInD {dn : Addr} {kvs : List (Str × Value)} {k : Str} {t : Tok} {Q : Value → Shared → Prop} (X : DT prog w dn N kvs) (S : St base L m N h) (q : ∀ tk', Q (.bool (!(nmOf kvs k).isSome)) ⟨h, g, d, tk', os⟩) :
    wpAny (model prog w) A (compareOp .NotIn (.str k t) (.ref dn)) Q E ⟨h, g, d, tk, os⟩ := by
  refine wpAny_notIn_of (s := ⟨h, g, d, tk, os⟩) (k := k) (strKind_is prog w k t) X.mods (X.mapOf S) ?_
  have e : (nmOf kvs k).isSome = (valueAt kvs k).isSome := by
    unfold nmOf
    cases hv : valueAt kvs k with
    | none => rfl
    | some v => obtain ⟨_, x, _, t, rfl⟩ := X.named.at hv; rfl
  rw [← e]; exact q _
theorem inD {dn : Addr} {kvs : List (Str × Value)} {k : Str} {t : Tok} {Q : Value → Shared → Prop} (X : DT prog w dn N kvs) (S : St base L m N h) (q : ∀ tk', Q (.bool (nmOf kvs k).isSome) ⟨h, g, d, tk', os⟩) :
    wpAny (model prog w) A (compareOp .In (.str k t) (.ref dn)) Q E ⟨h, g, d, tk, os⟩ := by
  refine wpAny_in_of (s := ⟨h, g, d, tk, os⟩) (k := k) (strKind_is prog w k t) X.mods (X.mapOf S) ?_
  have e : (nmOf kvs k).isSome = (valueAt kvs k).isSome := by
    unfold nmOf
    cases hv : valueAt kvs k with
    | none => rfl
    | some v => obtain ⟨_, x, _, t, rfl⟩ := X.named.at hv; rfl
  rw [← e]; exact q _
theorem itemD {value slice : Expr} {dn : Addr} {kvs : List (Str × Value)} {k y : Str} {t : Tok} {Q : Value → Shared → Prop} (X : DT prog w dn N kvs) (S : St base L m N h) (hy : nmOf kvs k = some y) (q : ∀ t' tk', Q (.str y t') ⟨h, g, d, tk', os⟩)
    (hs : subscripted slice false (.ref dn) (.str k t) = operate [.ref dn, .str k t] (getItem (.ref dn) (.str k t)) := by with_unfolding_all rfl) :
    wpAny (model prog w) A (subscriptTail value slice (.ref dn) (.str k t)) Q E ⟨h, g, d, tk, os⟩ := by
  have hm := X.mapOf S
  unfold nmOf at hy
  cases hv : valueAt kvs k with
  | none => rw [hv] at hy; cases hy
  | some v =>
    obtain ⟨_, x, _, t', rfl⟩ := X.named.at hv
    rw [hv] at hy
    cases hy
    exact tail_any (T := "dict") (s := ⟨h, g, d, tk, os⟩) (Heap.MapOf.typeIs (s := ⟨h, g, d, tk, os⟩) hm) slot_dict_getitem.lookup (wpAny_getItem_of (s := ⟨h, g, d, tk, os⟩) (k := k) (strKind_is prog w k t) hm hv (q _ _)) hs
end
end Inj
end
section
open PySem PySem.W PyProof.Rows
namespace Inj
section
variable {prog : Program} {w : World} {A : Around} {E : Value → Shared → Prop} {h : Heap} {g : Array GenState} {d : Drawn} {tk : Nat} {os : OsState} {mg mb : Str → Option Value}
  {base : Heap} {m : Str → Option Value} {N : List (Addr × Obj)} {L : Addr}
theorem stoGiven {f l dn a : Addr} {cd : Value} {G G' D : List Str} {wt : Option Str} {Q : Unit → Shared → Prop} (S : St base L m N h) (X : LM m l dn N G D wt) (hs : StrL N a G')
    (q : ∀ h' tk', St base L (upd m "given" (.ref a)) N h' → LM (upd m "given" (.ref a)) l dn N G' D wt → Q () ⟨h', g, d, tk', os⟩) :
    wpAny (model prog w) A (storeName (lawE L f cd) "given" (.ref a)) Q E ⟨h, g, d, tk, os⟩ :=
  sto S fun h₁ tk₁ S₁ => q _ _ S₁ ⟨by exact X.script, by exact X.named, ⟨a, by rfl, hs⟩, let ⟨b, e, s⟩ := X.due; ⟨b, by exact e, s⟩, by exact X.waits⟩
theorem stoDue {f l dn a : Addr} {cd : Value} {G D D' : List Str} {wt : Option Str} {Q : Unit → Shared → Prop} (S : St base L m N h) (X : LM m l dn N G D wt) (hs : StrL N a D')
    (q : ∀ h' tk', St base L (upd m "due" (.ref a)) N h' → LM (upd m "due" (.ref a)) l dn N G D' wt → Q () ⟨h', g, d, tk', os⟩) :
    wpAny (model prog w) A (storeName (lawE L f cd) "due" (.ref a)) Q E ⟨h, g, d, tk, os⟩ :=
  sto S fun h₁ tk₁ S₁ => q _ _ S₁ ⟨by exact X.script, by exact X.named, let ⟨b, e, s⟩ := X.given; ⟨b, by exact e, s⟩, ⟨a, by rfl, hs⟩, by exact X.waits⟩
theorem stoWaits {f l dn : Addr} {cd : Value} {G D : List Str} {wt wt' : Option Str} {v : Value} {Q : Unit → Shared → Prop} (S : St base L m N h) (X : LM m l dn N G D wt) (hv : WaitV (some v) wt')
    (q : ∀ h' tk', St base L (upd m "waits" v) N h' → LM (upd m "waits" v) l dn N G D wt' → Q () ⟨h', g, d, tk', os⟩) :
    wpAny (model prog w) A (storeName (lawE L f cd) "waits" v) Q E ⟨h, g, d, tk, os⟩ :=
  sto S fun h₁ tk₁ S₁ => q _ _ S₁ ⟨by exact X.script, by exact X.named, let ⟨b, e, s⟩ := X.given; ⟨b, by exact e, s⟩, let ⟨b, e, s⟩ := X.due; ⟨b, by exact e, s⟩, by exact hv⟩
theorem waitsIf {f : Addr} {cd : Value} {wt : Option Str} {k k1 k2 : Nat} {p1 p2 p3 p4 p5 p6 p7 p8 p9 : Pos} {Q : Value → Shared → Prop} (S : St base L m N h) (hw : WaitV (m "waits") wt)
    (q : ∀ c h' N' tk', St base L m N' h' → (∀ p ∈ N, p ∈ N') → StrL N' c (waitD wt) → Q (.ref c) ⟨h', g, d, tk', os⟩) :
    wpAny (model prog w) A (eval (.IfExp (.Compare (.Name "waits" p1) [.IsNot] [.Constant .none k p2] p3) (.List [.Constant (.str "\n") k1 p4, .Name "waits" p5, .Constant (.str "\n") k2 p6] p7) (.List [] p8) p9) (lawE L f cd)) Q E ⟨h, g, d, tk, os⟩ := by
  refine IfExp_ ?_
  cases wt with
  | none =>
    replace hw : m "waits" = some .none := hw
    refine isNotT S hw fun tk₅ => ?_
    rw [show (!(Value.none == Value.none)) = false from rfl, if_neg Bool.false_ne_true]
    refine List_ (args_nil ?_)
    exact dispL S (x := []) .nil (by show 0 ≤ 1000; omega) fun c₁ h₅ N₅ S₅ k₅ L₅ => q c₁ h₅ N₅ _ S₅ k₅ L₅
  | some z =>
    obtain ⟨tz, hz⟩ := hw
    refine isNotT S hz fun tk₅ => ?_
    rw [show (!(Value.str z tz == Value.none)) = true from rfl, if_pos rfl]
    refine List_ (args_cons (cStr (args_cons (loc S hz (args_cons (cStr (args_nil ?_)))))))
    exact dispL S (x := ["\n", z, "\n"]) (.cons _ _ (.cons _ _ (.cons _ _ .nil))) (by show 3 ≤ 1000; omega) fun c₁ h₅ N₅ S₅ k₅ L₅ => q c₁ h₅ N₅ _ S₅ k₅ L₅
theorem seg101112 {f l dn : Addr} {cd : Value} {G D : List Str} {wt : Option Str} {x : Int} {i : Nat} {b : Bool} {rest : List Stmt} {Q : Flow → Shared → Prop} (S : St base L m N h) (X : LM m l dn N G D wt) (Y : FB m x i) (Z : FR m (blkOf x i) b)
    (hG : G.length ≤ 1000) (hD : D.length ≤ 1000) (hr : ∃ a, m "rest" = some (.ref a) ∧ StrL N a (blkOf x i).rest)
    (q : ∀ h' tk' m' N', St base L m' N' h' → (∀ p ∈ N, p ∈ N') → LM m' l dn N' (G ++ [(blkOf x i).head b] ++ (blkOf x i).rest) (D ++ waitD wt ++ [(blkOf x i).head b] ++ (blkOf x i).rest) none → FB m' x i → FR m' (blkOf x i) b →
      (∃ a, m' "rest" = some (.ref a) ∧ StrL N' a (blkOf x i).rest) → wpAny (model prog w) A (execs rest (lawE L f cd)) Q E ⟨h', g, d, tk', os⟩) :
    wpAny (model prog w) A (execs (bodyT 10 :: bodyT 11 :: bodyT 12 :: rest) (lawE L f cd)) Q E ⟨h, g, d, tk, os⟩ := by
  have ok := blkOf_ok x i
  have lr := (blkOf x i).rest_len ok
  obtain ⟨th, mh⟩ := Z.head
  obtain ⟨ag, mg', sg⟩ := X.given
  obtain ⟨ar, mr, sr⟩ := hr
  refine wpAny_execs_cons (wpAny_Assign_Name (wpAny_BinOp (wpAny_BinOp (loc S mg' (List_ (args_cons (loc S mh (args_nil ?_))))))))
  refine dispL S (x := [(blkOf x i).head b]) (.cons _ _ .nil) (by show 1 ≤ 1000; omega) fun c₁ h₁ N₁ S₁ k₁ L₁ => ?_
  refine addL S₁ (sg.mono k₁) L₁ (by show _ + 1 ≤ _; omega) fun c₂ h₂ N₂ S₂ k₂ L₂ => ?_
  refine loc S₂ mr (addL S₂ L₂ ((sr.mono k₁).mono k₂) (by rw [List.length_append]; show _ + 1 + _ ≤ _; omega) fun c₃ h₃ N₃ S₃ k₃ L₃ => ?_)
  refine stoGiven S₃ (X.mono fun p hp => k₃ _ (k₂ _ (k₁ _ hp))) L₃ fun h₄ tk₄ S₄ X₄ => ?_
  have Y₄ := Y.put (z := "given") (v := .ref c₃) (by decide)
  have Z₄ := Z.put (z := "given") (v := .ref c₃) (by decide)
  have mr₄ : upd m "given" (.ref c₃) "rest" = some (.ref ar) := by exact mr
  have sr₄ := ((sr.mono k₁).mono k₂).mono k₃
  have kN : ∀ p ∈ N, p ∈ N₃ := fun p hp => k₃ _ (k₂ _ (k₁ _ hp))
  generalize upd m "given" (.ref c₃) = m₄ at S₄ X₄ Y₄ Z₄ mr₄
  obtain ⟨th', mh'⟩ := Z₄.head
  obtain ⟨ad, md, sd⟩ := X₄.due
  have hw := X₄.waits
  -- due
  refine wpAny_execs_cons (wpAny_Assign_Name (wpAny_BinOp (wpAny_BinOp (wpAny_BinOp (loc S₄ md (waitsIf S₄ hw fun c h' N' tk' S' k' L' => ?_))))))
  have lw : (waitD wt).length ≤ 3 := by cases wt <;> simp [waitD]
  refine addL S' (sd.mono k') L' (by omega) fun c₂ h₂ N₂ S₂ k₂ L₂ => ?_
  refine List_ (args_cons (loc S₂ mh' (args_nil ?_)))
  refine dispL S₂ (x := [(blkOf x i).head b]) (.cons _ _ .nil) (by show 1 ≤ 1000; omega) fun c₃ h₃ N₃ S₃ k₃ L₃ => ?_
  refine addL S₃ (L₂.mono k₃) L₃ (by rw [List.length_append]; show _ + 1 ≤ _; omega) fun c₄ h₄ N₄ S₄ k₄ L₄ => ?_
  refine loc S₄ mr₄ (addL S₄ L₄ (((sr₄.mono k').mono k₂).mono fun p hp => k₄ _ (k₃ _ hp)) (by rw [List.length_append, List.length_append]; show _ + 1 + _ ≤ _; omega) fun c₅ h₅ N₅ S₅ k₅ L₅ => ?_)
  have kk : ∀ p ∈ N', p ∈ N₅ := fun p hp => k₅ _ (k₄ _ (k₃ _ (k₂ _ hp)))
  refine stoDue S₅ (X₄.mono fun p hp => kk _ (k' _ hp)) L₅ fun h₆ tk₆ S₆ X₆ => ?_
  refine wpAny_execs_cons (wpAny_Assign_Name (wpAny_Constant_none (stoWaits (wt' := none) S₆ X₆ rfl fun h₇ tk₇ S₇ X₇ => ?_)))
  exact q _ _ _ _ S₇ (fun p hp => kk _ (k' _ (kN _ hp))) X₇ ((Y₄.put (by decide)).put (by decide)) ((Z₄.put (by decide)).put (by decide)) ⟨ar, by exact mr₄, sr₄.mono fun p hp => kk _ (k' _ hp)⟩
theorem seg13 {f l dn : Addr} {cd : Value} {G D : List Str} {wt : Option Str} {x : Int} {i : Nat} {b : Bool} {kvs : List (Str × Value)} {Q : Flow → Shared → Prop} (S : St base L m N h) (X : LM m l dn N G D wt) (Y : FB m x i) (Z : FR m (blkOf x i) b)
    (T : DT prog w dn N kvs) (hr : ∃ a, m "rest" = some (.ref a) ∧ StrL N a (blkOf x i).rest)
    (q : ∀ h' tk' m', St base L m' N h' → LM m' l dn N G D wt → FB m' x i → WaitV (m' "text") ((blkOf x i).text (nmOf kvs) b) → Q .next ⟨h', g, d, tk', os⟩) :
    wpAny (model prog w) A (exec (bodyT 13) (lawE L f cd)) Q E ⟨h, g, d, tk, os⟩ := by
  have ok := blkOf_ok x i
  have lr := (blkOf x i).rest_len ok
  have l1 := (blkOf x i).edge_len ok
  have l2 := (blkOf x i).inner_len ok
  have c1 : (Str.ofString " ").length = 1 := by decide +kernel
  obtain ⟨tn, mn⟩ := Z.name
  obtain ⟨te, me⟩ := Y.edge
  obtain ⟨ti, mi⟩ := Y.inner
  obtain ⟨ar, mr, sr⟩ := hr
  refine wpAny_Assign_Name (IfExp_ (wpAny_isTrue_Compare1 (loc S mn (loc S X.named (notInD T S fun tk₁ => truB ?_))) (by with_unfolding_all rfl)))
  cases hy : nmOf kvs ((blkOf x i).name b) with
  | none =>
    simp only [Option.isSome_none, Bool.not_false, if_true]
    refine wpAny_Constant_none (sto S fun h₁ tk₁ S₁ => q _ _ _ S₁ (X.put (by decide)) (Y.put (by decide)) ?_)
    have : (blkOf x i).text (nmOf kvs) b = none := by unfold Blk.text; rw [hy]; rfl
    rw [this]; rfl
  | some y =>
    simp only [Option.isSome_some, Bool.not_true, Bool.false_eq_true, if_false]
    have ly := texts_len (T.named.nm hy).2
    obtain ⟨vs, hl, hi⟩ := sr.isList S
    have el := StrsAre.length hi
    have fin : ∀ (z : Str) (tz : Tok) (tk' : Nat), z = (if (blkOf x i).rest.isEmpty then (blkOf x i).edge ++ " " else (blkOf x i).inner) → z.length ≤ 8 →
        wpAny (model prog w) A (eval (.Subscript (.Name "named" ⟨70, 80, 70, 85⟩) (.Name "name" ⟨70, 86, 70, 90⟩) ⟨70, 80, 70, 91⟩) (lawE L f cd)) (fun v₂ s₂ => wpAny (model prog w) A (binaryOp .Add (.str z tz) v₂)
          (fun v s => wpAny (model prog w) A (storeName (lawE L f cd) "text" v) (fun _ => Q .next) E s) E s₂) E ⟨h, g, d, tk', os⟩ := by
      intro z tz tk' hz hlz
      refine Subscript_ (loc S X.named (loc S mn (itemD T S hy (fun t' tk₂ => ?_) (by with_unfolding_all rfl))))
      refine addS (by rw [sizeLine_eq]; omega) fun t₃ tk₃ => sto S fun h₁ tk₄ S₁ => q _ _ _ S₁ (X.put (by decide)) (Y.put (by decide)) ?_
      have : (blkOf x i).text (nmOf kvs) b = some (z ++ y) := by unfold Blk.text; rw [hy, hz]; rfl
      rw [this]
      exact ⟨t₃, by rfl⟩
    refine wpAny_BinOp (IfExp_ (wpAny_isTrue_value (loc S mr (truL hl (by rw [List.size_toArray, el]; omega) fun tk₂ => ?_))))
    have ee : vs.toArray.isEmpty = (blkOf x i).rest.isEmpty := by
      have h0 : vs.isEmpty = (blkOf x i).rest.isEmpty := by
        cases vs <;> cases hh : (blkOf x i).rest <;> rw [hh] at el <;> simp_all
      rw [List.isEmpty_toArray]; exact h0
    rw [ee]
    cases he : (blkOf x i).rest.isEmpty with
    | true =>
      rw [if_neg (by simp)]
      exact wpAny_BinOp (loc S me (cStr (addS (by rw [c1, sizeLine_eq]; omega) fun t₄ tk₄ => fin _ _ _ (by rw [he]; rfl) (by rw [str_append_length, c1]; omega))))
    | false =>
      rw [if_pos (by simp)]
      exact loc S mi (fin _ _ _ (by rw [he]; rfl) l2)
theorem seg14 {f l dn : Addr} {cd : Value} {G D : List Str} {wt : Option Str} {x : Int} {i : Nat} {Q : Flow → Shared → Prop} (S : St base L m N h) (X : LM m l dn N G D none) (Y : FB m x i) (mt : WaitV (m "text") wt) (hG : G.length ≤ 2000) (hD : D.length ≤ 2000)
    (q : ∀ h' tk' m' N', St base L m' N' h' → (∀ p ∈ N, p ∈ N') → LM m' l dn N' (G ++ if (blkOf x i).k = 3 then [] else [(blkOf x i).blank]) (D ++ if (blkOf x i).k = 3 then [] else match wt with | none => [(blkOf x i).blank] | some t => [(blkOf x i).blank, t, "\n", (blkOf x i).blank])
      (if (blkOf x i).k = 3 then wt else none) → Q .next ⟨h', g, d, tk', os⟩) :
    wpAny (model prog w) A (exec (bodyT 14) (lawE L f cd)) Q E ⟨h, g, d, tk, os⟩ := by
  obtain ⟨tk0, mk⟩ := Y.kind
  obtain ⟨tb, mb⟩ := Y.blank
  refine wpAny_If (eqT S mk fun tk₁ => ?_)
  by_cases hk : (blkOf x i).k = 3
  · rw [show ((((blkOf x i).k : Nat) : Int) == 3) = true from by rw [hk]; rfl, if_pos rfl]
    rw [if_pos hk, if_pos hk, if_pos hk, List.append_nil, List.append_nil] at q
    have hv : ∃ v, m "text" = some v ∧ WaitV (some v) wt := by
      cases wt with
      | none => exact ⟨_, mt, rfl⟩
      | some z => obtain ⟨tz, hz⟩ := mt; exact ⟨_, hz, tz, rfl⟩
    obtain ⟨v, mv, hv⟩ := hv
    exact wpAny_execs_cons (wpAny_Assign_Name (loc S mv (stoWaits (wt' := wt) S X hv fun h₁ tk₁ S₁ X₁ => wpAny_execs_nil (q _ _ _ _ S₁ (fun _ hp => hp) X₁))))
  · rw [show ((((blkOf x i).k : Nat) : Int) == 3) = false from by simp only [beq_eq_false_iff_ne]; omega, if_neg Bool.false_ne_true]
    rw [if_neg hk, if_neg hk, if_neg hk] at q
    obtain ⟨ag, mg', sg⟩ := X.given
    refine wpAny_execs_cons (wpAny_Assign_Name (wpAny_BinOp (loc S mg' (List_ (args_cons (loc S mb (args_nil ?_)))))))
    refine dispL S (x := [(blkOf x i).blank]) (.cons _ _ .nil) (by show 1 ≤ 1000; omega) fun c₁ h₁ N₁ S₁ k₁ L₁ => ?_
    refine addL S₁ (sg.mono k₁) L₁ (by show _ + 1 ≤ _; omega) fun c₂ h₂ N₂ S₂ k₂ L₂ => ?_
    refine stoGiven S₂ (X.mono fun p hp => k₂ _ (k₁ _ hp)) L₂ fun h₃ tk₃ S₃ X₃ => ?_
    obtain ⟨ad, md, sd⟩ := X₃.due
    have mb₃ : upd m "given" (.ref c₂) "blank" = some (.str (blkOf x i).blank tb) := by exact mb
    have kN : ∀ p ∈ N, p ∈ N₂ := fun p hp => k₂ _ (k₁ _ hp)
    cases wt with
    | none =>
      have mt₃ : upd m "given" (.ref c₂) "text" = some .none := by exact mt
      refine wpAny_execs_cons (wpAny_Assign_Name (wpAny_BinOp (loc S₃ md (IfExp_ (isT S₃ mt₃ fun tk₄ => ?_)))))
      rw [show (Value.none == Value.none) = true from rfl, if_pos rfl]
      refine List_ (args_cons (loc S₃ mb₃ (args_nil ?_)))
      refine dispL S₃ (x := [(blkOf x i).blank]) (.cons _ _ .nil) (by show 1 ≤ 1000; omega) fun c₄ h₄ N₄ S₄ k₄ L₄ => ?_
      refine addL S₄ (sd.mono k₄) L₄ (by show _ + 1 ≤ _; omega) fun c₅ h₅ N₅ S₅ k₅ L₅ => ?_
      exact stoDue S₅ (X₃.mono fun p hp => k₅ _ (k₄ _ hp)) L₅ fun h₆ tk₆ S₆ X₆ => wpAny_execs_nil (q _ _ _ _ S₆ (fun p hp => k₅ _ (k₄ _ (kN _ hp))) X₆)
    | some z =>
      obtain ⟨tz, hz⟩ := mt
      have mt₃ : upd m "given" (.ref c₂) "text" = some (.str z tz) := by exact hz
      refine wpAny_execs_cons (wpAny_Assign_Name (wpAny_BinOp (loc S₃ md (IfExp_ (isT S₃ mt₃ fun tk₄ => ?_)))))
      rw [show (Value.str z tz == Value.none) = false from rfl, if_neg Bool.false_ne_true]
      refine List_ (args_cons (loc S₃ mb₃ (args_cons (loc S₃ mt₃ (args_cons (cStr (args_cons (loc S₃ mb₃ (args_nil ?_)))))))))
      refine dispL S₃ (x := [(blkOf x i).blank, z, "\n", (blkOf x i).blank]) (.cons _ _ (.cons _ _ (.cons _ _ (.cons _ _ .nil)))) (by show 4 ≤ 1000; omega) fun c₄ h₄ N₄ S₄ k₄ L₄ => ?_
      refine addL S₄ (sd.mono k₄) L₄ (by show _ + 4 ≤ _; omega) fun c₅ h₅ N₅ S₅ k₅ L₅ => ?_
      exact stoDue S₅ (X₃.mono fun p hp => k₅ _ (k₄ _ hp)) L₅ fun h₆ tk₆ S₆ X₆ => wpAny_execs_nil (q _ _ _ _ S₆ (fun p hp => k₅ _ (k₄ _ (kN _ hp))) X₆)
end
end Inj
end
section
open PySem PySem.W PyProof.Rows
namespace Inj
theorem Blk.gRows_plain {p : Blk} {wt : Option Str} (h : p.isPlain wt = true) : p.gRows wt = p.plain := by unfold Blk.gRows; rw [if_pos h]
theorem Blk.dRows_plain {p : Blk} {nm : Str → Option Str} {wt : Option Str} (h : p.isPlain wt = true) : p.dRows nm wt = p.plain := by unfold Blk.dRows; rw [if_pos h]
theorem Blk.next_plain {p : Blk} {nm : Str → Option Str} {wt : Option Str} (h : p.isPlain wt = true) : p.next nm wt = none := by unfold Blk.next; rw [if_pos h]
theorem Blk.gRows_else {p : Blk} {wt : Option Str} (h : p.isPlain wt = false) : p.gRows wt = [p.head wt.isSome] ++ p.rest ++ (if p.k = 3 then [] else [p.blank]) := by
  unfold Blk.gRows; rw [if_neg (by rw [h]; exact Bool.false_ne_true)]
theorem Blk.dRows_else {p : Blk} {nm : Str → Option Str} {wt : Option Str} (h : p.isPlain wt = false) : p.dRows nm wt = waitD wt ++ [p.head wt.isSome] ++ p.rest ++
    (if p.k = 3 then [] else match p.text nm wt.isSome with | none => [p.blank] | some t => [p.blank, t, "\n", p.blank]) := by
  unfold Blk.dRows; exact if_neg (by rw [h]; exact Bool.false_ne_true)
theorem Blk.next_else {p : Blk} {nm : Str → Option Str} {wt : Option Str} (h : p.isPlain wt = false) : p.next nm wt = if p.k = 3 then p.text nm wt.isSome else none := by
  unfold Blk.next; rw [if_neg (by rw [h]; exact Bool.false_ne_true)]
section
variable {prog : Program} {w : World} {A : Around} {E : Value → Shared → Prop} {h : Heap} {g : Array GenState} {d : Drawn} {tk : Nat} {os : OsState} {mg mb : Str → Option Value}
  {base : Heap} {m : Str → Option Value} {N : List (Addr × Obj)} {L : Addr}
theorem turn {f l dn : Addr} {cd : Value} {G D : List Str} {wt : Option Str} {x : Int} {i : Nat} {t u : Tok} {kvs : List (Str × Value)} {Q : Flow → Shared → Prop} (B : Bs mg mb base) (S : St base L m N h) (hA : A.depth < recursionLimit) (hh : A.handled = none)
    (X : LM m l dn N G D wt) (T : DT prog w dn N kvs) (hG : G.length ≤ 900) (hD : D.length ≤ 900) (mx : m "x" = some (.int x t)) (mi : m "i" = some (.int i u))
    (q : ∀ fl h' tk' m' N', (fl = .next ∨ fl = .cont) → St base L m' N' h' → (∀ p ∈ N, p ∈ N') → LM m' l dn N' (G ++ (blkOf x i).gRows wt) (D ++ (blkOf x i).dRows (nmOf kvs) wt) ((blkOf x i).next (nmOf kvs) wt) → Q fl ⟨h', g, d, tk', os⟩) :
    wpAny (model prog w) A (execs (inBody (nth lawB 3)) (lawE L f cd)) Q E ⟨h, g, d, tk, os⟩ := by
  have ok := blkOf_ok x i
  have lr := (blkOf x i).rest_len ok
  show wpAny (model prog w) A (execs [bodyT 0, bodyT 1, bodyT 2, bodyT 3, bodyT 4, bodyT 5, bodyT 6, bodyT 7, bodyT 8, bodyT 9, bodyT 10, bodyT 11, bodyT 12, bodyT 13, bodyT 14] (lawE L f cd)) Q E ⟨h, g, d, tk, os⟩
  refine wpAny_execs_cons (seg0 S X hh mx mi fun h₁ tk₁ m₁ N₁ t₁ u₁ S₁ X₁ k₁ mk₁ my₁ => ?_)
  refine seg123 S₁ X₁ mk₁ my₁ fun h₂ tk₂ m₂ S₂ X₂ Y₂ => ?_
  refine seg4 S₂ X₂ Y₂ hh (by omega) (by omega) (fun hp h₃ tk₃ m₃ N₃ S₃ k₃ X₃ => ?_) fun hp tk₃ => ?_
  · refine q _ _ _ _ _ (.inr rfl) S₃ (fun p hp => k₃ _ (k₁ _ hp)) ?_
    rw [Blk.gRows_plain hp, Blk.dRows_plain hp, Blk.next_plain hp]; exact X₃
  refine wpAny_execs_cons (seg5 B S₂ X₂ Y₂ fun h₃ tk₄ m₃ t₃ S₃ X₃ Y₃ mn₃ => ?_)
  refine wpAny_execs_cons (seg6 B S₃ hA X₃ Y₃ mn₃ fun h₄ tk₅ m₄ N₄ t₄ S₄ k₄ X₄ Y₄ mn₄ mh₄ => ?_)
  refine seg789 S₄ X₄ Y₄ ⟨⟨_, mn₄⟩, ⟨_, mh₄⟩⟩ fun h₅ tk₆ m₅ N₅ S₅ k₅ X₅ Y₅ Z₅ r₅ => ?_
  refine seg101112 S₅ X₅ Y₅ Z₅ (by omega) (by omega) r₅ fun h₆ tk₇ m₆ N₆ S₆ k₆ X₆ Y₆ Z₆ r₆ => ?_
  have kk : ∀ p ∈ N, p ∈ N₆ := fun p hp => k₆ _ (k₅ _ (k₄ _ (k₁ _ hp)))
  refine wpAny_execs_cons (seg13 S₆ X₆ Y₆ Z₆ (T.mono kk) r₆ fun h₇ tk₈ m₇ S₇ X₇ Y₇ mt₇ => ?_)
  have lw : (waitD wt).length ≤ 3 := by cases wt <;> simp [waitD]
  refine wpAny_execs_cons (seg14 S₇ X₇ Y₇ mt₇ (by simp only [List.length_append, List.length_singleton]; omega) (by simp only [List.length_append, List.length_singleton]; omega) fun h₈ tk₉ m₈ N₈ S₈ k₈ X₈ => wpAny_execs_nil ?_)
  refine q _ _ _ _ _ (.inl rfl) S₈ (fun p hp => k₈ _ (kk _ hp)) ?_
  rw [Blk.gRows_else hp, Blk.dRows_else hp, Blk.next_else hp]
  simp only [List.append_assoc] at X₈ ⊢
  exact X₈
end
end Inj
end
section
open PySem PySem.W PyProof.Rows
namespace Inj
def docG (nm : Str → Option Str) : Nat → List Int → Option Str → List Str
  | _, [], _ => []
  | i, x :: r, wt => (blkOf x i).gRows wt ++ docG nm (i + 1) r ((blkOf x i).next nm wt)
def docD (nm : Str → Option Str) : Nat → List Int → Option Str → List Str
  | _, [], _ => []
  | i, x :: r, wt => (blkOf x i).dRows nm wt ++ docD nm (i + 1) r ((blkOf x i).next nm wt)
def docW (nm : Str → Option Str) : Nat → List Int → Option Str → Option Str
  | _, [], wt => wt
  | i, x :: r, wt => docW nm (i + 1) r ((blkOf x i).next nm wt)
theorem Blk.gRows_len (p : Blk) (o : p.Ok) (wt : Option Str) : (p.gRows wt).length ≤ 9 := by
  cases hp : p.isPlain wt with
  | true => rw [Blk.gRows_plain hp]; show 3 ≤ 9; omega
  | false =>
    rw [Blk.gRows_else hp]
    have := p.rest_len o
    simp only [List.length_append, List.length_singleton]
    split <;> simp only [List.length_nil, List.length_singleton] <;> omega
theorem Blk.dRows_len (p : Blk) (o : p.Ok) (nm : Str → Option Str) (wt : Option Str) : (p.dRows nm wt).length ≤ 15 := by
  cases hp : p.isPlain wt with
  | true => rw [Blk.dRows_plain hp]; show 3 ≤ 15; omega
  | false =>
    rw [Blk.dRows_else hp]
    have := p.rest_len o
    have lw : (waitD wt).length ≤ 3 := by cases wt <;> simp [waitD]
    simp only [List.length_append, List.length_singleton]
    split
    · simp only [List.length_nil]; omega
    · cases p.text nm wt.isSome <;> simp only [List.length_cons, List.length_nil] <;> omega
theorem LM.keep {base : Heap} {L : Addr} {m : Str → Option Value} {l dn : Addr} {N N' : List (Addr × Obj)} {G D : List Str} {wt : Option Str} (X : LM m l dn N G D wt) (k : ∀ p ∈ N, p.2.cls = .type "list" → p ∈ N') : LM m l dn N' G D wt :=
  { X with given := let ⟨a, e, vs, n, hm, hs⟩ := X.given; ⟨a, e, vs, n, k _ hm rfl, hs⟩, due := let ⟨a, e, vs, n, hm, hs⟩ := X.due; ⟨a, e, vs, n, k _ hm rfl, hs⟩ }
theorem DT.keep {prog : Program} {w : World} {dn : Addr} {N N' : List (Addr × Obj)} {kvs : List (Str × Value)} (X : DT prog w dn N kvs) (k : ∀ p ∈ N, p.2.cls = .type "dict" → p ∈ N') : DT prog w dn N' kvs :=
  { X with at_ := let ⟨o, h, d⟩ := X.at_; ⟨o, k _ h (let ⟨_, _, hx, _⟩ := d; hx.1), d⟩ }
theorem St.two {base : Heap} {L : Addr} {m : Str → Option Value} {N : List (Addr × Obj)} {h h' : Heap} {e it : Addr} {oe oi oe' oi' : Obj} (S : St base L m N h) (he : (e, oe) ∈ N) (hi : (it, oi) ∈ N)
    (hk : ∀ b o, b ≠ e → b ≠ it → h.get? b = some o → h'.get? b = some o) (he' : h'.get? e = some oe') (hi' : h'.get? it = some oi') :
    ∃ N', St base L m N' h' ∧ (e, oe') ∈ N' ∧ (it, oi') ∈ N' ∧ ∀ p ∈ N, p.2.cls ≠ oe.cls → p.2.cls ≠ oi.cls → p ∈ N' := by
  have ze := S.N _ he
  have zi := S.N _ hi
  refine ⟨(e, oe') :: (it, oi') :: N.filter (fun p => decide (p.1 ≠ e ∧ p.1 ≠ it)), ⟨?_, fun p hp => ?_⟩, .head _, .tail _ (.head _), fun p hp h1 h2 => .tail _ (.tail _ (List.mem_filter.mpr ⟨hp, ?_⟩))⟩
  · obtain ⟨oL, es, ep, hL, r⟩ := S.F.ns
    refine ⟨⟨oL, es, ep, hk L oL (Ne.symm ze.2.1) (Ne.symm zi.2.1) hL, r⟩, fun b o x => hk b o ?_ ?_ (S.F.keep b o x), S.F.above⟩
    · rintro rfl; rw [ze.2.2] at x; cases x
    · rintro rfl; rw [zi.2.2] at x; cases x
  · rcases List.mem_cons.mp hp with rfl | hp
    · exact ⟨he', ze.2⟩
    · rcases List.mem_cons.mp hp with rfl | hp
      · exact ⟨hi', zi.2⟩
      · obtain ⟨hp, hne⟩ := List.mem_filter.mp hp
        have hne : p.1 ≠ e ∧ p.1 ≠ it := by simpa using hne
        exact ⟨hk p.1 p.2 hne.1 hne.2 (S.N p hp).1, (S.N p hp).2⟩
  · have a1 : p.1 ≠ e := S.ne (a := p.1) (oa := p.2) hp he h1
    have a2 : p.1 ≠ it := S.ne (a := p.1) (oa := p.2) hp hi h2
    simpa using ⟨a1, a2⟩
theorem Heap.get?_out {h : Heap} {a : Addr} (ha : h.objs.size ≤ a) : h.get? a = none := by
  cases q : h.get? a with
  | none => rfl
  | some o => exact absurd (Heap.lt_size q) (Nat.not_lt.mpr ha)
abbrev enumObj (it : Addr) (i : Int) (old : Value) (z : Value) : Obj := { cls := .type "enumerate", data := .fields #[z, .bool false, .ref it, rawInt i, .none, old] }
section
variable {prog : Program} {w : World} {A : Around} {E : Value → Shared → Prop} {h : Heap} {g : Array GenState} {d : Drawn} {tk : Nat} {os : OsState} {mg mb : Str → Option Value}
  {base : Heap} {m : Str → Option Value} {N : List (Addr × Obj)} {L : Addr}
theorem blocks_loop {f l dn : Addr} {cd : Value} {vs : List Value} {ns : List Int} {G D : List Str} {kvs : List (Str × Value)} {Q : Flow → Shared → Prop} (B : Bs mg mb base) (S : St base L m N h) (hA : A.depth < recursionLimit) (hh : A.handled = none)
    (hl : base.IsList l vs.toArray) (hi : IntsAre vs ns) (hsz : ns.length ≤ 63) (X : LM m l dn N G D none) (T : DT prog w dn N kvs) (hG : G.length ≤ 2) (hD : D.length ≤ 2)
    (q : ∀ h' tk' m' N', St base L m' N' h' → DT prog w dn N' kvs → LM m' l dn N' (G ++ docG (nmOf kvs) 0 (ns.take 10) none) (D ++ docD (nmOf kvs) 0 (ns.take 10) none) (docW (nmOf kvs) 0 (ns.take 10) none) → Q .next ⟨h', g, d, tk', os⟩) :
    wpAny (model prog w) A (exec (nth lawB 3) (lawE L f cd)) Q E ⟨h, g, d, tk, os⟩ := by
  have hls : h.IsList l vs.toArray := hl.at fun o e => S.F.keep l o e
  have hlen := hi.length
  refine wpAny_For (Call_ (bui S B B.noEnum B.bEnum (PyProof.Rows.callWith_type1 (args_cons (Subscript_ (loc S X.script (wpAny_Slice ?_)))))))
  rw [evalPart_none, evalPart_some]
  refine wpAny_pure ?_
  refine cInt (wpAny_pure ?_)
  refine slice_list (s := ⟨h, g, d, tk + 1, os⟩) S.F S.N hls .none (.int 10 _) (fun h₁ F₁ N₁ => ?_) (by with_unfolding_all rfl) (by intro _; with_unfolding_all rfl) (by rw [sizeLine_eq, List.size_toArray, hlen]; omega)
  have e10 : slicePick vs.toArray none (some 10) none = (vs.take 10).toArray := slicePick_upto' vs.toArray 10
  rw [e10] at N₁
  dsimp only at N₁ ⊢
  generalize hls' : h.objs.size + 1 = ls at N₁ ⊢
  have S₁ : St base L m ((ls, listO (vs.take 10) 0) :: N) h₁ := ⟨F₁, N₁⟩
  have hi₁ : IntsAre (vs.take 10) (ns.take 10) := hi.take 10
  have hl₁ : h₁.IsList ls (vs.take 10).toArray := ⟨_, (S₁.N _ (.head _)).1, rfl, 0, rfl⟩
  refine args_nil (call_enumerate_list (s := ⟨h₁, g, d, _, os⟩) hl₁ fun h₂ he₂ hit₂ hz₂ hk₂ => ?_)
  refine wpAny_pyIter_enum (s := ⟨h₂, g, d, _, os⟩) he₂ ?_
  obtain ⟨oi, hoi, hci, hdi⟩ := id hit₂
  have S₂ := ((S₁.more (c := h₁.objs.size) (o := oi) hk₂ hoi (Heap.get?_out (Nat.le_refl _)))).sub (N' := (h₁.objs.size, oi) :: (ls, listO (vs.take 10) 0) :: N) (fun _ x => x)
  have S₃ : St base L m ((h₁.objs.size + 1, enumObj h₁.objs.size 0 .none .none) :: (h₁.objs.size, oi) :: (ls, listO (vs.take 10) 0) :: N) h₂ := ⟨S₂.F, fun p hp => by
    rcases List.mem_cons.mp hp with rfl | hp
    · exact (S₁.more (c := h₁.objs.size + 1) hk₂ he₂ (Heap.get?_out (Nat.le_succ _))).N _ (.head _)
    · exact S₂.N p hp⟩
  dsimp only
  have cne : ∀ {a b : String}, a ≠ b → Value.type a ≠ Value.type b := fun h e => h (Value.type.inj e)
  refine codeAny_forLoop_any (fun cnt s' => ∃ (h' : Heap) (tk' : Nat) (m' : Str → Option Value) (N' : List (Addr × Obj)) (i : Nat) (old : Value) (oi : Obj) (G' D' : List Str) (wt : Option Str), s' = ⟨h', g, d, tk', os⟩ ∧ i ≤ 10 ∧ cnt = 11 - i ∧ St base L m' N' h' ∧
      (h₁.objs.size + 1, enumObj h₁.objs.size i old .none) ∈ N' ∧ (h₁.objs.size, oi) ∈ N' ∧ oi.cls = .type "list_iterator" ∧ oi.data = .fields #[.ref ls, .int i 0] ∧ (ls, listO (vs.take 10) 0) ∈ N' ∧
      LM m' l dn N' G' D' wt ∧ DT prog w dn N' kvs ∧ G'.length ≤ 2 + 9 * i ∧ D'.length ≤ 2 + 15 * i ∧ i ≤ (ns.take 10).length ∧
      G' ++ docG (nmOf kvs) i ((ns.take 10).drop i) wt = G ++ docG (nmOf kvs) 0 (ns.take 10) none ∧ D' ++ docD (nmOf kvs) i ((ns.take 10).drop i) wt = D ++ docD (nmOf kvs) 0 (ns.take 10) none ∧
      docW (nmOf kvs) i ((ns.take 10).drop i) wt = docW (nmOf kvs) 0 (ns.take 10) none) ?_ 11 ?_
  · rintro cnt s' ⟨h', tk', m', N', i, old, oi, G', D', wt, rfl, hi10, rfl, S', hme, hmi, hci, hdi, hml, X', T', hG', hD', hil, eG, eD, eW⟩
    have he' : IsEnum h' (h₁.objs.size + 1) h₁.objs.size i old := (S'.N _ hme).1
    have hit' : h'.IsListIter h₁.objs.size ls i := ⟨oi, (S'.N _ hmi).1, hci, hdi⟩
    have hl' : h'.IsList ls (vs.take 10).toArray := ⟨_, (S'.N _ hml).1, rfl, 0, rfl⟩
    have hle := hi₁.length
    by_cases hlt : i < (ns.take 10).length
    · obtain ⟨tx, hx⟩ := hi₁.get i (ns.take 10)[i] (List.getElem?_eq_getElem hlt)
      have hx' : (vs.take 10).toArray[i]? = some (.int (ns.take 10)[i] tx) := by rw [List.getElem?_toArray]; exact hx
      have h10 : (ns.take 10).length ≤ 10 := by rw [List.length_take]; omega
      refine wpAny_pyNext_enum_item (s := ⟨h', g, d, tk', os⟩) he' hit' hl' hx' (Nat.succ_ne_self _) fun h₃ heo hit₃ ht₃ hz₃ hk₃ => ?_
      refine wpAny_letOwnedTupleGo_enum (s := ⟨h₃, g, d, tk' + 1, os⟩) heo fun h₄ he₄ hs₄ => ?_
      have hneh : h'.objs.size ≠ h₁.objs.size + 1 := Nat.ne_of_gt (S'.lt hme)
      have ht₄ : h₄.IsTuple h'.objs.size #[.int i tk', .int (ns.take 10)[i] tx] := ⟨_, (hs₄.2 _ hneh).trans ht₃, rfl, 0, rfl⟩
      refine wpAny_assign_Tuple (s := ⟨h₄, g, d, tk' + 1, os⟩) hh ht₄ rfl rfl fun h₅ hx₅ => ?_
      dsimp only at hx₅ hs₄ hk₃ heo hz₃ he₄ ⊢
      have hz₄ : h₄.objs.size = h'.objs.size + 1 := hs₄.1.trans hz₃
      have old5 : ∀ b o, b < h₄.objs.size → h₄.get? b = some o → h₅.get? b = some o := fun b o hb x => hx₅ b o (Nat.ne_of_lt hb) x
      obtain ⟨oi', hoi', hci', hdi'⟩ := hit₃
      have hlt_e := S'.lt hme
      have hlt_i := S'.lt hmi
      have hi4 : h₄.get? h₁.objs.size = some oi' := (hs₄.2 _ (by show h₁.objs.size ≠ h₁.objs.size + 1; omega)).trans hoi'
      obtain ⟨N₅, S₅, me₅, mi₅, k₅⟩ := S'.two (h' := h₅) hme hmi (fun b o h1 h2 x => by
        have x3 := hk₃ b o h1 h2 x
        have x4 : h₄.get? b = some o := (hs₄.2 b h1).trans x3
        exact old5 b o (Heap.lt_size x4) x4) (old5 _ _ (Heap.lt_size he₄) he₄) (old5 _ _ (Heap.lt_size hi4) hi4)
      have X₅ : LM m' l dn N₅ G' D' wt := LM.keep (base := base) (L := L) X' fun p hp hc => k₅ p hp (by rw [hc]; exact cne (by decide)) (by rw [hc, hci]; exact cne (by decide))
      have T₅ : DT prog w dn N₅ kvs := T'.keep fun p hp hc => k₅ p hp (by rw [hc]; exact cne (by decide)) (by rw [hc, hci]; exact cne (by decide))
      have ml₅ : (ls, listO (vs.take 10) 0) ∈ N₅ := k₅ _ hml (cne (by decide)) (by rw [hci]; exact cne (by decide))
      refine assignInOrder_cons (wpAny_assign_Name (sto S₅ fun h₆ tk₆ S₆ => ?_))
      refine assignInOrder_cons (wpAny_assign_Name (sto S₆ fun h₇ tk₇ S₇ => assignInOrder_nil ?_))
      refine turn (i := i) (x := (ns.take 10)[i]) (t := tx) (u := tk') B S₇ hA hh ((X₅.put (by decide)).put (by decide)) T₅ (by omega) (by omega) (by rfl) (by rfl) fun fl h₈ tk₈ m₈ N₈ hfl S₈ k₈ X₈ => ?_
      have back : ∃ n, n < 11 - i ∧ (fun cnt (s' : Shared) => ∃ (h' : Heap) (tk' : Nat) (m' : Str → Option Value) (N' : List (Addr × Obj)) (i : Nat) (old : Value) (oi : Obj) (G' D' : List Str) (wt : Option Str), s' = ⟨h', g, d, tk', os⟩ ∧ i ≤ 10 ∧ cnt = 11 - i ∧ St base L m' N' h' ∧
          (h₁.objs.size + 1, enumObj h₁.objs.size i old .none) ∈ N' ∧ (h₁.objs.size, oi) ∈ N' ∧ oi.cls = .type "list_iterator" ∧ oi.data = .fields #[.ref ls, .int i 0] ∧ (ls, listO (vs.take 10) 0) ∈ N' ∧
          LM m' l dn N' G' D' wt ∧ DT prog w dn N' kvs ∧ G'.length ≤ 2 + 9 * i ∧ D'.length ≤ 2 + 15 * i ∧ i ≤ (ns.take 10).length ∧
          G' ++ docG (nmOf kvs) i ((ns.take 10).drop i) wt = G ++ docG (nmOf kvs) 0 (ns.take 10) none ∧ D' ++ docD (nmOf kvs) i ((ns.take 10).drop i) wt = D ++ docD (nmOf kvs) 0 (ns.take 10) none ∧
          docW (nmOf kvs) i ((ns.take 10).drop i) wt = docW (nmOf kvs) 0 (ns.take 10) none) n ⟨h₈, g, d, tk₈, os⟩ := by
        have edrop : (ns.take 10).drop i = (ns.take 10)[i] :: (ns.take 10).drop (i + 1) := List.drop_eq_getElem_cons hlt
        rw [edrop] at eG eD eW
        have o := blkOf_ok (ns.take 10)[i] i
        have lg := (blkOf (ns.take 10)[i] i).gRows_len o wt
        have ld := (blkOf (ns.take 10)[i] i).dRows_len o (nmOf kvs) wt
        refine ⟨11 - (i + 1), by omega, h₈, tk₈, m₈, N₈, i + 1, .int (ns.take 10)[i] tx, oi', _, _, _, rfl, by omega, rfl, S₈, ?_, k₈ _ mi₅, hci', hdi', k₈ _ ml₅, X₈, T₅.mono k₈, ?_, ?_, hlt, ?_, ?_, ?_⟩
        · have := k₈ _ me₅
          have e1 : ((i + 1 : Nat) : Int) = (i : Int) + 1 := by push_cast; rfl
          rw [e1]; exact this
        · rw [List.length_append]; omega
        · rw [List.length_append]; omega
        · rw [List.append_assoc]; exact eG
        · rw [List.append_assoc]; exact eD
        · exact eW
      rcases hfl with rfl | rfl
      · exact back
      · exact back
    · have hil' : i = (ns.take 10).length := by omega
      have hnone : (vs.take 10).toArray[i]? = none := by
        rw [List.getElem?_toArray, List.getElem?_eq_none]; omega
      refine wpAny_pyNext_enum_end (s := ⟨h', g, d, tk', os⟩) hh he' hit' hl' hnone fun h₃ hx₃ => wpAny_execs_nil ?_
      have ed : (ns.take 10).drop i = [] := by rw [hil']; exact List.drop_length
      rw [ed] at eG eD eW
      have S₄ : St base L m' (N'.filter fun p => decide (p.1 ≠ h₁.objs.size)) h₃ := S'.extBut hmi hx₃ fun p hp => by
        obtain ⟨a, b⟩ := List.mem_filter.mp hp
        exact ⟨a, by simpa using b⟩
      have kf : ∀ p ∈ N', p.2.cls ≠ oi.cls → p ∈ N'.filter fun p => decide (p.1 ≠ h₁.objs.size) := fun p hp hc => List.mem_filter.mpr ⟨hp, by simpa using S'.ne (a := p.1) (oa := p.2) hp hmi hc⟩
      have X₄ := LM.keep (base := base) (L := L) (N' := N'.filter fun p => decide (p.1 ≠ h₁.objs.size)) X' fun p hp hc => kf p hp (by rw [hc, hci]; exact cne (by decide))
      refine q h₃ tk' m' _ S₄ (T'.keep fun p hp hc => kf p hp (by rw [hc, hci]; exact cne (by decide))) ?_
      rw [← eG, ← eD, ← eW]
      show LM m' l dn _ (G' ++ []) (D' ++ []) wt
      rw [List.append_nil, List.append_nil]
      exact X₄
  · exact ⟨h₂, _, m, _, 0, .none, oi, G, D, none, rfl, by omega, rfl, S₃, .head _, .tail _ (.head _), hci, hdi, .tail _ (.tail _ (.head _)), X.mono fun p hp => .tail _ (.tail _ (.tail _ hp)), T.mono fun p hp => .tail _ (.tail _ (.tail _ hp)), by omega, by omega, Nat.zero_le _, rfl, rfl, rfl⟩
end
end Inj
end
section
open PySem PySem.W PyProof.Rows
namespace Inj
/-- the ledger holds a deque of texts there -/
def DqL (N : List (Addr × Obj)) (a : Addr) (l : List Str) : Prop := ∃ k vs, (a, dqObj k vs) ∈ N ∧ StrsAre vs l
section
variable {prog : Program} {w : World} {A : Around} {E : Value → Shared → Prop} {h : Heap} {g : Array GenState} {d : Drawn} {tk : Nat} {os : OsState} {mg mb : Str → Option Value}
  {base : Heap} {m : Str → Option Value} {N : List (Addr × Obj)} {L : Addr}
theorem appL {la : Addr} {out : List Str} {pos : Pos} {x : Sem Value} {Q : Value → Shared → Prop} (S : St base L m N h) (hs : StrL N la out)
    (hx : wpAny (model prog w) A x (fun v s₁ => ∃ y t h₁ N₁ tk₁, v = .str y t ∧ s₁ = ⟨h₁, g, d, tk₁, os⟩ ∧ St base L m N₁ h₁ ∧ StrL N₁ la out ∧ out.length ≤ 10000 ∧
      ∀ h' tk' N', St base L m N' h' → StrL N' la (out ++ [y]) → (∀ p ∈ N₁, p.1 ≠ la → p ∈ N') → Q .none ⟨h', g, d, tk', os⟩) E ⟨h, g, d, tk, os⟩) :
    MethodOnS prog w A E "append" (.ref la) pos [(false, x)] Q ⟨h, g, d, tk, os⟩ := by
  obtain ⟨vs, n, hm, hv⟩ := hs
  have z := S.N _ hm
  refine ⟨"list", _, F.plainAttrs_list, F.slot_list_append, F.type_list_append, ⟨_, z.1, rfl⟩, fun b e => ⟨_, by cases e; exact z.1, rfl⟩, PySem.P.append_list (wpAny_mono hx (fun v s₁ hq => ?_) fun _ _ e => e)⟩
  obtain ⟨y, t, h₁, N₁, tk₁, rfl, rfl, S₁, ⟨vs₁, n₁, hm₁, hv₁⟩, hz, q⟩ := hq
  have z₁ := S₁.N _ hm₁
  have el := StrsAre.length hv₁
  refine ⟨vs₁.toArray, n₁, by rw [List.size_toArray, sizeLine_eq]; omega, z₁.1, ?_⟩
  have hu := IsL.update z₁.1 (fun xs => xs.push (.str y t))
  obtain ⟨N', S', h1, h2⟩ := S₁.change hm₁ (Heap.SameBut.update ..) hu
  have e1 : (vs₁.toArray.push (Value.str y t)) = (vs₁ ++ [Value.str y t]).toArray := by simp
  generalize (if (vs₁.toArray.push (Value.str y t)).size == vs₁.toArray.size then n₁ else n₁ + 1) = nn at h1
  rw [e1] at h1
  exact q _ _ N' S' ⟨vs₁ ++ [Value.str y t], nn, h1, StrsAre.append' hv₁ (.cons _ _ .nil)⟩ h2
theorem extL {la : Addr} {out : List Str} {pos : Pos} {x : Sem Value} {Q : Value → Shared → Prop} (S : St base L m N h) (hs : StrL N la out)
    (hx : wpAny (model prog w) A x (fun v s₁ => ∃ b ys h₁ N₁ tk₁, v = .ref b ∧ s₁ = ⟨h₁, g, d, tk₁, os⟩ ∧ St base L m N₁ h₁ ∧ StrL N₁ la out ∧ StrL N₁ b ys ∧ out.length + ys.length ≤ 10000 ∧
      ∀ h' tk' N', St base L m N' h' → StrL N' la (out ++ ys) → (∀ p ∈ N₁, p.1 ≠ la → p ∈ N') → Q .none ⟨h', g, d, tk', os⟩) E ⟨h, g, d, tk, os⟩) :
    MethodOnS prog w A E "extend" (.ref la) pos [(false, x)] Q ⟨h, g, d, tk, os⟩ := by
  obtain ⟨vs, n, hm, hv⟩ := hs
  have z := S.N _ hm
  refine ⟨"list", _, F.plainAttrs_list, F.slot_list_extend, F.type_list_extend, ⟨_, z.1, rfl⟩, fun b e => ⟨_, by cases e; exact z.1, rfl⟩, PySem.P.extend_list (wpAny_mono hx (fun v s₁ hq => ?_) fun _ _ e => e)⟩
  obtain ⟨b, ys, h₁, N₁, tk₁, rfl, rfl, S₁, ⟨vs₁, n₁, hm₁, hv₁⟩, ⟨vb, nb, hmb, hvb⟩, hz, q⟩ := hq
  have z₁ := S₁.N _ hm₁
  have el := StrsAre.length hv₁
  have eb := StrsAre.length hvb
  refine ⟨b, vs₁.toArray, vb.toArray, n₁, nb, by rw [List.size_toArray, sizeLine_eq]; omega, by rw [List.size_toArray, List.size_toArray, sizeLine_eq]; omega, ?_, rfl, z₁.1, (S₁.N _ hmb).1, ?_⟩
  · simp only [Builtin.List.listTooLong, List.size_toArray, sizeLine_eq, Bool.and_eq_true, decide_eq_true_eq, not_and]
    intro _; omega
  have hu := IsL.update z₁.1 (fun xs => xs ++ vb.toArray)
  obtain ⟨N', S', h1, h2⟩ := S₁.change hm₁ (Heap.SameBut.update ..) hu
  have e1 : (vs₁.toArray ++ vb.toArray) = (vs₁ ++ vb).toArray := by simp
  generalize (if (vs₁.toArray ++ vb.toArray).size == vs₁.toArray.size then n₁ else n₁ + 1) = nn at h1
  rw [e1] at h1
  exact q _ _ N' S' ⟨vs₁ ++ vb, nn, h1, StrsAre.append' hv₁ hvb⟩ h2
theorem popL {a : Addr} {y : Str} {r : List Str} {pos : Pos} {Q : Value → Shared → Prop} (S : St base L m N h) (hs : DqL N a (y :: r)) (hz : r.length ≤ 10000)
    (q : ∀ t h' N', St base L m N' h' → DqL N' a r → (∀ p ∈ N, p.1 ≠ a → p ∈ N') → Q (.str y t) ⟨h', g, d, tk, os⟩) : MethodOnS prog w A E "popleft" (.ref a) pos [] Q ⟨h, g, d, tk, os⟩ := by
  obtain ⟨k, vs, hm, hv⟩ := hs
  cases hv with
  | cons _ t hv =>
    have el := StrsAre.length hv
    refine dq_popleft (s := ⟨h, g, d, tk, os⟩) (S.N _ hm).1 (by rw [sizeLine_eq]; omega) fun h' ho hb => ?_
    obtain ⟨N', S', h1, h2⟩ := S.change hm hb ho
    exact q t h' N' S' ⟨_, _, h1, hv⟩ h2
theorem truDq {a : Addr} {l : List Str} {Q : Bool → Shared → Prop} (S : St base L m N h) (hs : DqL N a l) (hz : l.length ≤ 10000) (q : ∀ tk', Q (!l.isEmpty) ⟨h, g, d, tk', os⟩) : wpAny (model prog w) A (truthy (.ref a)) Q E ⟨h, g, d, tk, os⟩ := by
  obtain ⟨k, vs, hm, hv⟩ := hs
  have el := StrsAre.length hv
  refine dq_truthy (s := ⟨h, g, d, tk, os⟩) (S.N _ hm).1 (by omega) ?_
  have e : vs.isEmpty = l.isEmpty := by cases hv <;> rfl
  rw [e]; exact q _
theorem joinL {x : Str} {t : Tok} {a : Addr} {ys : List Str} {pos : Pos} {ex : Sem Value} {Q : Value → Shared → Prop}
    (hx : wpAny (model prog w) A ex (fun v s₁ => ∃ h₁ N₁ tk₁, v = .ref a ∧ s₁ = ⟨h₁, g, d, tk₁, os⟩ ∧ St base L m N₁ h₁ ∧ StrL N₁ a ys ∧ (ys.map (·.length)).sum + ys.length * x.length ≤ 16777216 ∧
      ∀ t' tk', Q (.str (Txt.join x ys) t') ⟨h₁, g, d, tk', os⟩) E ⟨h, g, d, tk, os⟩) : MethodOnS prog w A E "join" (.str x t) pos [(false, ex)] Q ⟨h, g, d, tk, os⟩ := by
  refine SB.join (wpAny_mono hx (fun v s₁ hq => ?_) fun _ _ e => e)
  obtain ⟨h₁, N₁, tk₁, rfl, rfl, S₁, ⟨vs, n, hm, hv⟩, hok, q⟩ := hq
  obtain ⟨l, rfl, ht⟩ := strsAre_values hv
  exact ⟨a, l, rfl, ⟨_, (S₁.N _ hm).1, rfl, _, rfl⟩, ys, ht, joinOk_of hok, fun t' k => q t' k⟩
end
end Inj
end
section
open PySem PySem.W PyProof.Rows
namespace Inj
-- ## what the text's function does, as a relation between lines
def Parm (x : Str) : Option (Nat × Str) → Prop
  | none => PatRes paramCode 2 x none
  | some (i, n) => ∃ (li : Int) (z hd : Value) (b e : Nat), PatRes paramCode 2 x (some (li, [z, hd, .int ((0 : Nat) : Int) 0, .int (i : Int) 0, .int (b : Int) 0, .int (e : Int) 0])) ∧ n = ⟨x.cps.extract b e⟩ ∧ i ≤ x.length ∧ i < 20
def Twin (x : Str) : Option Nat → Prop
  | none => PatRes twinCode 1 x none
  | some i => ∃ (li : Int) (z hd : Value), PatRes twinCode 1 x (some (li, [z, hd, .int ((0 : Nat) : Int) 0, .int (i : Int) 0])) ∧ i ≤ x.length ∧ i < 20
inductive Indent (i : Nat) : List Str → Str → Prop
  | last : Indent i [] (sp i ++ " ")
  | own {y r} : Twin y none → Indent i (y :: r) (sp i ++ " ")
  | other {y r j} : Twin y (some j) → Indent i (y :: r) (sp j)
inductive Runs (nm : Str → Option Str) : List Str → Option Str → List Str → Prop
  | nil {wt} : Runs nm [] wt []
  | skip {x r o} : Parm x none → Runs nm r none o → Runs nm (x :: r) none (x :: o)
  | unnamed {x r o i n} : Parm x (some (i, n)) → nm (Txt.lstripChars n "*") = none → Runs nm r none o → Runs nm (x :: r) none (x :: o)
  | named {x r o i n y ind} : Parm x (some (i, n)) → nm (Txt.lstripChars n "*") = some y → Indent i r ind → Runs nm r (some (ind ++ y)) o → Runs nm (x :: r) none (x :: o)
  | param {x r o t q} : Parm x (some q) → Runs nm r none o → Runs nm (x :: r) (some t) ("\n" :: t :: "\n" :: x :: o)
  | blank {x r o t} : Parm x none → (Txt.rstrip x).length = 0 → Runs nm r none o → Runs nm (x :: r) (some t) (x :: t :: "\n" :: x :: o)
  | code {x y r o t} : Parm x none → (Txt.rstrip x).length ≠ 0 → Txt.endswith x "::" = true → Runs nm r (some t) o → Runs nm (x :: y :: r) (some t) (x :: y :: o)
  | plain {x r o t} : Parm x none → (Txt.rstrip x).length ≠ 0 → Txt.endswith x "::" = false → Runs nm r (some t) o → Runs nm (x :: r) (some t) (x :: o)
-- ## the walk of one turn
abbrev injE (L f : Addr) (cd : Value) : Env := envOf "inject_param_text" (dscope (defAt 5)) L f cd
abbrev injB : List Stmt := dbody (defAt 5)
abbrev bodyI (j : Nat) : Stmt := nth (inBody (nth injB 3)) j
structure IS (base : Heap) (L : Addr) (m : Str → Option Value) (N : List (Addr × Obj)) (h : Heap) (dn dq la : Addr) (rest out : List Str) (wt : Option Str) : Prop where
  S : St base L m N h
  dqv : m "doclines" = some (.ref dq)
  lav : m "lines" = some (.ref la)
  inj : m "inject_params" = some (.ref dn)
  ti : WaitV (m "to_inject") wt
  dqL : DqL N dq rest
  laL : StrL N la out
structure TD (prog : Program) (w : World) (base : Heap) (dn : Addr) (kvs : List (Str × Value)) : Prop where
  at_ : base.DictOf (strKind prog w) dn kvs
  mods : (dn == sysModules) = false
  named : Named kvs
def MatchAt (N : List (Addr × Obj)) (a : Addr) (x : Str) (vs : List Value) : Prop := ∃ t p lim li c, (a, matObj x t p lim li c) ∈ N ∧ (c, tupObj vs) ∈ N
theorem MatchAt.mono {N N' : List (Addr × Obj)} {a : Addr} {x : Str} {vs : List Value} (X : MatchAt N a x vs) (k : ∀ p ∈ N, p ∈ N') : MatchAt N' a x vs :=
  let ⟨t, p, lim, li, c, h1, h2⟩ := X; ⟨t, p, lim, li, c, k _ h1, k _ h2⟩
theorem StrL.more {N : List (Addr × Obj)} {a : Addr} {l : List Str} (x : StrL N a l) (p : Addr × Obj) : StrL (p :: N) a l := x.mono fun _ h => .tail _ h
theorem DqL.mono {N N' : List (Addr × Obj)} {a : Addr} {l : List Str} (x : DqL N a l) (k : ∀ p ∈ N, p ∈ N') : DqL N' a l := let ⟨q, vs, e, i⟩ := x; ⟨q, vs, k _ e, i⟩
section
variable {prog : Program} {w : World} {A : Around} {E : Value → Shared → Prop} {h : Heap} {g : Array GenState} {d : Drawn} {tk : Nat} {os : OsState} {mg mb : Str → Option Value}
  {base : Heap} {m : Str → Option Value} {N : List (Addr × Obj)} {L dn dq la : Addr} {rest out : List Str} {wt : Option Str}
theorem IS.put (I : IS base L m N h dn dq la rest out wt) {x : Str} {v : Value} {h' : Heap} (S' : St base L (upd m x v) N h') (hx : x ∉ (["doclines", "lines", "inject_params", "to_inject"] : List Str)) : IS base L (upd m x v) N h' dn dq la rest out wt := by
  have ne : ∀ y ∈ (["doclines", "lines", "inject_params", "to_inject"] : List Str), upd m x v y = m y := fun y hy => by
    unfold Inj.upd
    rw [if_neg]
    rintro rfl
    exact hx hy
  exact ⟨S', by rw [ne _ (by simp)]; exact I.dqv, by rw [ne _ (by simp)]; exact I.lav, by rw [ne _ (by simp)]; exact I.inj, by rw [ne _ (by simp)]; exact I.ti, I.dqL, I.laL⟩
theorem IS.ti' (I : IS base L m N h dn dq la rest out wt) {v : Value} {h' : Heap} {wt' : Option Str} (S' : St base L (upd m "to_inject" v) N h') (hv : WaitV (some v) wt') : IS base L (upd m "to_inject" v) N h' dn dq la rest out wt' :=
  ⟨S', by exact I.dqv, by exact I.lav, by exact I.inj, by exact hv, I.dqL, I.laL⟩
theorem IS.news (I : IS base L m N h dn dq la rest out wt) {N' : List (Addr × Obj)} {h' : Heap} (S' : St base L m N' h') (k : ∀ p ∈ N, p ∈ N') : IS base L m N' h' dn dq la rest out wt :=
  { I with S := S', dqL := I.dqL.mono k, laL := I.laL.mono k }
theorem IS.ne (I : IS base L m N h dn dq la rest out wt) : dq ≠ la := by
  obtain ⟨_, _, h1, _⟩ := I.dqL
  obtain ⟨_, _, h2, _⟩ := I.laL
  exact I.S.ne h1 h2 fun e => absurd (Value.type.inj e) (by decide)
theorem IS.dqSet (I : IS base L m N h dn dq la rest out wt) {N' : List (Addr × Obj)} {h' : Heap} {r' : List Str} (S' : St base L m N' h') (hd : DqL N' dq r') (k : ∀ p ∈ N, p.1 ≠ dq → p ∈ N') : IS base L m N' h' dn dq la r' out wt :=
  { I with S := S', dqL := hd, laL := let ⟨vs, n, hm, hv⟩ := I.laL; ⟨vs, n, k _ hm (Ne.symm I.ne), hv⟩ }
theorem IS.laSet (I : IS base L m N h dn dq la rest out wt) {N' : List (Addr × Obj)} {h' : Heap} {o' : List Str} (S' : St base L m N' h') (hl : StrL N' la o') (k : ∀ p ∈ N, p.1 ≠ la → p ∈ N') : IS base L m N' h' dn dq la rest o' wt :=
  { I with S := S', laL := hl, dqL := let ⟨q, vs, hm, hv⟩ := I.dqL; ⟨q, vs, k _ hm I.ne, hv⟩ }
theorem inT {kvs : List (Str × Value)} {k : Str} {t : Tok} {Q : Value → Shared → Prop} (X : TD prog w base dn kvs) (S : St base L m N h) (q : ∀ tk', Q (.bool (nmOf kvs k).isSome) ⟨h, g, d, tk', os⟩) :
    wpAny (model prog w) A (compareOp .In (.str k t) (.ref dn)) Q E ⟨h, g, d, tk, os⟩ := by
  refine wpAny_in_of (s := ⟨h, g, d, tk, os⟩) (k := k) (strKind_is prog w k t) X.mods (X.at_.keep S.F.keep).mapOf ?_
  have e : (nmOf kvs k).isSome = (valueAt kvs k).isSome := by
    unfold nmOf
    cases hv : valueAt kvs k with
    | none => rfl
    | some v => obtain ⟨_, x, _, t, rfl⟩ := X.named.at hv; rfl
  rw [← e]; exact q _
theorem itemT {value slice : Expr} {kvs : List (Str × Value)} {k y : Str} {t : Tok} {Q : Value → Shared → Prop} (X : TD prog w base dn kvs) (S : St base L m N h) (hy : nmOf kvs k = some y) (q : ∀ t' tk', Q (.str y t') ⟨h, g, d, tk', os⟩)
    (hs : subscripted slice false (.ref dn) (.str k t) = operate [.ref dn, .str k t] (getItem (.ref dn) (.str k t)) := by with_unfolding_all rfl) :
    wpAny (model prog w) A (subscriptTail value slice (.ref dn) (.str k t)) Q E ⟨h, g, d, tk, os⟩ := by
  have hm := (X.at_.keep S.F.keep).mapOf
  unfold nmOf at hy
  cases hv : valueAt kvs k with
  | none => rw [hv] at hy; cases hy
  | some v =>
    obtain ⟨_, x, _, t', rfl⟩ := X.named.at hv
    rw [hv] at hy
    cases hy
    exact tail_any (T := "dict") (s := ⟨h, g, d, tk, os⟩) (Heap.MapOf.typeIs (s := ⟨h, g, d, tk, os⟩) hm) slot_dict_getitem.lookup (wpAny_getItem_of (s := ⟨h, g, d, tk, os⟩) (k := k) (strKind_is prog w k t) hm hv (q _ _)) hs
theorem grp {a : Addr} {x : Str} {vs : List Value} {k : Nat} {b e : Nat} {pos p : Pos} {kk : Nat} {env : Env} {Q : Value → Shared → Prop} (S : St base L m N h) (X : MatchAt N a x vs) (hk : 2 * k < vs.length) (hb : vs[2 * k]? = some (.int (b : Int) 0)) (he : vs[2 * k + 1]? = some (.int (e : Int) 0))
    (hz : x.length ≤ 1000) (q : ∀ t tk', Q (.str ⟨x.cps.extract b e⟩ t) ⟨h, g, d, tk', os⟩) :
    MethodOnS prog w A E "group" (.ref a) pos [(false, eval (.Constant (.int (k : Int)) kk p) env)] Q ⟨h, g, d, tk, os⟩ := by
  obtain ⟨t, pa, lim, li, c, h1, h2⟩ := X
  refine mat_group (s := ⟨h, g, d, tk, os⟩) (S.N _ h1).1 (cInt ⟨(k : Int), _, b, e, rfl, by omega, by omega, ?_, ?_, ?_, (S.N _ h1).1, (S.N _ h2).1, q _ _⟩)
  · rw [Int.toNat_natCast]; exact hb
  · rw [Int.toNat_natCast]; exact he
  · rw [sizeLine_eq]; show x.length ≤ _; omega
theorem i0 {f : Addr} {cd : Value} {x : Str} {r : List Str} {Q : Flow → Shared → Prop} (I : IS base L m N h dn dq la (x :: r) out wt) (hz : r.length ≤ 10000)
    (q : ∀ h' tk' m' N' t, IS base L m' N' h' dn dq la r out wt → m' "line" = some (.str x t) → Q .next ⟨h', g, d, tk', os⟩) :
    wpAny (model prog w) A (exec (bodyI 0) (injE L f cd)) Q E ⟨h, g, d, tk, os⟩ := by
  refine wpAny_Assign_Name (Call_method0 rfl rfl (loc I.S I.dqv (popL I.S I.dqL hz fun t h₁ N₁ S₁ D₁ k₁ => ?_)))
  have I₁ := I.dqSet S₁ D₁ k₁
  exact sto S₁ fun h₂ tk₂ S₂ => q _ _ _ _ t (I₁.put S₂ (by decide)) (by rfl)
end
end Inj
end
section
open PySem PySem.W PyProof.Rows
namespace Inj
section
variable {prog : Program} {w : World} {A : Around} {E : Value → Shared → Prop} {h : Heap} {g : Array GenState} {d : Drawn} {tk : Nat} {os : OsState} {mg mb : Str → Option Value}
  {base : Heap} {m : Str → Option Value} {N : List (Addr × Obj)} {L dn dq la : Addr} {rest out : List Str} {wt : Option Str}
theorem matchAny {p c : Addr} {src : Value} {fl gr : Int} {t₁ t : Tok} {code : List Nat} {pos : Pos} {ex : Sem Value} {x : Str} {Q : Value → Shared → Prop} (S : St base L m N h)
    (hp : h.get? p = some (patObj c src fl gr t₁)) (hc : h.get? c = some (tupObj (codeVals code))) (hz : x.length ≤ 1000)
    (he : ∀ Q' : Value → Shared → Prop, (∀ tk', Q' (.str x t) ⟨h, g, d, tk', os⟩) → wpAny (model prog w) A ex Q' E ⟨h, g, d, tk, os⟩)
    (r : Option (Int × List Value)) (hr : PatRes code gr.toNat x r) (hzr : ∀ y, r = some y → y.2.length ≤ 100)
    (q0 : r = none → ∀ tk', Q .none ⟨h, g, d, tk', os⟩)
    (q1 : ∀ li vs, r = some (li, vs) → ∀ a h' tk' N', St base L m N' h' → (∀ p ∈ N, p ∈ N') → MatchAt N' a x vs → Q (.ref a) ⟨h', g, d, tk', os⟩) :
    MethodOnS prog w A E "match" (.ref p) pos [(false, ex)] Q ⟨h, g, d, tk, os⟩ := by
  refine pat_match (s := ⟨h, g, d, tk, os⟩) (cs := codeVals code) hp (he _ fun tk' => ⟨x, t, r, rfl, ?_, ?_, hzr, hp, hc, ?_⟩)
  · show x.length < _; omega
  · rw [codeVals_back]; exact hr
  · cases r with
    | none => exact q0 rfl _
    | some y =>
      obtain ⟨li, vs⟩ := y
      have S₁ := S.push (tupObj vs) rfl
      have S₂ := S₁.push (matObj x t p x.cps.size li h.objs.size) rfl
      have e : (h.push (tupObj vs)).objs.size = h.objs.size + 1 := Heap.size_push ..
      rw [e] at S₂
      exact q1 li vs rfl _ _ _ _ S₂ (fun p hp => .tail _ (.tail _ hp)) ⟨t, p, _, li, _, .head _, .tail _ (.head _)⟩
theorem i1 {f : Addr} {cd : Value} {x : Str} {t : Tok} {r : Option (Nat × Str)} {Q : Flow → Shared → Prop} (B : Bs mg mb base) (I : IS base L m N h dn dq la rest out wt) (hx : x.length ≤ 1000) (ml : m "line" = some (.str x t)) (hr : Parm x r)
    (q0 : r = none → ∀ h' tk' m', IS base L m' N h' dn dq la rest out wt → m' "line" = some (.str x t) → m' "m" = some .none → Q .next ⟨h', g, d, tk', os⟩)
    (q1 : ∀ i n, r = some (i, n) → ∀ h' tk' m' N' a z hd (b e : Nat), IS base L m' N' h' dn dq la rest out wt → m' "line" = some (.str x t) → m' "m" = some (.ref a) →
      MatchAt N' a x [z, hd, .int ((0 : Nat) : Int) 0, .int (i : Int) 0, .int (b : Int) 0, .int (e : Int) 0] → n = ⟨x.cps.extract b e⟩ → i ≤ x.length → i < 20 → Q .next ⟨h', g, d, tk', os⟩) :
    wpAny (model prog w) A (exec (bodyI 1) (injE L f cd)) Q E ⟨h, g, d, tk, os⟩ := by
  have B' := B.keeps I.S.F.keep
  obtain ⟨src, t₁, hp⟩ := B'.param
  refine wpAny_Assign_Name (Call_method1 rfl rfl rfl (glo I.S B B.gParam ?_))
  cases r with
  | none =>
    exact matchAny I.S hp B'.paramC hx (fun Q' q => loc I.S ml (q _)) none hr (fun y e => nomatch e) (fun _ tk' => sto I.S fun h₁ tk₁ S₁ => q0 rfl _ _ _ (I.put S₁ (by decide)) (by exact ml) (by rfl)) (fun _ _ e => nomatch e)
  | some y =>
    obtain ⟨i, n⟩ := y
    obtain ⟨li, z, hd, b, e, hr, hn, hi, hi2⟩ := hr
    refine matchAny I.S hp B'.paramC hx (fun Q' q => loc I.S ml (q _)) _ hr (fun y e => by cases e; show 6 ≤ 100; omega) (fun e => nomatch e) fun li' vs' ev a h' tk' N' S' k' M' => ?_
    cases ev
    exact sto S' fun h₁ tk₁ S₁ => q1 i n rfl _ _ _ _ a z hd b e ((I.news S' k').put S₁ (by decide)) (by exact ml) (by rfl) M' hn hi hi2
theorem truNone {Q : Bool → Shared → Prop} (q : Q false ⟨h, g, d, tk, os⟩) : wpAny (model prog w) A (truthy .none) Q E ⟨h, g, d, tk, os⟩ := fun _ _ _ => q
theorem truMatch {a : Addr} {x : Str} {vs : List Value} {Q : Bool → Shared → Prop} (S : St base L m N h) (X : MatchAt N a x vs) (q : Q true ⟨h, g, d, tk, os⟩) : wpAny (model prog w) A (truthy (.ref a)) Q E ⟨h, g, d, tk, os⟩ := by
  obtain ⟨t, p, lim, li, c, h1, _⟩ := X
  exact match_truthy (s := ⟨h, g, d, tk, os⟩) (S.N _ h1).1 rfl q
theorem extract_len {x : Str} {i : Nat} (hi : i ≤ x.length) : (Str.mk (x.cps.extract 0 i)).length = i := by
  show (x.cps.extract 0 i).size = i
  rw [Array.size_extract]
  have : x.cps.size = x.length := rfl
  omega
end
end Inj
end
section
open PySem PySem.W PyProof.Rows
namespace Inj
theorem sp1_length : (Str.ofString " ").length = 1 := by decide +kernel
section
variable {prog : Program} {w : World} {A : Around} {E : Value → Shared → Prop} {h : Heap} {g : Array GenState} {d : Drawn} {tk : Nat} {os : OsState} {mg mb : Str → Option Value}
  {base : Heap} {m : Str → Option Value} {N : List (Addr × Obj)} {L dn dq la : Addr} {rest out : List Str} {wt : Option Str}
-- `' ' * len(m.group(1))`
theorem spLen {f : Addr} {cd : Value} {mn : Str} {a : Addr} {x : Str} {vs : List Value} {i : Nat} {k1 k2 : Nat} {p1 p2 p3 p4 p5 p6 p7 p8 : Pos} {Q : Value → Shared → Prop} (B : Bs mg mb base) (S : St base L m N h) (ma : m mn = some (.ref a)) (X : MatchAt N a x vs) (hl : 4 ≤ vs.length)
    (hb : vs[2]? = some (.int ((0 : Nat) : Int) 0)) (he : vs[3]? = some (.int (i : Int) 0)) (hz : x.length ≤ 1000) (hi : i ≤ x.length) (hi2 : i < 20)
    (q : ∀ t' tk', Q (.str (sp i) t') ⟨h, g, d, tk', os⟩) (hk : (envOf "inject_param_text" (dscope (defAt 5)) L f cd).kindOf mn = some .local) (hd : (mn == ("__debug__" : Str)) = false)
    (hbase : attributeBase (.Name mn p5) "group" (injE L f cd) (eval (.Name mn p5) (injE L f cd)) = eval (.Name mn p5) (injE L f cd)) (hline : (p4.endLine == p7.line) = true) :
    wpAny (model prog w) A (eval (.BinOp (.Constant (.str " ") k1 p1) .Mult (.Call (.Name "len" p2) [.Call (.Attribute (.Name mn p5) "group" p4) [.Constant (.int 1) k2 p6] [] p7] [] p3) p8) (injE L f cd)) Q E ⟨h, g, d, tk, os⟩ := by
  refine wpAny_BinOp (cStr (Call_ (bui S B B.noLen B.bLen (callWith_builtin1 (args_cons (Call_method1 hbase rfl hline (loc S ma (grp (k := 1) S X (by omega) hb he hz fun t₁ tk₁ => args_nil ?_) rfl hk hd)))))))
  refine lenStr (by rw [extract_len hi]; omega) fun t₂ tk₂ => ?_
  rw [extract_len hi]
  refine mulS (mulOk_sp _ hi2) fun t₃ tk₃ => ?_
  rw [mul_sp _ hi2]
  exact q _ _
theorem iNone {f : Addr} {cd : Value} {x : Str} {t : Tok} {kvs : List (Str × Value)} {Q : Flow → Shared → Prop} (B : Bs mg mb base) (T : TD prog w base dn kvs) (I : IS base L m N h dn dq la rest out none) (hx : x.length ≤ 1000) (hr : rest.length ≤ 10000) (hr2 : ∀ y ∈ rest, y.length ≤ 1000)
    (ml : m "line" = some (.str x t))
    (hcase : (m "m" = some .none ∧ wt = none) ∨ ∃ a z hd i b e n, m "m" = some (.ref a) ∧ MatchAt N a x [z, hd, .int ((0 : Nat) : Int) 0, .int ((i : Nat) : Int) 0, .int ((b : Nat) : Int) 0, .int ((e : Nat) : Int) 0] ∧ n = ⟨x.cps.extract b e⟩ ∧ i ≤ x.length ∧ i < 20 ∧
      ((nmOf kvs (Txt.lstripChars n "*") = none ∧ wt = none) ∨ ∃ y ind, nmOf kvs (Txt.lstripChars n "*") = some y ∧ Indent i rest ind ∧ wt = some (ind ++ y)))
    (q : ∀ h' tk' m' N' t, IS base L m' N' h' dn dq la rest out wt → m' "line" = some (.str x t) → Q .next ⟨h', g, d, tk', os⟩) :
    wpAny (model prog w) A (exec (bodyI 2) (injE L f cd)) Q E ⟨h, g, d, tk, os⟩ := by
  refine wpAny_If (isT I.S I.ti fun tk₁ => ?_)
  rw [show (Value.none == Value.none) = true from rfl, if_pos rfl]
  rcases hcase with ⟨mm, rfl⟩ | ⟨a, z, hd, i, b, e, n, mm, M, hn, hi, hi2, hnm⟩
  · refine wpAny_execs_cons (wpAny_If (wpAny_isTrue_value (loc I.S mm (truNone ?_))))
    rw [if_neg Bool.false_ne_true]
    exact wpAny_execs_nil (wpAny_execs_nil (q _ _ _ _ _ I ml))
  · refine wpAny_execs_cons (wpAny_If (wpAny_isTrue_value (loc I.S mm (truMatch I.S M ?_))))
    rw [if_pos rfl]
    refine wpAny_execs_cons (wpAny_Assign_Name (Call_method1 rfl rfl rfl (Call_method1 rfl rfl rfl (loc I.S mm (grp (k := 2) I.S M (by show 4 < 6; omega) rfl rfl hx fun t₁ tk₂ => ?_)))))
    have hlen : (Str.mk (x.cps.extract b e)).length ≤ 1000 := by
      show (x.cps.extract b e).size ≤ 1000
      rw [Array.size_extract]
      have : x.cps.size = x.length := rfl
      omega
    refine SB.lstripChars (cStr ⟨_, _, rfl, fun t₂ tk₃ => ?_⟩) (by rw [sizeLine_eq]; omega)
    rw [← hn]
    refine sto I.S fun h₃ tk₄ S₃ => ?_
    have I₃ := I.put S₃ (by decide)
    refine wpAny_execs_cons (wpAny_If (wpAny_isTrue_Compare1 (loc I₃.S (v := .str (Txt.lstripChars n "*") t₂) (by rfl) (loc I₃.S I₃.inj (inT T I₃.S fun tk₅ => truB ?_))) (by with_unfolding_all rfl)))
    rcases hnm with ⟨hy, rfl⟩ | ⟨y, ind, hy, hind, rfl⟩
    · rw [hy]
      simp only [Option.isSome_none, Bool.false_eq_true, if_false]
      exact wpAny_execs_nil (wpAny_execs_nil (wpAny_execs_nil (q _ _ _ _ _ I₃ (by exact ml))))
    · rw [hy]
      simp only [Option.isSome_some, if_true]
      have ly := texts_len (T.named.nm hy).2
      refine wpAny_execs_cons (wpAny_Assign_Name (wpAny_BinOp (spLen B I₃.S (a := a) (by exact mm) M (by show 4 ≤ 6; omega) rfl rfl hx hi hi2 (fun t₃ tk₆ => ?_) rfl (by decide) rfl rfl)))
      refine cStr (addS (by rw [sp_length, sp1_length, sizeLine_eq]; omega) fun t₄ tk₇ => ?_)
      refine sto I₃.S fun h₅ tk₈ S₅ => ?_
      have I₅ := I₃.put S₅ (by decide)
      have fin : ∀ (Q' : Flow → Shared → Prop) h' tk' m' N' t', IS base L m' N' h' dn dq la rest out none → m' "line" = some (.str x t) → m' "param" = some (.str (Txt.lstripChars n "*") t₂) → m' "indent" = some (.str ind t') → ind.length ≤ 30 →
          (∀ h' tk' m' N' t, IS base L m' N' h' dn dq la rest out (some (ind ++ y)) → m' "line" = some (.str x t) → Q' .next ⟨h', g, d, tk', os⟩) →
          wpAny (model prog w) A (execs [nth (inBody (nth (inBody (nth (inBody (bodyI 2)) 0)) 1)) 2] (injE L f cd)) Q' E ⟨h', g, d, tk', os⟩ := by
        intro Q' h' tk' m' N' t' I' ml' mp' mi' hil q'
        refine wpAny_execs_cons (wpAny_Assign_Name (wpAny_BinOp (loc I'.S mi' (Subscript_ (loc I'.S I'.inj (loc I'.S mp' (itemT T I'.S hy (fun t'' tk₉ => ?_) (by with_unfolding_all rfl))))))))
        refine addS (by rw [sizeLine_eq]; omega) fun t₆ tk₁₀ => ?_
        exact sto I'.S fun h₇ tk₁₁ S₇ => wpAny_execs_nil (q' _ _ _ _ t (I'.ti' S₇ ⟨_, rfl⟩) (by exact ml'))
      have mi₅ : upd (upd m "param" (.str (Txt.lstripChars n "*") t₂)) "indent" (.str (sp i ++ " ") t₄) "indent" = some (.str (sp i ++ " ") t₄) := by rfl
      have mp₅ : upd (upd m "param" (.str (Txt.lstripChars n "*") t₂)) "indent" (.str (sp i ++ " ") t₄) "param" = some (.str (Txt.lstripChars n "*") t₂) := by rfl
      have ml₅ : upd (upd m "param" (.str (Txt.lstripChars n "*") t₂)) "indent" (.str (sp i ++ " ") t₄) "line" = some (.str x t) := by exact ml
      generalize upd (upd m "param" (.str (Txt.lstripChars n "*") t₂)) "indent" (.str (sp i ++ " ") t₄) = m₅ at I₅ mi₅ mp₅ ml₅ S₅
      have lsp : (sp i ++ " ").length ≤ 30 := by rw [str_append_length, sp_length, sp1_length]; omega
      refine wpAny_execs_cons (wpAny_If (wpAny_isTrue_value (loc I₅.S I₅.dqv (truDq I₅.S I₅.dqL hr fun tk₉ => ?_))))
      cases hind with
      | last =>
        rw [if_neg (by simp)]
        exact wpAny_execs_nil (fin _ _ _ _ _ _ I₅ ml₅ mp₅ mi₅ lsp fun h' tk' m' N' t I' ml' => wpAny_execs_nil (wpAny_execs_nil (q _ _ _ _ _ I' ml')))
      | @own y' r' htw =>
        rw [if_pos (by simp)]
        have B' := B.keeps I₅.S.F.keep
        obtain ⟨src, tp, hp⟩ := B'.twin
        have hy' := hr2 y' (.head _)
        obtain ⟨kd, vd, hmd, hvd⟩ := I₅.dqL
        cases hvd with
        | cons _ td hvd =>
          refine wpAny_execs_cons (wpAny_Assign_Name (Call_method1 rfl rfl rfl (glo I₅.S B B.gTwin (matchAny I₅.S hp B'.twinC hy' (t := td) (fun Q' q' => ?_) none htw (fun y e => nomatch e) (fun _ tk' => ?_) (fun _ _ e => nomatch e)))))
          · exact Subscript_ (loc I₅.S I₅.dqv (cInt (tail_any (T := "collections.deque") (s := ⟨_, g, d, _, os⟩) (dq_typeIs (s := ⟨_, g, d, _, os⟩) (I₅.S.N _ hmd).1) slot_dq_getitem.lookup (dq_getItem0 (s := ⟨_, g, d, _, os⟩) (I₅.S.N _ hmd).1 (q' _)) (by with_unfolding_all rfl))))
          · refine sto I₅.S fun h₆ tk₆ S₆ => ?_
            have I₆ := I₅.put S₆ (by decide)
            refine wpAny_execs_cons (wpAny_If (wpAny_isTrue_value (loc I₆.S (v := .none) (by rfl) (truNone ?_))))
            rw [if_neg Bool.false_ne_true]
            exact wpAny_execs_nil (wpAny_execs_nil (fin _ _ _ _ _ _ I₆ (by exact ml₅) (by exact mp₅) (by exact mi₅) lsp fun h' tk' m' N' t I' ml' => wpAny_execs_nil (wpAny_execs_nil (q _ _ _ _ _ I' ml'))))
      | @other y' r' j htw =>
        rw [if_pos (by simp)]
        have B' := B.keeps I₅.S.F.keep
        obtain ⟨src, tp, hp⟩ := B'.twin
        have hy' := hr2 y' (.head _)
        obtain ⟨kd, vd, hmd, hvd⟩ := I₅.dqL
        obtain ⟨li, z', hd', htw, hj, hj2⟩ := htw
        cases hvd with
        | cons _ td hvd =>
          refine wpAny_execs_cons (wpAny_Assign_Name (Call_method1 rfl rfl rfl (glo I₅.S B B.gTwin (matchAny I₅.S hp B'.twinC hy' (t := td) (fun Q' q' => ?_) _ htw (fun y e => by cases e; show 4 ≤ 100; omega) (fun e => nomatch e) (fun li' vs' ev a' h' tk' N' S' k' M' => ?_)))))
          · exact Subscript_ (loc I₅.S I₅.dqv (cInt (tail_any (T := "collections.deque") (s := ⟨_, g, d, _, os⟩) (dq_typeIs (s := ⟨_, g, d, _, os⟩) (I₅.S.N _ hmd).1) slot_dq_getitem.lookup (dq_getItem0 (s := ⟨_, g, d, _, os⟩) (I₅.S.N _ hmd).1 (q' _)) (by with_unfolding_all rfl))))
          · cases ev
            have I₆' := I₅.news S' k'
            refine sto S' fun h₆ tk₆ S₆ => ?_
            have I₆ := I₆'.put S₆ (by decide)
            refine wpAny_execs_cons (wpAny_If (wpAny_isTrue_value (loc I₆.S (v := .ref a') (by rfl) (truMatch I₆.S M' ?_))))
            rw [if_pos rfl]
            refine wpAny_execs_cons (wpAny_Assign_Name (spLen B I₆.S (a := a') (by rfl) M' (by show 4 ≤ 4; omega) rfl rfl hy' hj hj2 (fun t₈ tk₈ => ?_) rfl (by decide) rfl rfl))
            refine sto I₆.S fun h₇ tk₇ S₇ => ?_
            have I₇ := I₆.put S₇ (by decide)
            exact wpAny_execs_nil (wpAny_execs_nil (fin _ _ _ _ _ t₈ I₇ (by exact ml₅) (by exact mp₅) (by rfl) (by rw [sp_length]; omega) fun h' tk' m' N' t I' ml' => wpAny_execs_nil (wpAny_execs_nil (q _ _ _ _ _ I' ml'))))
end
end Inj
end
section
open PySem PySem.W PyProof.Rows
namespace Inj
section
variable {prog : Program} {w : World} {A : Around} {E : Value → Shared → Prop} {h : Heap} {g : Array GenState} {d : Drawn} {tk : Nat} {os : OsState} {mg mb : Str → Option Value}
  {base : Heap} {m : Str → Option Value} {N : List (Addr × Obj)} {L dn dq la : Addr} {rest out : List Str} {wt : Option Str}
theorem iApp {f : Addr} {cd : Value} {x : Str} {t : Tok} {Q : Flow → Shared → Prop} (I : IS base L m N h dn dq la rest out wt) (hz : out.length ≤ 9000) (ml : m "line" = some (.str x t))
    (q : ∀ h' tk' m' N', IS base L m' N' h' dn dq la rest (out ++ [x]) wt → Q .next ⟨h', g, d, tk', os⟩) :
    wpAny (model prog w) A (exec (bodyI 3) (injE L f cd)) Q E ⟨h, g, d, tk, os⟩ := by
  refine wpAny_Expr_any (Call_method1 rfl rfl rfl (loc I.S I.lav (appL I.S I.laL (loc I.S ml ⟨x, t, h, N, tk, rfl, rfl, I.S, I.laL, by omega, fun h' tk' N' S' L' k' => ?_⟩))))
  exact q _ _ _ _ (I.laSet S' L' k')
theorem iParam {f : Addr} {cd : Value} {x tt : Str} {t : Tok} {a : Addr} {vs : List Value} {Q : Flow → Shared → Prop} (I : IS base L m N h dn dq la rest out (some tt)) (hz : out.length ≤ 9000) (ml : m "line" = some (.str x t))
    (mm : m "m" = some (.ref a)) (M : MatchAt N a x vs)
    (q : ∀ h' tk' m' N', IS base L m' N' h' dn dq la rest (out ++ (["\n", tt, "\n"] : List Str)) none → m' "line" = some (.str x t) → Q .next ⟨h', g, d, tk', os⟩) :
    wpAny (model prog w) A (exec (bodyI 2) (injE L f cd)) Q E ⟨h, g, d, tk, os⟩ := by
  obtain ⟨tt', hti⟩ := I.ti
  refine wpAny_If (isT I.S hti fun tk₁ => ?_)
  rw [show (Value.str tt tt' == Value.none) = false from rfl, if_neg Bool.false_ne_true]
  refine wpAny_execs_cons (wpAny_If (wpAny_isTrue_value (loc I.S mm (truMatch I.S M ?_))))
  rw [if_pos rfl]
  refine wpAny_execs_cons (wpAny_Expr_any (Call_method1 rfl rfl rfl (loc I.S I.lav (extL I.S I.laL (List_ (args_cons (cStr (args_cons (loc I.S hti (args_cons (cStr (args_nil ?_)))))))))))) 
  refine dispL I.S (x := ["\n", tt, "\n"]) (.cons _ _ (.cons _ _ (.cons _ _ .nil))) (by show 3 ≤ 1000; omega) fun b h₁ N₁ S₁ k₁ L₁ => ?_
  refine ⟨b, ["\n", tt, "\n"], h₁, N₁, _, rfl, rfl, S₁, I.laL.mono k₁, L₁, by show _ + 3 ≤ _; omega, fun h' tk' N' S' L' k' => ?_⟩
  have I₁ := (I.news S₁ k₁).laSet S' L' k'
  refine wpAny_execs_cons (wpAny_Assign_Name (wpAny_Constant_none (sto I₁.S fun h₂ tk₂ S₂ => ?_)))
  exact wpAny_execs_nil (wpAny_execs_nil (q _ _ _ _ (I₁.ti' S₂ (wt' := none) rfl) (by exact ml)))
theorem iSome {f : Addr} {cd : Value} {x tt : Str} {t : Tok} {Q : Flow → Shared → Prop} (I : IS base L m N h dn dq la rest out (some tt)) (hz : out.length ≤ 9000) (hr : rest.length ≤ 9000) (hx : x.length ≤ 1000) (ml : m "line" = some (.str x t))
    (mm : m "m" = some .none)
    (q : (∀ fl h' tk' m' N', (fl = .next ∧ (Txt.rstrip x).length = 0 ∧ IS base L m' N' h' dn dq la rest (out ++ [x, tt, "\n"]) none ∧ m' "line" = some (.str x t)) ∨
        (fl = .cont ∧ (Txt.rstrip x).length ≠ 0 ∧ Txt.endswith x "::" = true ∧ ∃ y r, rest = y :: r ∧ IS base L m' N' h' dn dq la r (out ++ [x, y]) (some tt)) ∨
        (fl = .next ∧ (Txt.rstrip x).length ≠ 0 ∧ Txt.endswith x "::" = false ∧ IS base L m' N' h' dn dq la rest out (some tt) ∧ m' "line" = some (.str x t)) → Q fl ⟨h', g, d, tk', os⟩))
    (hne : (Txt.rstrip x).length ≠ 0 → Txt.endswith x "::" = true → rest ≠ []) :
    wpAny (model prog w) A (exec (bodyI 2) (injE L f cd)) Q E ⟨h, g, d, tk, os⟩ := by
  obtain ⟨tt', hti⟩ := I.ti
  refine wpAny_If (isT I.S hti fun tk₁ => ?_)
  rw [show (Value.str tt tt' == Value.none) = false from rfl, if_neg Bool.false_ne_true]
  refine wpAny_execs_cons (wpAny_If (wpAny_isTrue_value (loc I.S mm (truNone ?_))))
  rw [if_neg Bool.false_ne_true]
  refine wpAny_execs_cons (wpAny_If (wpAny_isTrue_Not (wpAny_isTrue_value (Call_method0 rfl rfl (loc I.S ml (SBL.rstrip (fun t' k hle => ?_) (by rw [sizeLine_eq]; omega)))))))
  refine truS (by omega) fun tk₂ => ?_
  by_cases h0 : (Txt.rstrip x).length = 0
  · rw [show (!(((Txt.rstrip x).length : Int) != 0)) = true from by rw [h0]; rfl, if_pos rfl]
    refine wpAny_execs_cons (wpAny_Expr_any (Call_method1 rfl rfl rfl (loc I.S I.lav (extL I.S I.laL (List_ (args_cons (loc I.S ml (args_cons (loc I.S hti (args_cons (cStr (args_nil ?_)))))))))))) 
    refine dispL I.S (x := [x, tt, "\n"]) (.cons _ _ (.cons _ _ (.cons _ _ .nil))) (by show 3 ≤ 1000; omega) fun b h₁ N₁ S₁ k₁ L₁ => ?_
    refine ⟨b, [x, tt, "\n"], h₁, N₁, _, rfl, rfl, S₁, I.laL.mono k₁, L₁, by show _ + 3 ≤ _; omega, fun h' tk' N' S' L' k' => ?_⟩
    have I₁ := (I.news S₁ k₁).laSet S' L' k'
    refine wpAny_execs_cons (wpAny_Assign_Name (wpAny_Constant_none (sto I₁.S fun h₂ tk₂ S₂ => ?_)))
    exact wpAny_execs_nil (wpAny_execs_nil (wpAny_execs_nil (q _ _ _ _ _ (.inl ⟨rfl, h0, I₁.ti' S₂ (wt' := none) rfl, by exact ml⟩))))
  · rw [show (!(((Txt.rstrip x).length : Int) != 0)) = false from by simpa using h0, if_neg Bool.false_ne_true]
    refine wpAny_execs_cons (wpAny_If (wpAny_isTrue_value (Call_method1 rfl rfl rfl (loc I.S ml (SB.endswith (cStr ⟨_, _, rfl, truB ?_⟩))))))
    cases he : Txt.endswith x "::" with
    | false =>
      rw [if_neg Bool.false_ne_true]
      exact wpAny_execs_nil (wpAny_execs_nil (wpAny_execs_nil (wpAny_execs_nil (q _ _ _ _ _ (.inr (.inr ⟨rfl, h0, he, I, ml⟩))))))
    | true =>
      rw [if_pos rfl]
      have hr1 := hne h0 he
      cases rest with
      | nil => exact absurd rfl hr1
      | cons y r =>
        have hr3 : r.length ≤ 9000 := by rw [List.length_cons] at hr; omega
        refine wpAny_execs_cons (wpAny_Expr_any (Call_method1 rfl rfl rfl (loc I.S I.lav (extL I.S I.laL (List_ (args_cons (loc I.S ml (args_cons (Call_method0 rfl rfl (loc I.S I.dqv (popL I.S I.dqL (by omega) fun ty h₁ N₁ S₁ D₁ k₁ => args_nil ?_)))))))))))
        have I₁ := I.dqSet S₁ D₁ k₁
        refine dispL I₁.S (x := [x, y]) (.cons _ _ (.cons _ _ .nil)) (by show 2 ≤ 1000; omega) fun b h₂ N₂ S₂ k₂ L₂ => ?_
        refine ⟨b, [x, y], h₂, N₂, _, rfl, rfl, S₂, I₁.laL.mono k₂, L₂, by show _ + 2 ≤ _; omega, fun h' tk' N' S' L' k' => ?_⟩
        have I₃ := (I₁.news S₂ k₂).laSet S' L' k'
        exact wpAny_execs_cons (wpAny_Continue (q _ _ _ _ _ (.inr (.inl ⟨rfl, h0, he, y, r, rfl, I₃⟩))))
end
end Inj
end
section
open PySem PySem.W PyProof.Rows
namespace Inj
section
variable {prog : Program} {w : World} {A : Around} {E : Value → Shared → Prop} {h : Heap} {g : Array GenState} {d : Drawn} {tk : Nat} {os : OsState} {mg mb : Str → Option Value}
  {base : Heap} {m : Str → Option Value} {N : List (Addr × Obj)} {L dn dq la : Addr} {rest out : List Str} {wt : Option Str}
/-- one turn of the while loop -/
theorem iTurn {f : Addr} {cd : Value} {x : Str} {r o o' : List Str} {kvs : List (Str × Value)} {Q : Flow → Shared → Prop} (B : Bs mg mb base) (T : TD prog w base dn kvs) (I : IS base L m N h dn dq la (x :: r) out wt)
    (R : Runs (nmOf kvs) (x :: r) wt o') (ho : out ++ o' = o) (hlo : o.length ≤ 8000) (hr : r.length ≤ 8000) (hl : ∀ y ∈ x :: r, y.length ≤ 1000)
    (q : ∀ fl h' tk' m' N' r' out' wt' o'', (fl = .next ∨ fl = .cont) → r'.length ≤ r.length → (∀ y ∈ r', y ∈ r) → IS base L m' N' h' dn dq la r' out' wt' → Runs (nmOf kvs) r' wt' o'' → out' ++ o'' = o → Q fl ⟨h', g, d, tk', os⟩) :
    wpAny (model prog w) A (execs (inBody (nth injB 3)) (injE L f cd)) Q E ⟨h, g, d, tk, os⟩ := by
  have hx := hl x (.head _)
  have hl' : ∀ y ∈ r, y.length ≤ 1000 := fun y hy => hl y (.tail _ hy)
  have hout : out.length + o'.length ≤ 8000 := by rw [← ho, List.length_append] at hlo; exact hlo
  show wpAny (model prog w) A (execs [bodyI 0, bodyI 1, bodyI 2, bodyI 3] (injE L f cd)) Q E ⟨h, g, d, tk, os⟩
  refine wpAny_execs_cons (i0 I (by omega) fun h₁ tk₁ m₁ N₁ t I₁ ml₁ => ?_)
  -- the last line of a turn that went through
  have app : ∀ h' tk' m' N' out' wt' o'' t', IS base L m' N' h' dn dq la r out' wt' → m' "line" = some (.str x t') → Runs (nmOf kvs) r wt' o'' → out' ++ x :: o'' = o → wpAny (model prog w) A (execs [bodyI 3] (injE L f cd)) Q E ⟨h', g, d, tk', os⟩ := by
    intro h' tk' m' N' out' wt' o'' t' I' ml' R' ho'
    have : out'.length ≤ 9000 := by rw [← ho', List.length_append] at hlo; omega
    refine wpAny_execs_cons (iApp I' this ml' fun h₂ tk₂ m₂ N₂ I₂ => wpAny_execs_nil ?_)
    exact q _ _ _ _ _ _ _ _ _ (.inl rfl) (Nat.le_refl _) (fun _ h => h) I₂ R' (by rw [List.append_assoc]; exact ho')
  cases R with
  | skip hp R =>
    refine wpAny_execs_cons (i1 B I₁ hx ml₁ hp (fun _ h₂ tk₂ m₂ I₂ ml₂ mm₂ => ?_) (fun _ _ e => nomatch e))
    exact wpAny_execs_cons (iNone (wt := none) B T I₂ hx (by omega) hl' ml₂ (.inl ⟨mm₂, rfl⟩) fun h' tk' m' N' t' I' ml' => app _ _ _ _ _ _ _ _ I' ml' R ho)
  | unnamed hp hn R =>
    refine wpAny_execs_cons (i1 B I₁ hx ml₁ hp (fun e => nomatch e) (fun i n e h₂ tk₂ m₂ N₂ a z hd b e' I₂ ml₂ mm₂ M₂ hn₂ hi hi2 => ?_))
    cases e
    exact wpAny_execs_cons (iNone (wt := none) B T I₂ hx (by omega) hl' ml₂ (.inr ⟨a, z, hd, _, b, e', _, mm₂, M₂, hn₂, hi, hi2, .inl ⟨hn, rfl⟩⟩) fun h' tk' m' N' t' I' ml' => app _ _ _ _ _ _ _ _ I' ml' R ho)
  | named hp hn hind R =>
    refine wpAny_execs_cons (i1 B I₁ hx ml₁ hp (fun e => nomatch e) (fun i n e h₂ tk₂ m₂ N₂ a z hd b e' I₂ ml₂ mm₂ M₂ hn₂ hi hi2 => ?_))
    cases e
    exact wpAny_execs_cons (iNone B T I₂ hx (by omega) hl' ml₂ (.inr ⟨a, z, hd, _, b, e', _, mm₂, M₂, hn₂, hi, hi2, .inr ⟨_, _, hn, hind, rfl⟩⟩) fun h' tk' m' N' t' I' ml' => app _ _ _ _ _ _ _ _ I' ml' R ho)
  | @param _ _ o₁ tt qq hp R =>
    obtain ⟨i, n⟩ := qq
    refine wpAny_execs_cons (i1 B I₁ hx ml₁ hp (fun e => nomatch e) (fun i n e h₂ tk₂ m₂ N₂ a z hd b e' I₂ ml₂ mm₂ M₂ hn₂ hi hi2 => ?_))
    refine wpAny_execs_cons (iParam I₂ (by omega) ml₂ mm₂ M₂ fun h' tk' m' N' I' ml' => app _ _ _ _ _ _ o₁ _ I' ml' R ?_)
    rw [List.append_assoc]; exact ho
  | @blank _ _ o₁ tt hp h0 R =>
    refine wpAny_execs_cons (i1 B I₁ hx ml₁ hp (fun _ h₂ tk₂ m₂ I₂ ml₂ mm₂ => ?_) (fun _ _ e => nomatch e))
    refine wpAny_execs_cons (iSome I₂ (by omega) (by omega) hx ml₂ mm₂ (fun fl h' tk' m' N' hc => ?_) (fun a => absurd h0 a))
    rcases hc with ⟨rfl, _, I', ml'⟩ | ⟨_, a, _⟩ | ⟨_, a, _⟩
    · exact app _ _ _ _ _ _ o₁ _ I' ml' R (by rw [List.append_assoc]; exact ho)
    · exact absurd h0 a
    · exact absurd h0 a
  | @code _ y r o₁ tt hp h0 he R =>
    refine wpAny_execs_cons (i1 B I₁ hx ml₁ hp (fun _ h₂ tk₂ m₂ I₂ ml₂ mm₂ => ?_) (fun _ _ e => nomatch e))
    refine wpAny_execs_cons (iSome I₂ (by omega) (by omega) hx ml₂ mm₂ (fun fl h' tk' m' N' hc => ?_) (fun _ _ => List.cons_ne_nil _ _))
    rcases hc with ⟨_, a, _⟩ | ⟨rfl, _, _, y', r', hyr, I'⟩ | ⟨_, _, a, _⟩
    · exact absurd a h0
    · cases hyr
      exact q _ _ _ _ _ _ _ _ _ (.inr rfl) (by rw [List.length_cons]; omega) (fun z hz => .tail _ hz) I' R (by rw [List.append_assoc]; exact ho)
    · rw [he] at a; cases a
  | @plain _ _ o₁ tt hp h0 he R =>
    refine wpAny_execs_cons (i1 B I₁ hx ml₁ hp (fun _ h₂ tk₂ m₂ I₂ ml₂ mm₂ => ?_) (fun _ _ e => nomatch e))
    refine wpAny_execs_cons (iSome I₂ (by omega) (by omega) hx ml₂ mm₂ (fun fl h' tk' m' N' hc => ?_) (fun _ a => by rw [he] at a; cases a))
    rcases hc with ⟨_, a, _⟩ | ⟨_, _, a, _⟩ | ⟨rfl, _, _, I', ml'⟩
    · exact absurd a h0
    · rw [he] at a; cases a
    · exact app _ _ _ _ _ _ o₁ _ I' ml' R ho
set_option maxHeartbeats 4000000 in
theorem inject_body {f : Addr} {cd : Value} {X : Str} {tX : Tok} {o : List Str} {kvs : List (Str × Value)} {Q : Flow → Shared → Prop} (B : Bs mg mb base) (T : TD prog w base dn kvs) (S : St base L m [] h) (hh : A.handled = none)
    (mX : m "doctext" = some (.str X tX)) (mI : m "inject_params" = some (.ref dn)) (hX : X.length ≤ 1000000) (R : Runs (nmOf kvs) (Txt.lines X) none o) (hlo : o.length ≤ 8000) (hr : (Txt.lines X).length ≤ 8000) (hl : ∀ y ∈ Txt.lines X, y.length ≤ 1000)
    (hjo : (o.map (·.length)).sum + o.length * 1 ≤ 16777216) (q : ∀ t' h' tk', Keeps base h' → Q (.ret (.str (Txt.join "\n" o) t')) ⟨h', g, d, tk', os⟩) :
    wpAny (model prog w) A (execs injB (injE L f cd)) Q E ⟨h, g, d, tk, os⟩ := by
  show wpAny (model prog w) A (execs [nth injB 0, nth injB 1, nth injB 2, nth injB 3, nth injB 4] (injE L f cd)) Q E ⟨h, g, d, tk, os⟩
  refine wpAny_execs_cons (wpAny_Assign_Name (Call_ (glo S B B.gDeque (PyProof.Rows.callWith_type1 (args_cons (MethodCall_ (loc S mX (GM.splitlines (callWith_method0 ?_)))))))))
  refine splitlinesNA (s := ⟨h, g, d, tk, os⟩) S.F S.N (fun l h₁ k₁ hlm hv _ hL₁ F₁ N₁ => ?_) (by rw [sizeLine_eq]; omega)
  dsimp only at hL₁ N₁ ⊢
  have S₁ : St base L m [(h.objs.size, listO (strValues l) 0)] h₁ := ⟨F₁, N₁⟩
  rw [hlm] at hv
  have hll : (strValues l).length = (Txt.lines X).length := StrsAre.length hv
  refine args_nil (call_deque (s := ⟨h₁, g, d, k₁, os⟩) hh hL₁ (by rw [sizeLine_eq]; omega) fun dq h₂ hdq ho₂ hk₂ => ?_)
  dsimp only at hdq hk₂ ⊢
  have S₂ := S₁.more hk₂ ho₂ (by rw [hdq]; exact Heap.get?_out (Nat.le_refl _))
  refine sto S₂ fun h₃ tk₃ S₃ => ?_
  refine wpAny_execs_cons (wpAny_Assign_Name (List_ (args_nil ?_)))
  refine dispL S₃ (x := []) .nil (by show 0 ≤ 1000; omega) fun la h₄ N₄ S₄ k₄ L₄ => ?_
  refine sto S₄ fun h₅ tk₅ S₅ => ?_
  refine wpAny_execs_cons (wpAny_Assign_Name (wpAny_Constant_none (sto S₅ fun h₆ tk₆ S₆ => ?_)))
  have I₆ : IS base L _ N₄ h₆ dn dq la (Txt.lines X) [] none := ⟨S₆, by rfl, by rfl, by exact mI, by rfl, ⟨_, _, k₄ _ (.head _), hv⟩, L₄⟩
  refine wpAny_execs_cons (wpAny_While ?_)
  refine codeAny_whileLoop (fun cnt s' => ∃ h' tk' m' N' rest out wt o', s' = ⟨h', g, d, tk', os⟩ ∧ cnt = rest.length ∧ IS base L m' N' h' dn dq la rest out wt ∧ Runs (nmOf kvs) rest wt o' ∧ out ++ o' = o ∧ (∀ y ∈ rest, y.length ≤ 1000) ∧ rest.length ≤ 8000) ?_ _ ⟨_, _, _, _, _, _, _, _, rfl, rfl, I₆, R, rfl, hl, hr⟩
  rintro cnt s' ⟨h', tk', m', N', rest, out, wt, o', rfl, rfl, I', R', ho', hl', hr'⟩
  refine wpAny_isTrue_value (loc I'.S I'.dqv (truDq I'.S I'.dqL (by omega) fun tk₇ => ?_))
  cases rest with
  | nil =>
    rw [if_neg (by simp)]
    cases R'
    refine wpAny_execs_nil ?_
    rw [List.append_nil] at ho'
    subst ho'
    refine wpAny_execs_cons (wpAny_Return_some (Call_method1 rfl rfl rfl (cStr (joinL (loc I'.S I'.lav ⟨_, _, _, rfl, rfl, I'.S, I'.laL, ?_, fun t' tk' => ?_⟩)))))
    · rw [show (Str.ofString "\n").length = 1 from by decide +kernel]; exact hjo
    · exact q _ _ _ I'.S.F.keep
  | cons x r =>
    rw [if_pos (by simp)]
    refine iTurn B T I' R' ho' hlo (by rw [List.length_cons] at hr'; omega) hl' fun fl h'' tk'' m'' N'' r' out' wt' o'' hfl hlen hsub I'' R'' ho'' => ?_
    have back : ∃ n, n < (x :: r).length ∧ ∃ h' tk' m' N' rest out wt o', (⟨h'', g, d, tk'', os⟩ : Shared) = ⟨h', g, d, tk', os⟩ ∧ n = rest.length ∧ IS base L m' N' h' dn dq la rest out wt ∧ Runs (nmOf kvs) rest wt o' ∧ out ++ o' = o ∧ (∀ y ∈ rest, y.length ≤ 1000) ∧ rest.length ≤ 8000 :=
      ⟨r'.length, by rw [List.length_cons]; omega, h'', tk'', m'', N'', r', out', wt', o'', rfl, rfl, I'', R'', ho'', fun y hy => hl' y (.tail _ (hsub y hy)), by rw [List.length_cons] at hr'; omega⟩
    rcases hfl with rfl | rfl
    · exact back
    · exact back
end
end Inj
end
section
open PySem PySem.W PyProof.Rows
namespace Inj
def first : List Str := ["The first line.", ""]
def last : List Str := [" :param other: the last", "", "The end."]
def rowsG (nm : Str → Option Str) (xs : List Int) : List Str := first ++ docG nm 0 xs none ++ last
def rowsD (nm : Str → Option Str) (xs : List Int) : List Str := first ++ docD nm 0 xs none ++ waitD (docW nm 0 xs none) ++ last
/-- what the plain law must give -/
structure PL (nm : Str → Option Str) (G D : List Str) : Prop where
  lines : Txt.lines (Txt.join "\n" G) = G
  runs : Runs nm G none D
  gl : G.length ≤ 400
  dl : D.length ≤ 400
  gm : ∀ y ∈ G, y.length ≤ 200
  dm : ∀ y ∈ D, y.length ≤ 200
theorem sum_le {l : List Str} {k : Nat} (h : ∀ y ∈ l, y.length ≤ k) : (l.map (·.length)).sum ≤ l.length * k := by
  induction l with
  | nil => simp
  | cons x r ih =>
    have h1 := h x (.head _)
    have h2 := ih fun y hy => h y (.tail _ hy)
    rw [List.map_cons, List.sum_cons, List.length_cons, Nat.succ_mul]
    omega
theorem join_len (ys : List Str) : (Txt.join "\n" ys).length ≤ (ys.map (·.length)).sum + ys.length := by
  have h := StrLaws.join_length_le "\n" ys
  rw [show (Str.ofString "\n").length = 1 from by decide +kernel, Nat.mul_one] at h
  show (Builtin.Str.glued "\n" ys).length ≤ _
  rw [StrLaws.glued_eq_join]
  exact h
section
variable {prog : Program} {w : World} {A : Around} {E : Value → Shared → Prop} {h : Heap} {g : Array GenState} {d : Drawn} {tk : Nat} {os : OsState} {mg mb : Str → Option Value}
  {base : Heap} {m : Str → Option Value} {N : List (Addr × Obj)} {L dn : Addr}
theorem inject_call {kvs : List (Str × Value)} {G D : List Str} {t : Tok} {Q : Value → Shared → Prop} (B : Bs mg mb base) (S : St base L m N h) (hA : A.depth < recursionLimit) (hh : A.handled = none) (T : DT prog w dn N kvs) (P : PL (nmOf kvs) G D)
    (q : ∀ t' h' tk', St base L m N h' → Q (.str (Txt.join "\n" D) t') ⟨h', g, d, tk', os⟩) : wpAny (model prog w) A (call (.ref 54) [.str (Txt.join "\n" G) t, .ref dn]) Q E ⟨h, g, d, tk, os⟩ := by
  have B' := B.keeps S.F.keep
  refine call_fn (binds := [("doctext", .str (Txt.join "\n" G) t), ("inject_params", .ref dn)]) hA B'.fInj B'.lim (fun _ _ _ => by rfl) (locs (by rfl)) (fun h₁ cd F => ?_) (by rfl) (by rfl) (by rfl) (by decide)
  have T' : TD prog w h dn kvs := ⟨let ⟨o, ho, hd⟩ := T.at_; Heap.dictOf_iff.mpr ⟨o, (S.N _ ho).1, hd⟩, T.mods, T.named⟩
  have s1 := sum_le P.gm
  have s2 := sum_le P.dm
  have gl := P.gl
  have dl := P.dl
  have jl := join_len G
  refine inject_body (o := D) B' T' ⟨F, News.nil⟩ hh (by rfl) (by rfl) (by omega) (by rw [P.lines]; exact P.runs) (by omega) (by rw [P.lines]; omega) (by rw [P.lines]; exact fun y hy => Nat.le_trans (P.gm y hy) (by omega)) (by omega) fun t' h' tk' K => ?_
  exact q _ _ _ (S.ext K)
set_option maxHeartbeats 4000000 in
theorem law_body {f l : Addr} {cd : Value} {vs : List Value} {ns : List Int} {Q : Flow → Shared → Prop} (B : Bs mg mb base) (S : St base L m [] h) (hA : A.depth < recursionLimit) (hh : A.handled = none)
    (hl : base.IsList l vs.toArray) (hi : IntsAre vs ns) (hsz : ns.length ≤ 63) (m1 : m "script" = some (.ref l))
    (plain : ∀ kvs, Named kvs → PL (nmOf kvs) (rowsG (nmOf kvs) (ns.take 10)) (rowsD (nmOf kvs) (ns.take 10)))
    (q : ∀ h' tk', Keeps base h' → Q (.ret (.bool true)) ⟨h', g, d, tk', os⟩) :
    wpAny (model prog w) A (execs lawB (lawE L f cd)) Q E ⟨h, g, d, tk, os⟩ := by
  show wpAny (model prog w) A (execs [nth lawB 0, nth lawB 1, nth lawB 2, nth lawB 3, nth lawB 4, nth lawB 5, nth lawB 6, nth lawB 7] (lawE L f cd)) Q E ⟨h, g, d, tk, os⟩
  have hbig : sysModules < base.objs.size := by
    obtain ⟨o, _, _, _, ho, _⟩ := B.fInj
    have := Heap.lt_size ho
    show 1 < base.objs.size
    exact Nat.lt_trans (by decide) this
  refine wpAny_execs_cons (wpAny_Assign_Name (Dict_empty_made2 (s := ⟨h, g, d, tk, os⟩) S.F S.N hbig fun h₁ o F₁ N₁ hmods hd _ _ _ _ => ?_))
  dsimp only at N₁ hmods ⊢
  have S₁ : St base L m [(h.objs.size, o)] h₁ := ⟨F₁, N₁⟩
  generalize h.objs.size = dn at S₁ hmods ⊢
  refine sto S₁ fun h₂ tk₂ S₂ => ?_
  refine wpAny_execs_cons (named_loop B S₂ hA hh hl hi hsz (by exact m1) (by rfl) (.head _) hd fun h₃ tk₃ m₃ o₃ kvs S₃ hd₃ hc₃ hn₃ ms₃ md₃ => ?_)
  have P := plain kvs hn₃
  have T₃ : DT prog w dn [(dn, o₃)] kvs := ⟨⟨o₃, .head _, hd₃⟩, hmods, hn₃⟩
  refine wpAny_execs_cons (Assign_Tuple_swapped (names := ["given", "due", "waits"]) (Tuple_ (args_cons (List_ (args_cons (cStr (args_cons (cStr (args_nil ?_)))))))))
  refine dispL S₃ (x := first) (.cons _ _ (.cons _ _ .nil)) (by show 2 ≤ 1000; omega) fun a₁ h₄ N₄ S₄ k₄ L₄ => ?_
  refine args_cons (List_ (args_cons (cStr (args_cons (cStr (args_nil ?_))))))
  refine dispL S₄ (x := first) (.cons _ _ (.cons _ _ .nil)) (by show 2 ≤ 1000; omega) fun a₂ h₅ N₅ S₅ k₅ L₅ => ?_
  refine args_cons (wpAny_Constant_none (args_nil ?_))
  refine mkT S₅ (by show 3 ≤ 1000; omega) fun a₃ h₆ S₆ => ?_
  refine unpkT S₆ (.head _) hh rfl fun h₇ S₇ => ?_
  refine assignInOrder_cons (bindName_ (sto S₇ fun h₈ tk₈ S₈ => ?_))
  refine assignInOrder_cons (bindName_ (sto S₈ fun h₉ tk₉ S₉ => ?_))
  refine assignInOrder_cons (bindName_ (sto S₉ fun h₁₀ tk₁₀ S₁₀ => assignInOrder_nil ?_))
  have kk : ∀ p ∈ [(dn, o₃)], p ∈ (a₃, tupObj [.ref a₁, .ref a₂, .none]) :: N₅ := fun p hp => .tail _ (k₅ _ (k₄ _ hp))
  have X₁₀ : LM (upd (upd (upd m₃ "waits" .none) "due" (.ref a₂)) "given" (.ref a₁)) l dn ((a₃, tupObj [.ref a₁, .ref a₂, .none]) :: N₅) first first none :=
    ⟨by exact ms₃, by exact md₃, ⟨a₁, by rfl, (L₄.mono k₅).more _⟩, ⟨a₂, by rfl, L₅.more _⟩, by rfl⟩
  refine wpAny_execs_cons (blocks_loop B S₁₀ hA hh hl hi hsz X₁₀ (T₃.mono kk) (by decide) (by decide) fun h₁₁ tk₁₁ m₁₁ N₁₁ S₁₁ T₁₁ X₁₁ => ?_)
  have gl := P.gl
  have dl := P.dl
  have lG : (first ++ docG (nmOf kvs) 0 (ns.take 10) none).length ≤ 400 := by unfold rowsG at gl; rw [List.length_append] at gl; omega
  have lD : (first ++ docD (nmOf kvs) 0 (ns.take 10) none).length ≤ 400 := by unfold rowsD at dl; rw [List.length_append, List.length_append] at dl; omega
  refine wpAny_execs_cons (wpAny_Assign_Name (List_ (args_cons (cStr (args_cons (cStr (args_cons (cStr (args_nil ?_)))))))))
  refine dispL S₁₁ (x := last) (.cons _ _ (.cons _ _ (.cons _ _ .nil))) (by show 3 ≤ 1000; omega) fun a h₁₂ N₁₂ S₁₂ k₁₂ L₁₂ => ?_
  refine sto S₁₂ fun h₁₃ tk₁₃ S₁₃ => ?_
  have X₁₃ := (X₁₁.mono k₁₂).put (x := "last") (v := .ref a) (by decide)
  obtain ⟨ag, mg', sg⟩ := X₁₃.given
  refine wpAny_execs_cons (wpAny_Assign_Name (wpAny_BinOp (loc S₁₃ mg' (loc S₁₃ (v := .ref a) (by rfl) (addL S₁₃ sg L₁₂ (by show _ + 3 ≤ _; omega) fun c h₁₄ N₁₄ S₁₄ k₁₄ L₁₄ => ?_)))))
  refine stoGiven S₁₄ (X₁₃.mono k₁₄) L₁₄ fun h₁₅ tk₁₅ S₁₅ X₁₅ => ?_
  have ml : upd (upd m₁₁ "last" (.ref a)) "given" (.ref c) "last" = some (.ref a) := by rfl
  have L₁₅ := L₁₂.mono k₁₄
  obtain ⟨ad, md, sd⟩ := X₁₅.due
  generalize upd (upd m₁₁ "last" (.ref a)) "given" (.ref c) = m₁₅ at S₁₅ X₁₅ ml md
  refine wpAny_execs_cons (wpAny_Assign_Name (wpAny_BinOp (wpAny_BinOp (loc S₁₅ md (waitsIf S₁₅ X₁₅.waits fun c' h₁₆ N₁₆ tk₁₆ S₁₆ k₁₆ L₁₆ => ?_)))))
  have lw : (waitD (docW (nmOf kvs) 0 (ns.take 10) none)).length ≤ 3 := by cases docW (nmOf kvs) 0 (ns.take 10) none <;> simp [waitD]
  refine addL S₁₆ (sd.mono k₁₆) L₁₆ (by omega) fun c₂ h₁₇ N₁₇ S₁₇ k₁₇ L₁₇ => ?_
  refine loc S₁₇ ml (addL S₁₇ L₁₇ ((L₁₅.mono k₁₆).mono k₁₇) (by rw [List.length_append]; show _ + 3 ≤ _; omega) fun c₃ h₁₈ N₁₈ S₁₈ k₁₈ L₁₈ => ?_)
  have kN : ∀ p ∈ N₁₄, p ∈ N₁₈ := fun p hp => k₁₈ _ (k₁₇ _ (k₁₆ _ hp))
  refine stoDue S₁₈ (X₁₅.mono kN) L₁₈ fun h₁₉ tk₁₉ S₁₉ X₁₉ => ?_
  obtain ⟨ag', mg'', sg'⟩ := X₁₉.given
  obtain ⟨ad', md', sd'⟩ := X₁₉.due
  have T₁₉ := T₁₁.mono (N' := N₁₈) fun p hp => kN _ (k₁₄ _ (k₁₂ _ hp))
  have s1 := sum_le P.gm
  have s2 := sum_le P.dm
  have n1 : (Str.ofString "\n").length = 1 := by decide +kernel
  obtain ⟨oi, pmi, ci, doci, hoi, hdi, _⟩ := (B.keeps S₁₉.F.keep).fInj
  refine wpAny_execs_cons (wpAny_Return_some (wpAny_Compare1 (Call_ (glo S₁₉ B B.gInj (PyProof.Rows.callWith_def (o := oi) hdi (args_cons (Call_method1 rfl rfl rfl (cStr (joinL (ys := rowsG (nmOf kvs) (ns.take 10)) (loc S₁₉ mg'' ⟨_, _, _, rfl, rfl, S₁₉, sg', ?_, fun t₂₀ tk₂₀ => ?_⟩)))))))) (by with_unfolding_all rfl)))
  · rw [n1]; omega
  refine args_cons (loc S₁₉ X₁₉.named (args_nil ⟨hoi, inject_call B S₁₉ hA hh T₁₉ P fun t₂₁ h₂₁ tk₂₁ S₂₁ => ?_⟩))
  refine Call_method1 rfl rfl rfl (cStr (joinL (ys := rowsD (nmOf kvs) (ns.take 10)) (loc S₂₁ md' ⟨_, _, _, rfl, rfl, S₂₁, sd', ?_, fun t₂₂ tk₂₂ => ?_⟩)))
  · rw [n1]; omega
  refine PyProof.Rows.eq_str ?_
  rw [show (Txt.join "\n" (rowsD (nmOf kvs) (ns.take 10)) == Txt.join "\n" (rowsD (nmOf kvs) (ns.take 10))) = true from beq_self_eq_true _]
  exact q _ _ S₂₁.F.keep
end
end Inj
end
section
open PySem PySem.W PyProof.Rows
namespace Inj
def intOf : Value → Option Nat | .int (.ofNat n) 0 => some n | _ => none
def chkP (x : Str) (i : Nat) (n : Str) : Bool :=
  match reS 2 (reM paramCode.toArray 2 x) with
  | some (some (_, [_, _, v0, v1, v2, v3])) => intOf v0 == some 0 && intOf v1 == some i &&
    match intOf v2, intOf v3 with
    | some b, some e => decide (n.cps = x.cps.extract b e) && decide (i ≤ x.length) && decide (i < 20)
    | _, _ => false
  | _ => false
def chkN (x : Str) : Bool := match reS 2 (reM paramCode.toArray 2 x) with | some none => true | _ => false
def chkT (x : Str) (i : Nat) : Bool :=
  match reS 1 (reM twinCode.toArray 1 x) with
  | some (some (_, [_, _, v0, v1])) => intOf v0 == some 0 && intOf v1 == some i && decide (i ≤ x.length) && decide (i < 20)
  | _ => false
def chkTN (x : Str) : Bool := match reS 1 (reM twinCode.toArray 1 x) with | some none => true | _ => false
theorem intOf_eq {v : Value} {n : Nat} (h : intOf v = some n) : v = .int (n : Int) 0 := by
  unfold intOf at h
  split at h
  · cases h; rfl
  · cases h
theorem chkP_parm {x : Str} {i : Nat} {n : Str} (h : chkP x i n = true) : Parm x (some (i, n)) := by
  unfold chkP at h
  split at h
  · rename_i li z hd v0 v1 v2 v3 heq
    rw [Bool.and_eq_true, Bool.and_eq_true] at h
    obtain ⟨⟨h0, h1⟩, h2⟩ := h
    split at h2
    · rename_i b e hb he
      rw [Bool.and_eq_true, Bool.and_eq_true, decide_eq_true_eq, decide_eq_true_eq, decide_eq_true_eq] at h2
      have e0 := intOf_eq (by simpa using h0)
      have e1 := intOf_eq (by simpa using h1)
      have e2 := intOf_eq hb
      have e3 := intOf_eq he
      subst e0 e1 e2 e3
      exact ⟨li, z, hd, b, e, heq, by rw [← h2.1.1], h2.1.2, h2.2⟩
    · cases h2
  · cases h
theorem chkN_parm {x : Str} (h : chkN x = true) : Parm x none := by
  unfold chkN at h
  split at h
  · assumption
  · cases h
theorem chkT_twin {x : Str} {i : Nat} (h : chkT x i = true) : Twin x (some i) := by
  unfold chkT at h
  split at h
  · rename_i li z hd v0 v1 heq
    rw [Bool.and_eq_true, Bool.and_eq_true, Bool.and_eq_true, decide_eq_true_eq, decide_eq_true_eq] at h
    obtain ⟨⟨⟨h0, h1⟩, h2⟩, h3⟩ := h
    have e0 := intOf_eq (by simpa using h0)
    have e1 := intOf_eq (by simpa using h1)
    subst e0 e1
    exact ⟨li, z, hd, heq, h2, h3⟩
  · cases h
theorem chkTN_twin {x : Str} (h : chkTN x = true) : Twin x none := by
  unfold chkTN at h
  split at h
  · assumption
  · cases h
def headS (e st : Nat) (n : Str) (wd : Bool) : Str := sp (e + 1) ++ ":param " ++ lawStars.getD st Str.empty ++ n ++ ":" ++ (if wd = true then (" words: more" : Str) else "")
theorem t1 : chkP (headS 0 0 "echo" false) 1 "echo" = true := by decide +kernel
end Inj
end
section
open PySem PySem.W PyProof.Rows
namespace Inj
theorem n1 : ((List.range 9).all fun j => chkN (sp j ++ "further words") && chkN (sp j ++ "as here::") && chkN (sp j ++ "    x = 1") && chkN (sp j ++ "    y = 2") && chkN (sp j ++ "no blank line")) = true := by decide +kernel
theorem n2 : ((List.range 6).all fun j => chkN (sp j ++ "plain words") && chkN (sp j ++ ":returns: :param:")) = true := by decide +kernel
theorem n3 : (chkN "" && chkN "  " && chkN "The first line." && chkN "The end.") = true := by decide +kernel
theorem n4 : chkP " :param other: the last" 1 "other" = true := by decide +kernel
theorem w1 : ((List.range 8).all fun j => chkT (sp (j + 1) ++ "further words") (j + 1) && chkT (sp (j + 1) ++ "as here::") (j + 1) && chkT (sp (j + 1) ++ "no blank line") (j + 1)) = true := by decide +kernel
theorem w2 : (chkTN "" && chkTN "  ") = true := by decide +kernel
theorem r1 : ((List.range 9).all fun j => (["further words", "as here::", "    x = 1", "    y = 2", "no blank line"] : List Str).all fun c => decide ((Txt.rstrip (sp j ++ c)).length ≠ 0)) = true := by decide +kernel
theorem r2 : (decide ((Txt.rstrip "").length = 0) && decide ((Txt.rstrip "  ").length = 0)) = true := by decide +kernel
theorem e1 : ((List.range 9).all fun j => (["further words", "    x = 1", "    y = 2", "no blank line"] : List Str).all fun c => !Txt.endswith (sp j ++ c) "::") = true := by decide +kernel
theorem e2 : ((List.range 9).all fun j => Txt.endswith (sp j ++ "as here::") "::") = true := by decide +kernel
theorem s1 : ((List.range 3).all fun s => lawNames.all fun n => decide (Txt.lstripChars (lawStars.getD s Str.empty ++ n) "*" = n)) = true := by decide +kernel
theorem s2 : Txt.lstripChars "other" "*" = "other" := by decide +kernel
end Inj
end
section
open PySem PySem.W PyProof.Rows
namespace Inj
def chkH (s : Nat) (n : Str) : Bool := (List.range 5).all fun e => chkP (headS e s n false) (e + 1) (lawStars.getD s Str.empty ++ n) && chkP (headS e s n true) (e + 1) (lawStars.getD s Str.empty ++ n)
theorem h_0_echo : chkH 0 "echo" = true := by decide +kernel
theorem h_0_pool : chkH 0 "pool" = true := by decide +kernel
theorem h_0_args : chkH 0 "args" = true := by decide +kernel
theorem h_0_kw : chkH 0 "kw" = true := by decide +kernel
theorem h_0_other : chkH 0 "other" = true := by decide +kernel
theorem h_0_note : chkH 0 "note" = true := by decide +kernel
theorem h_1_echo : chkH 1 "echo" = true := by decide +kernel
theorem h_1_pool : chkH 1 "pool" = true := by decide +kernel
theorem h_1_args : chkH 1 "args" = true := by decide +kernel
theorem h_1_kw : chkH 1 "kw" = true := by decide +kernel
theorem h_1_other : chkH 1 "other" = true := by decide +kernel
theorem h_1_note : chkH 1 "note" = true := by decide +kernel
theorem h_2_echo : chkH 2 "echo" = true := by decide +kernel
theorem h_2_pool : chkH 2 "pool" = true := by decide +kernel
theorem h_2_args : chkH 2 "args" = true := by decide +kernel
theorem h_2_kw : chkH 2 "kw" = true := by decide +kernel
theorem h_2_other : chkH 2 "other" = true := by decide +kernel
theorem h_2_note : chkH 2 "note" = true := by decide +kernel
theorem heads : ∀ s, s < 3 → ∀ n ∈ lawNames, chkH s n = true := by
  have : ∀ n ∈ lawNames, chkH 0 n = true ∧ chkH 1 n = true ∧ chkH 2 n = true := by
    intro n hn
    unfold lawNames at hn
    simp only [List.mem_cons, List.not_mem_nil, or_false] at hn
    rcases hn with rfl | rfl | rfl | rfl | rfl | rfl
    · exact ⟨h_0_echo, h_1_echo, h_2_echo⟩
    · exact ⟨h_0_pool, h_1_pool, h_2_pool⟩
    · exact ⟨h_0_args, h_1_args, h_2_args⟩
    · exact ⟨h_0_kw, h_1_kw, h_2_kw⟩
    · exact ⟨h_0_other, h_1_other, h_2_other⟩
    · exact ⟨h_0_note, h_1_note, h_2_note⟩
  intro s hs n hn
  obtain ⟨h0, h1, h2⟩ := this n hn
  rcases s with _ | _ | _ | s
  · exact h0
  · exact h1
  · exact h2
  · omega
theorem head_parm {e s : Nat} {n : Str} {wd : Bool} (he : e < 5) (hs : s < 3) (hn : n ∈ lawNames) : Parm (headS e s n wd) (some (e + 1, lawStars.getD s Str.empty ++ n)) := by
  have h := heads s hs n hn
  unfold chkH at h
  rw [List.all_eq_true] at h
  have h' := h e (List.mem_range.mpr he)
  rw [Bool.and_eq_true] at h'
  cases wd
  · exact chkP_parm h'.1
  · exact chkP_parm h'.2
theorem head_strip {s : Nat} {n : Str} (hs : s < 3) (hn : n ∈ lawNames) : Txt.lstripChars (lawStars.getD s Str.empty ++ n) "*" = n := by
  have h := s1
  rw [List.all_eq_true] at h
  have h' := h s (List.mem_range.mpr hs)
  rw [List.all_eq_true] at h'
  exact of_decide_eq_true (h' n hn)
end Inj
end
section
open PySem PySem.W PyProof.Rows
namespace Inj
theorem all_range {n : Nat} {f : Nat → Bool} (h : (List.range n).all f = true) {j : Nat} (hj : j < n) : f j = true := List.all_eq_true.mp h j (List.mem_range.mpr hj)
-- ## the single lines
theorem p_further {j : Nat} (hj : j < 9) : Parm (sp j ++ "further words") none := by
  have h := all_range n1 hj; simp only [Bool.and_eq_true] at h; exact chkN_parm h.1.1.1.1
theorem p_asHere {j : Nat} (hj : j < 9) : Parm (sp j ++ "as here::") none := by
  have h := all_range n1 hj; simp only [Bool.and_eq_true] at h; exact chkN_parm h.1.1.1.2
theorem p_x {j : Nat} (hj : j < 9) : Parm (sp j ++ "    x = 1") none := by
  have h := all_range n1 hj; simp only [Bool.and_eq_true] at h; exact chkN_parm h.1.1.2
theorem p_y {j : Nat} (hj : j < 9) : Parm (sp j ++ "    y = 2") none := by
  have h := all_range n1 hj; simp only [Bool.and_eq_true] at h; exact chkN_parm h.1.2
theorem p_noBlank {j : Nat} (hj : j < 9) : Parm (sp j ++ "no blank line") none := by
  have h := all_range n1 hj; simp only [Bool.and_eq_true] at h; exact chkN_parm h.2
theorem p_plain {j : Nat} (hj : j < 6) : Parm (sp j ++ "plain words") none := by
  have h := all_range n2 hj; simp only [Bool.and_eq_true] at h; exact chkN_parm h.1
theorem p_returns {j : Nat} (hj : j < 6) : Parm (sp j ++ ":returns: :param:") none := by
  have h := all_range n2 hj; simp only [Bool.and_eq_true] at h; exact chkN_parm h.2
theorem p_blank0 : Parm "" none := by have h := n3; simp only [Bool.and_eq_true] at h; exact chkN_parm h.1.1.1
theorem p_blank2 : Parm "  " none := by have h := n3; simp only [Bool.and_eq_true] at h; exact chkN_parm h.1.1.2
theorem p_first : Parm "The first line." none := by have h := n3; simp only [Bool.and_eq_true] at h; exact chkN_parm h.1.2
theorem p_end : Parm "The end." none := by have h := n3; simp only [Bool.and_eq_true] at h; exact chkN_parm h.2
theorem p_last : Parm " :param other: the last" (some (1, "other")) := chkP_parm n4
theorem t_further {j : Nat} (hj : j < 8) : Twin (sp (j + 1) ++ "further words") (some (j + 1)) := by
  have h := all_range w1 hj; simp only [Bool.and_eq_true] at h; exact chkT_twin h.1.1
theorem t_asHere {j : Nat} (hj : j < 8) : Twin (sp (j + 1) ++ "as here::") (some (j + 1)) := by
  have h := all_range w1 hj; simp only [Bool.and_eq_true] at h; exact chkT_twin h.1.2
theorem t_noBlank {j : Nat} (hj : j < 8) : Twin (sp (j + 1) ++ "no blank line") (some (j + 1)) := by
  have h := all_range w1 hj; simp only [Bool.and_eq_true] at h; exact chkT_twin h.2
theorem Blk.blank_cases (p : Blk) : p.blank = "" ∨ p.blank = "  " := by
  unfold Blk.blank
  cases p.b
  · exact .inl rfl
  · exact .inr rfl
theorem Blk.p_blank (p : Blk) : Parm p.blank none := by
  rcases p.blank_cases with e | e <;> rw [e]
  · exact p_blank0
  · exact p_blank2
theorem Blk.t_blank (p : Blk) : Twin p.blank none := by
  have h := w2
  rw [Bool.and_eq_true] at h
  rcases p.blank_cases with e | e <;> rw [e]
  · exact chkTN_twin h.1
  · exact chkTN_twin h.2
theorem Blk.r_blank (p : Blk) : (Txt.rstrip p.blank).length = 0 := by
  have h := r2
  rw [Bool.and_eq_true] at h
  rcases p.blank_cases with e | e <;> rw [e]
  · exact of_decide_eq_true h.1
  · exact of_decide_eq_true h.2
theorem r_inner {j : Nat} (hj : j < 9) {c : Str} (hc : c ∈ (["further words", "as here::", "    x = 1", "    y = 2", "no blank line"] : List Str)) : (Txt.rstrip (sp j ++ c)).length ≠ 0 := by
  have h := all_range r1 hj
  rw [List.all_eq_true] at h
  exact of_decide_eq_true (h c hc)
theorem e_inner {j : Nat} (hj : j < 9) {c : Str} (hc : c ∈ (["further words", "    x = 1", "    y = 2", "no blank line"] : List Str)) : Txt.endswith (sp j ++ c) "::" = false := by
  have h := all_range e1 hj
  rw [List.all_eq_true] at h
  simpa using h c hc
theorem e_asHere {j : Nat} (hj : j < 9) : Txt.endswith (sp j ++ "as here::") "::" = true := all_range e2 hj
section
variable {nm : Str → Option Str} {r o : List Str}
theorem skips : ∀ {l : List Str}, (∀ x ∈ l, Parm x none) → Runs nm r none o → Runs nm (l ++ r) none (l ++ o)
  | [], _, h => h
  | x :: l, hl, h => .skip (hl x (.head _)) (skips (fun y hy => hl y (.tail _ hy)) h)
theorem Blk.j (p : Blk) (ok : p.Ok) : p.e + 1 + p.n < 9 := by have := ok.e; have := ok.n; omega
theorem Blk.rest_parm (p : Blk) (ok : p.Ok) : ∀ x ∈ p.rest, Parm x none := by
  have hj := p.j ok
  intro x hx
  unfold Blk.rest at hx
  rw [List.mem_append, List.mem_append] at hx
  rcases hx with (hx | hx) | hx
  · rw [(List.mem_replicate.mp hx).2]; exact p_further hj
  · split at hx
    · simp only [List.mem_cons, List.not_mem_nil, or_false] at hx
      rcases hx with rfl | rfl | rfl | rfl
      · exact p_asHere hj
      · exact p_blank0
      · exact p_x hj
      · exact p_y hj
    · cases hx
  · split at hx
    · rw [List.mem_singleton.mp hx]; exact p_noBlank hj
    · cases hx
theorem Blk.rest_some (p : Blk) (ok : p.Ok) {t : Str} (h : Runs nm r (some t) o) : Runs nm (p.rest ++ r) (some t) (p.rest ++ o) := by
  have hj := p.j ok
  unfold Blk.rest
  rw [List.append_assoc, List.append_assoc, List.append_assoc, List.append_assoc]
  have h3 : Runs nm ((if p.k = 3 then [p.inner ++ "no blank line"] else []) ++ r) (some t) ((if p.k = 3 then [p.inner ++ "no blank line"] else []) ++ o) := by
    split
    · exact .plain (p_noBlank hj) (r_inner hj (by simp)) (e_inner hj (by simp)) h
    · exact h
  have h2 : ∀ {r o}, Runs nm r (some t) o → Runs nm ((if p.k = 2 then [p.inner ++ "as here::", "", p.inner ++ "    x = 1", p.inner ++ "    y = 2"] else []) ++ r) (some t) ((if p.k = 2 then [p.inner ++ "as here::", "", p.inner ++ "    x = 1", p.inner ++ "    y = 2"] else []) ++ o) := by
    intro r o h
    split
    · exact .code (p_asHere hj) (r_inner hj (by simp)) (e_asHere hj) (.plain (p_x hj) (r_inner hj (by simp)) (e_inner hj (by simp)) (.plain (p_y hj) (r_inner hj (by simp)) (e_inner hj (by simp)) h))
    · exact h
  have h1 : ∀ n : Nat, ∀ {r o}, Runs nm r (some t) o → Runs nm (List.replicate n (p.inner ++ "further words") ++ r) (some t) (List.replicate n (p.inner ++ "further words") ++ o) := by
    intro n
    induction n with
    | zero => exact fun h => h
    | succ n ih => exact fun h => .plain (p_further hj) (r_inner hj (by simp)) (e_inner hj (by simp)) (ih h)
  exact h1 _ (h2 h3)
/-- the indent that the text's function takes -/
theorem Blk.indent (p : Blk) (ok : p.Ok) (hk : p.k = 3 ∨ ∃ r', r = p.blank :: r') : Indent (p.e + 1) (p.rest ++ r) (if p.rest.isEmpty then p.edge ++ " " else p.inner) := by
  have hj : p.e + p.n < 8 := by have := ok.e; have := ok.n; omega
  have ej : p.e + 1 + p.n = p.e + p.n + 1 := by omega
  have inn : p.inner = sp (p.e + p.n + 1) := by unfold Blk.inner; rw [ej]
  have oth : ∀ c : Str, Twin (sp (p.e + p.n + 1) ++ c) (some (p.e + p.n + 1)) → ∀ l : List Str, Indent (p.e + 1) ((p.inner ++ c) :: l) p.inner := fun c h l => by
    rw [inn]; exact .other h
  unfold Blk.rest
  by_cases h0 : p.rc = 0
  · rw [h0, List.replicate_zero, List.nil_append]
    by_cases h2 : p.k = 2
    · rw [if_pos h2, if_neg (by omega : ¬ p.k = 3)]
      exact oth _ (t_asHere hj) _
    · rw [if_neg h2, List.nil_append]
      by_cases h3 : p.k = 3
      · rw [if_pos h3]
        exact oth _ (t_noBlank hj) _
      · rw [if_neg h3]
        rcases hk with hk | ⟨r', rfl⟩
        · exact absurd hk h3
        · exact .own p.t_blank
  · obtain ⟨n, hn⟩ : ∃ n, p.rc = n + 1 := ⟨p.rc - 1, by omega⟩
    rw [hn, List.replicate_succ]
    exact oth _ (t_further hj) _
theorem Blk.name_mem (p : Blk) (ok : p.Ok) (w : Bool) : p.name w ∈ lawNames := by
  unfold Blk.name
  cases w
  · have h := ok.nm
    show lawNames.getD p.nm Str.empty ∈ lawNames
    rw [List.getD_eq_getElem?_getD, List.getElem?_eq_getElem (by exact h)]
    exact List.getElem_mem _
  · show (Str.ofString "other") ∈ lawNames
    unfold lawNames
    simp
theorem Blk.head_P (p : Blk) (ok : p.Ok) (w : Bool) : Parm (p.head w) (some (p.e + 1, lawStars.getD p.st Str.empty ++ p.name w)) := head_parm (wd := p.wd) ok.e ok.st (p.name_mem ok w)
theorem Blk.runs (p : Blk) (ok : p.Ok) (hn : nm "other" = none) {wt : Option Str} (h : Runs nm r (p.next nm wt) o) : Runs nm (p.gRows wt ++ r) wt (p.dRows nm wt ++ o) := by
  cases hp : p.isPlain wt with
  | true =>
    have hwt : wt = none := by
      unfold Blk.isPlain at hp
      rw [Bool.and_eq_true] at hp
      simpa using hp.2
    subst hwt
    rw [Blk.next_plain hp] at h
    rw [Blk.gRows_plain hp, Blk.dRows_plain hp]
    have he : p.e + 1 < 6 := by have := ok.e; omega
    exact .skip (p_plain he) (.skip (p_returns he) (.skip p.p_blank h))
  | false =>
    rw [Blk.next_else hp] at h
    rw [Blk.gRows_else hp, Blk.dRows_else hp]
    have tail0 : ∀ {o'}, Runs nm r none o' → Runs nm ((if p.k = 3 then [] else [p.blank]) ++ r) none ((if p.k = 3 then [] else [p.blank]) ++ o') := by
      intro o' h
      split
      · exact h
      · exact .skip p.p_blank h
    -- no text of its own
    have noText : p.text nm wt.isSome = none → Runs nm ([] ++ (p.rest ++ ((if p.k = 3 then [] else [p.blank]) ++ r))) none (p.rest ++ ((if p.k = 3 then [] else match p.text nm wt.isSome with | none => [p.blank] | some t => [p.blank, t, "\n", p.blank]) ++ o)) := by
      intro ht
      rw [ht] at h ⊢
      have h' : Runs nm r none o := by
        split at h <;> exact h
      have := skips (p.rest_parm ok) (tail0 h')
      split at this <;> split <;> first | exact this | contradiction
    cases wt with
    | some t =>
      have ht : p.text nm true = none := by
        unfold Blk.text
        rw [show p.name true = "other" from rfl, hn]; rfl
      have := noText ht
      simp only [List.append_assoc, List.nil_append, List.cons_append] at this ⊢
      exact .param (p.head_P ok true) this
    | none =>
      have hs := head_strip ok.st (p.name_mem ok false)
      cases hz : nm (p.name false) with
      | none =>
        have ht : p.text nm false = none := by unfold Blk.text; rw [hz]; rfl
        have := noText ht
        simp only [List.append_assoc, List.nil_append, List.cons_append] at this ⊢
        exact .unnamed (p.head_P ok false) (by rw [hs]; exact hz) this
      | some z =>
        have ht : p.text nm false = some ((if p.rest.isEmpty then p.edge ++ " " else p.inner) ++ z) := by unfold Blk.text; rw [hz]; rfl
        simp only [Option.isSome_none] at h ⊢
        rw [ht] at h ⊢
        simp only [List.append_assoc, List.nil_append, List.cons_append, waitD]
        have hind := p.indent (r := (if p.k = 3 then [] else [p.blank]) ++ r) ok (by
          by_cases hk : p.k = 3
          · exact .inl hk
          · rw [if_neg hk]; exact .inr ⟨r, rfl⟩)
        refine .named (p.head_P ok false) (by rw [hs]; exact hz) hind (p.rest_some ok ?_)
        by_cases hk : p.k = 3
        · rw [if_pos hk] at h
          rw [if_pos hk, if_pos hk]
          exact h
        · rw [if_neg hk] at h
          rw [if_neg hk, if_neg hk]
          exact .blank p.p_blank p.r_blank h
end
end Inj
end
section
open PySem PySem.W PyProof.Rows
namespace Inj
theorem doc_runs {nm : Str → Option Str} (hn : nm "other" = none) {tail : List Str} {o : Option Str → List Str} (ht : ∀ wt, Runs nm tail wt (o wt)) :
    ∀ (xs : List Int) (i : Nat) (wt : Option Str), Runs nm (docG nm i xs wt ++ tail) wt (docD nm i xs wt ++ o (docW nm i xs wt))
  | [], _, wt => ht wt
  | x :: r, i, wt => by
    show Runs nm (((blkOf x i).gRows wt ++ docG nm (i + 1) r ((blkOf x i).next nm wt)) ++ tail) wt (((blkOf x i).dRows nm wt ++ docD nm (i + 1) r ((blkOf x i).next nm wt)) ++ o (docW nm (i + 1) r ((blkOf x i).next nm wt)))
    rw [List.append_assoc, List.append_assoc]
    exact (blkOf x i).runs (blkOf_ok x i) hn (doc_runs hn ht r (i + 1) _)
theorem last_runs {nm : Str → Option Str} (hn : nm "other" = none) (wt : Option Str) : Runs nm last wt (waitD wt ++ last) := by
  have h2 : Runs nm ["", "The end."] none ["", "The end."] := .skip p_blank0 (.skip p_end .nil)
  cases wt with
  | none => exact .unnamed p_last (by rw [s2]; exact hn) h2
  | some t => exact .param p_last h2
theorem all_runs {nm : Str → Option Str} (hn : nm "other" = none) (xs : List Int) : Runs nm (rowsG nm xs) none (rowsD nm xs) := by
  unfold rowsG rowsD
  rw [List.append_assoc, List.append_assoc, List.append_assoc]
  exact .skip p_first (.skip p_blank0 (doc_runs hn (o := fun wt => waitD wt ++ last) (last_runs hn) xs 0 none))
-- ## sizes
theorem docG_len (nm : Str → Option Str) : ∀ (xs : List Int) (i : Nat) (wt : Option Str), (docG nm i xs wt).length ≤ 9 * xs.length
  | [], _, _ => by simp [docG]
  | x :: r, i, wt => by
    show ((blkOf x i).gRows wt ++ docG nm (i + 1) r ((blkOf x i).next nm wt)).length ≤ _
    have h1 := (blkOf x i).gRows_len (blkOf_ok x i) wt
    have h2 := docG_len nm r (i + 1) ((blkOf x i).next nm wt)
    rw [List.length_append, List.length_cons]; omega
theorem docD_len (nm : Str → Option Str) : ∀ (xs : List Int) (i : Nat) (wt : Option Str), (docD nm i xs wt).length ≤ 15 * xs.length
  | [], _, _ => by simp [docD]
  | x :: r, i, wt => by
    show ((blkOf x i).dRows nm wt ++ docD nm (i + 1) r ((blkOf x i).next nm wt)).length ≤ _
    have h1 := (blkOf x i).dRows_len (blkOf_ok x i) nm wt
    have h2 := docD_len nm r (i + 1) ((blkOf x i).next nm wt)
    rw [List.length_append, List.length_cons]; omega
/-- short, and without a line break -/
def Gd (y : Str) : Prop := y.length ≤ 100 ∧ ∀ c ∈ y.cps.toList, Unicode.isLineBreak c = false
theorem mem_append_cps {a b : Str} {c : Nat} : c ∈ (a ++ b).cps.toList ↔ c ∈ a.cps.toList ∨ c ∈ b.cps.toList := by
  show c ∈ (a.cps ++ b.cps).toList ↔ _
  rw [Array.toList_append, List.mem_append]
def gdB (n : Nat) (y : Str) : Bool := decide (y.length ≤ n) && y.cps.toList.all fun c => !Unicode.isLineBreak c
theorem gd_of {y : Str} (h : gdB 100 y = true) : Gd y := by
  unfold gdB at h
  rw [Bool.and_eq_true, decide_eq_true_eq, List.all_eq_true] at h
  exact ⟨h.1, fun c hc => by simpa using h.2 c hc⟩
theorem gd_sp {j : Nat} (hj : j < 9) {c : Str} (h : gdB 40 c = true) : Gd (sp j ++ c) := by
  unfold gdB at h
  rw [Bool.and_eq_true, decide_eq_true_eq, List.all_eq_true] at h
  refine ⟨by rw [str_append_length, sp_length]; omega, fun x hx => ?_⟩
  rcases mem_append_cps.mp hx with hx | hx
  · have : x = 32 := by
      have hx' : x ∈ (List.replicate j 32) := by simpa [sp] using hx
      exact (List.mem_replicate.mp hx').2
    subst this; decide +kernel
  · simpa using h.2 x hx
theorem gd_tail (s : Nat) (hs : s < 3) (n : Str) (hn : n ∈ lawNames) (wd : Bool) : gdB 40 (":param " ++ lawStars.getD s Str.empty ++ n ++ ":" ++ (if wd = true then (" words: more" : Str) else "")) = true := by
  have : ((List.range 3).all fun s => lawNames.all fun n => gdB 40 (":param " ++ lawStars.getD s Str.empty ++ n ++ ":" ++ (if true = true then (" words: more" : Str) else "")) && gdB 40 (":param " ++ lawStars.getD s Str.empty ++ n ++ ":" ++ (if false = true then (" words: more" : Str) else ""))) = true := by decide +kernel
  have h1 := all_range this hs
  rw [List.all_eq_true] at h1
  have h2 := h1 n hn
  rw [Bool.and_eq_true] at h2
  cases wd
  · exact h2.2
  · exact h2.1
theorem str_append_assoc (a b c : Str) : a ++ b ++ c = a ++ (b ++ c) := by
  show Str.mk ((a.cps ++ b.cps) ++ c.cps) = Str.mk (a.cps ++ (b.cps ++ c.cps))
  rw [Array.append_assoc]
theorem Blk.gd_head (p : Blk) (ok : p.Ok) (w : Bool) : Gd (p.head w) := by
  have h := gd_tail p.st ok.st (p.name w) (p.name_mem ok w) p.wd
  have he : p.e + 1 < 9 := by have := ok.e; omega
  have := gd_sp he h
  rw [← str_append_assoc, ← str_append_assoc, ← str_append_assoc, ← str_append_assoc] at this
  exact this
theorem Blk.gd_blank (p : Blk) : Gd p.blank := by
  rcases p.blank_cases with e | e <;> rw [e] <;> exact gd_of (by decide +kernel)
theorem Blk.gd_rest (p : Blk) (ok : p.Ok) : ∀ y ∈ p.rest, Gd y := by
  have hj := p.j ok
  intro x hx
  unfold Blk.rest at hx
  rw [List.mem_append, List.mem_append] at hx
  rcases hx with (hx | hx) | hx
  · rw [(List.mem_replicate.mp hx).2]; exact gd_sp hj (by decide +kernel)
  · split at hx
    · simp only [List.mem_cons, List.not_mem_nil, or_false] at hx
      rcases hx with rfl | rfl | rfl | rfl
      · exact gd_sp hj (by decide +kernel)
      · exact gd_of (by decide +kernel)
      · exact gd_sp hj (by decide +kernel)
      · exact gd_sp hj (by decide +kernel)
    · cases hx
  · split at hx
    · rw [List.mem_singleton.mp hx]; exact gd_sp hj (by decide +kernel)
    · cases hx
theorem Blk.gd_plain (p : Blk) (ok : p.Ok) : ∀ y ∈ p.plain, Gd y := by
  have he : p.e + 1 < 9 := by have := ok.e; omega
  intro y hy
  unfold Blk.plain at hy
  simp only [List.mem_cons, List.not_mem_nil, or_false] at hy
  rcases hy with rfl | rfl | rfl
  · exact gd_sp he (by decide +kernel)
  · exact gd_sp he (by decide +kernel)
  · exact p.gd_blank
theorem Blk.gd_rows (p : Blk) (ok : p.Ok) (wt : Option Str) : ∀ y ∈ p.gRows wt, Gd y := by
  intro y hy
  cases hp : p.isPlain wt with
  | true => rw [Blk.gRows_plain hp] at hy; exact p.gd_plain ok y hy
  | false =>
    rw [Blk.gRows_else hp] at hy
    simp only [List.mem_append, List.mem_singleton] at hy
    rcases hy with (rfl | hy) | hy
    · exact p.gd_head ok _
    · exact p.gd_rest ok y hy
    · split at hy
      · cases hy
      · rw [List.mem_singleton.mp hy]; exact p.gd_blank
/-- the texts are short -/
def ShortT (nm : Str → Option Str) : Prop := ∀ k z, nm k = some z → z.length ≤ 22
def ShortW (wt : Option Str) : Prop := ∀ t, wt = some t → t.length ≤ 100
theorem Blk.text_short (p : Blk) (ok : p.Ok) {nm : Str → Option Str} (hs : ShortT nm) (w : Bool) : ShortW (p.text nm w) := by
  intro t ht
  unfold Blk.text at ht
  rw [Option.map_eq_some_iff] at ht
  obtain ⟨z, hz, rfl⟩ := ht
  have := hs _ _ hz
  have l1 := p.edge_len ok
  have l2 := p.inner_len ok
  rw [str_append_length]
  split
  · rw [str_append_length, sp1_length]; omega
  · omega
theorem Blk.next_short (p : Blk) (ok : p.Ok) {nm : Str → Option Str} (hs : ShortT nm) (wt : Option Str) : ShortW (p.next nm wt) := by
  cases hp : p.isPlain wt with
  | true => rw [Blk.next_plain hp]; exact fun t h => nomatch h
  | false =>
    rw [Blk.next_else hp]
    split
    · exact p.text_short ok hs _
    · exact fun t h => nomatch h
theorem nl_len : (Str.ofString "\n").length = 1 := by decide +kernel
theorem waitD_short {wt : Option Str} (h : ShortW wt) : ∀ y ∈ waitD wt, y.length ≤ 200 := by
  intro y hy
  cases wt with
  | none => cases hy
  | some t =>
    unfold waitD at hy
    simp only [List.mem_cons, List.not_mem_nil, or_false] at hy
    rcases hy with rfl | rfl | rfl
    · rw [nl_len]; omega
    · have := h _ rfl; omega
    · rw [nl_len]; omega
theorem Blk.d_short (p : Blk) (ok : p.Ok) {nm : Str → Option Str} (hs : ShortT nm) {wt : Option Str} (hw : ShortW wt) : ∀ y ∈ p.dRows nm wt, y.length ≤ 200 := by
  intro y hy
  have gd : ∀ {y : Str}, Gd y → y.length ≤ 200 := fun h => Nat.le_trans h.1 (by omega)
  cases hp : p.isPlain wt with
  | true => rw [Blk.dRows_plain hp] at hy; exact gd (p.gd_plain ok y hy)
  | false =>
    rw [Blk.dRows_else hp] at hy
    simp only [List.mem_append, List.mem_singleton] at hy
    rcases hy with ((hy | rfl) | hy) | hy
    · exact waitD_short hw y hy
    · exact gd (p.gd_head ok _)
    · exact gd (p.gd_rest ok y hy)
    · split at hy
      · cases hy
      · have ht := p.text_short ok hs wt.isSome
        cases hx : p.text nm wt.isSome with
        | none => rw [hx] at hy; rw [List.mem_singleton.mp hy]; exact gd p.gd_blank
        | some t =>
          rw [hx] at hy
          simp only [List.mem_cons, List.not_mem_nil, or_false] at hy
          have := ht t hx
          rcases hy with e | e | e | e <;> rw [e]
          · exact gd p.gd_blank
          · omega
          · rw [nl_len]; omega
          · exact gd p.gd_blank
theorem docG_gd (nm : Str → Option Str) : ∀ (xs : List Int) (i : Nat) (wt : Option Str), ∀ y ∈ docG nm i xs wt, Gd y
  | [], _, _ => fun y hy => nomatch hy
  | x :: r, i, wt => fun y hy => by
    rcases List.mem_append.mp (show y ∈ (blkOf x i).gRows wt ++ docG nm (i + 1) r ((blkOf x i).next nm wt) from hy) with hy | hy
    · exact (blkOf x i).gd_rows (blkOf_ok x i) wt y hy
    · exact docG_gd nm r (i + 1) _ y hy
theorem docD_short {nm : Str → Option Str} (hs : ShortT nm) : ∀ (xs : List Int) (i : Nat) (wt : Option Str), ShortW wt → (∀ y ∈ docD nm i xs wt, y.length ≤ 200) ∧ ShortW (docW nm i xs wt)
  | [], _, _, hw => ⟨fun y hy => (nomatch hy), hw⟩
  | x :: r, i, wt, hw => by
    obtain ⟨h1, h2⟩ := docD_short hs r (i + 1) _ ((blkOf x i).next_short (blkOf_ok x i) hs wt)
    refine ⟨fun y hy => ?_, h2⟩
    rcases List.mem_append.mp (show y ∈ (blkOf x i).dRows nm wt ++ docD nm (i + 1) r ((blkOf x i).next nm wt) from hy) with hy | hy
    · exact (blkOf x i).d_short (blkOf_ok x i) hs hw y hy
    · exact h1 y hy
theorem first_gd : ∀ y ∈ first, Gd y := by
  intro y hy
  unfold first at hy
  simp only [List.mem_cons, List.not_mem_nil, or_false] at hy
  rcases hy with rfl | rfl <;> exact gd_of (by decide +kernel)
theorem last_gd : ∀ y ∈ last, Gd y := by
  intro y hy
  unfold last at hy
  simp only [List.mem_cons, List.not_mem_nil, or_false] at hy
  rcases hy with rfl | rfl | rfl <;> exact gd_of (by decide +kernel)
theorem rowsG_gd (nm : Str → Option Str) (xs : List Int) : ∀ y ∈ rowsG nm xs, Gd y := by
  intro y hy
  unfold rowsG at hy
  simp only [List.mem_append] at hy
  rcases hy with (hy | hy) | hy
  · exact first_gd y hy
  · exact docG_gd nm xs 0 none y hy
  · exact last_gd y hy
theorem rowsD_short {nm : Str → Option Str} (hs : ShortT nm) (xs : List Int) : ∀ y ∈ rowsD nm xs, y.length ≤ 200 := by
  intro y hy
  obtain ⟨h1, h2⟩ := docD_short hs xs 0 none (fun t h => nomatch h)
  unfold rowsD at hy
  simp only [List.mem_append] at hy
  rcases hy with ((hy | hy) | hy) | hy
  · exact Nat.le_trans (first_gd y hy).1 (by omega)
  · exact h1 y hy
  · exact waitD_short h2 y hy
  · exact Nat.le_trans (last_gd y hy).1 (by omega)
end Inj
end
section
open PySem PySem.W PyProof.Rows PySem.StrLaws PySem.Builtin PySem.Builtin.Str
namespace Inj
def runL (s : Str) (m cur : Nat) (st : LsSt) : LsSt := Id.run (forIn (m := Id) (List.range' cur m) st (lsBody s))
def stepL (s : Str) (i : Nat) (st : LsSt) : LsSt :=
  if (decide (st.snd ≤ i) && Unicode.isLineBreak (s.cps.getD i 0)) = true then (st.fst.push (st.snd, i, lsNext s i), lsNext s i) else st
theorem runL_succ (s : Str) (m cur : Nat) (st : LsSt) : runL s (m + 1) cur st = runL s m (cur + 1) (stepL s cur st) := by
  unfold runL
  rw [List.range'_succ, List.forIn_cons]
  unfold lsBody stepL
  by_cases hc : (decide (st.snd ≤ cur) && Unicode.isLineBreak (s.cps.getD cur 0)) = true
  · simp only [hc, if_true]; rfl
  · simp only [hc, if_false, Bool.false_eq_true]; rfl
theorem runL_skip (s : Str) : ∀ (m cur : Nat) (st : LsSt), (∀ i, cur ≤ i → i < cur + m → Unicode.isLineBreak (s.cps.getD i 0) = false) → ∀ k, runL s (m + k) cur st = runL s k (cur + m) st
  | 0, cur, st, _, k => by rw [Nat.zero_add]; rfl
  | m + 1, cur, st, h, k => by
    have e : m + 1 + k = (m + k) + 1 := by omega
    rw [e, runL_succ]
    have h0 := h cur (Nat.le_refl _) (by omega)
    have hs : stepL s cur st = st := by
      unfold stepL
      rw [h0, Bool.and_false, if_neg Bool.false_ne_true]
    rw [hs, runL_skip s m (cur + 1) st (fun i h1 h2 => h i (by omega) (by omega)) k]
    congr 1
    omega
theorem getD_at {s : Str} {pre y rest : List Nat} (hs : s.cps.toList = pre ++ (y ++ rest)) {i : Nat} (h1 : pre.length ≤ i) (h2 : i < pre.length + y.length) : s.cps.getD i 0 ∈ y := by
  rw [Array.getD_eq_getD_getElem?, ← Array.getElem?_toList, hs, List.getElem?_append_right h1, List.getElem?_append_left (by omega), List.getElem?_eq_getElem (by omega)]
  exact List.getElem_mem _
theorem sub_at {s y : Str} {pre rest : List Nat} (hs : s.cps.toList = pre ++ (y.cps.toList ++ rest)) : strSub s pre.length (pre.length + y.length) = y := by
  apply Str.ext'
  apply Array.toList_inj.mp
  rw [StrLaws.strSub_toList, hs, List.drop_left, Nat.add_sub_cancel_left]
  exact List.take_left' (by simp [Str.length])
theorem len_toList (y : Str) : y.cps.toList.length = y.length := by simp [Str.length]
theorem ls_main (s : Str) : ∀ (G : List Str) (pre : List Nat) (lines : Array (Nat × Nat × Nat)), (∀ y ∈ G, ∀ c ∈ y.cps.toList, Unicode.isLineBreak c = false) → (∃ z, G.getLast? = some z ∧ 0 < z.length) →
    s.cps.toList = pre ++ (Str.join "\n" G).cps.toList →
    (lsEnd s (runL s (Str.join "\n" G).length pre.length (lines, pre.length))).map (fun (p : Nat × Nat × Nat) => strSub s p.1 p.2.1) = lines.toList.map (fun (p : Nat × Nat × Nat) => strSub s p.1 p.2.1) ++ G
  | [], _, _, _, hz, _ => by obtain ⟨z, h, _⟩ := hz; cases h
  | [y], pre, lines, hb, hz, hs => by
    replace hs : s.cps.toList = pre ++ y.cps.toList := hs
    obtain ⟨z, hz, hl⟩ := hz
    have hl : 0 < y.length := by rw [show y = z from Option.some.inj hz]; exact hl
    have hs' : s.cps.toList = pre ++ (y.cps.toList ++ []) := by rw [List.append_nil]; exact hs
    have hlen : s.length = pre.length + y.length := by rw [← len_toList s, hs, List.length_append, len_toList]
    have hr := runL_skip s y.length pre.length (lines, pre.length) (fun i h1 h2 => hb y (.head _) _ (getD_at hs' h1 (by rw [len_toList]; exact h2))) 0
    show (lsEnd s (runL s (y.length + 0) pre.length (lines, pre.length))).map _ = _
    rw [hr]
    show (lsEnd s (lines, pre.length)).map _ = _
    unfold lsEnd
    rw [if_pos (by show pre.length < s.length; omega)]
    simp only [Array.toList_push, List.map_append, List.map_cons, List.map_nil]
    rw [hlen, sub_at hs']
  | y :: z :: r, pre, lines, hb, hz, hs => by
    have ej : (Str.join "\n" (y :: z :: r)).cps.toList = y.cps.toList ++ (10 :: (Str.join "\n" (z :: r)).cps.toList) := by
      show (y ++ "\n" ++ Str.join "\n" (z :: r)).cps.toList = _
      rw [str_append_assoc]
      show (y.cps ++ ((Str.ofString "\n").cps ++ (Str.join "\n" (z :: r)).cps)).toList = _
      rw [Array.toList_append, Array.toList_append, show (Str.ofString "\n").cps.toList = [10] from by decide +kernel]
      rfl
    rw [ej] at hs
    have el : (Str.join "\n" (y :: z :: r)).length = y.length + ((Str.join "\n" (z :: r)).length + 1) := by
      rw [← len_toList, ej, List.length_append, List.length_cons, len_toList, len_toList]
    have hr := runL_skip s y.length pre.length (lines, pre.length) (fun i h1 h2 => hb y (.head _) _ (getD_at hs h1 (by rw [len_toList]; exact h2))) ((Str.join "\n" (z :: r)).length + 1)
    rw [el, hr, runL_succ]
    have h10 : s.cps.getD (pre.length + y.length) 0 = 10 := by
      rw [Array.getD_eq_getD_getElem?, ← Array.getElem?_toList, hs, List.getElem?_append_right (by omega), List.getElem?_append_right (by rw [len_toList]; omega)]
      rw [len_toList, show pre.length + y.length - pre.length - y.length = 0 by omega]
      rfl
    have hstep : stepL s (pre.length + y.length) (lines, pre.length) = (lines.push (pre.length, pre.length + y.length, pre.length + y.length + 1), pre.length + y.length + 1) := by
      unfold stepL
      have hn : lsNext s (pre.length + y.length) = pre.length + y.length + 1 := by
        unfold lsNext
        rw [h10]
        rw [show ((10 : Nat) == 13) = false from rfl, Bool.false_and, if_neg Bool.false_ne_true]
      rw [h10, hn]
      have hle : decide ((lines, pre.length).snd ≤ pre.length + y.length) = true := decide_eq_true (Nat.le_add_right _ _)
      rw [hle, show Unicode.isLineBreak 10 = true from by decide +kernel]
      rfl
    rw [hstep]
    have hs2 : s.cps.toList = (pre ++ (y.cps.toList ++ [10])) ++ (Str.join "\n" (z :: r)).cps.toList := by rw [hs]; simp
    have hp : (pre ++ (y.cps.toList ++ [10])).length = pre.length + y.length + 1 := by
      rw [List.length_append, List.length_append, len_toList]; rfl
    have ih := ls_main s (z :: r) (pre ++ (y.cps.toList ++ [10])) (lines.push (pre.length, pre.length + y.length, pre.length + y.length + 1)) (fun a ha => hb a (.tail _ ha)) (by simpa [List.getLast?_cons_cons] using hz) hs2
    rw [hp] at ih
    rw [ih]
    simp only [Array.toList_push, List.map_append, List.map_cons, List.map_nil, List.append_assoc, List.cons_append, List.nil_append]
    rw [sub_at hs]
theorem lines_join {G : List Str} (hb : ∀ y ∈ G, ∀ c ∈ y.cps.toList, Unicode.isLineBreak c = false) (hz : ∃ z, G.getLast? = some z ∧ 0 < z.length) : Txt.lines (Txt.join "\n" G) = G := by
  have ej : Txt.join "\n" G = Str.join "\n" G := StrLaws.glued_eq_join _ _
  rw [ej]
  have h := ls_main (Str.join "\n" G) G [] #[] hb hz rfl
  have e : linesOf (Str.join "\n" G) = (lineSpans (Str.join "\n" G)).map fun (p : Nat × Nat × Nat) => strSub (Str.join "\n" G) p.1 p.2.1 := by
    unfold linesOf lineCuts
    rw [List.map_map]
    apply List.map_congr_left
    intro ⟨i, j, k⟩ _
    rfl
  have h' : linesOf (Str.join "\n" G) = G := by
    rw [e, ls_eq]
    exact h
  unfold Txt.lines
  split
  · rename_i hc
    have hc' : lineCuts (Str.join "\n" G) = [(0, (Str.join "\n" G).length)] := by simpa using hc
    unfold linesOf at h'
    rw [hc'] at h'
    rw [List.map_cons, List.map_nil, strSub_whole] at h'
    exact h'
  · exact h'
end Inj
end
section
open PySem PySem.W PyProof.Rows
namespace Inj
theorem plain_law {kvs : List (Str × Value)} (hn : Named kvs) {xs : List Int} (hx : xs.length ≤ 10) : PL (nmOf kvs) (rowsG (nmOf kvs) xs) (rowsD (nmOf kvs) xs) := by
  have ho : nmOf kvs "other" = none := by
    cases h : nmOf kvs "other" with
    | none => rfl
    | some z =>
      have := (hn.nm h).1
      exact absurd this (by decide)
  have hs : ShortT (nmOf kvs) := fun k z h => texts_len (hn.nm h).2
  have g := rowsG_gd (nmOf kvs) xs
  have l1 := docG_len (nmOf kvs) xs 0 none
  have l2 := docD_len (nmOf kvs) xs 0 none
  refine ⟨lines_join (fun y hy => (g y hy).2) ⟨"The end.", ?_, by decide +kernel⟩, all_runs ho xs, ?_, ?_, fun y hy => Nat.le_trans (g y hy).1 (by omega), rowsD_short hs xs⟩
  · unfold rowsG
    rw [List.getLast?_append]
    rfl
  · show (first ++ docG (nmOf kvs) 0 xs none ++ last).length ≤ 400
    rw [List.length_append, List.length_append]
    show 2 + _ + 3 ≤ 400
    omega
  · show (first ++ docD (nmOf kvs) 0 xs none ++ waitD (docW (nmOf kvs) 0 xs none) ++ last).length ≤ 400
    have lw : (waitD (docW (nmOf kvs) 0 xs none)).length ≤ 3 := by cases docW (nmOf kvs) 0 xs none <;> simp [waitD]
    rw [List.length_append, List.length_append, List.length_append]
    show 2 + _ + _ + 3 ≤ 400
    omega
end Inj
end
namespace Inj
set_option maxRecDepth 100000 in
set_option maxHeartbeats 8000000 in
open_top hd for PySem.Challenge.rw_eu0025_01
end Inj
section
open PySem PySem.W PyProof.Rows
namespace Inj
theorem mg_of {K : Frag} {h : Heap} {mg : Str → Option Value} {x : Str} {v : Option Value} {o : Obj} {es : Array DictEntry} {ep : Nat} (X : K.In h) (g : h.Ns mainGlobals mg) (hl : K.lookup mainGlobals = some o) (hd : o.data = .dict es ep) (e : nsFind es x = v) : mg x = v := by
  obtain ⟨o', es', ep', ho, hd', _, hf⟩ := g
  have e1 := X _ _ hl
  rw [ho] at e1
  cases e1
  rw [hd] at hd'
  cases hd'
  rw [← hf x]; exact e
theorem fn_of {K : Frag} {h : Heap} {f c : Addr} {name : Str} {i : Nat} {o oc : Obj} {pm doc : Value} {vs : Array Value} {t : Tok} (X : K.In h) (hl : K.lookup f = some o)
    (hd : o.data = .func (Calls.docDef name (dparams (defAt i)) (dbody (defAt i)) (dscope (defAt i)) pm (.ref c) doc)) (hc : K.lookup c = some oc) (hv : oc.data = .fields vs) (hn : vs[1]? = some (.str name t)) : FnAt h f name i :=
  ⟨o, pm, .ref c, doc, X _ _ hl, hd, ⟨c, oc, vs, t, rfl, X _ _ hc, hv, hn⟩⟩
theorem bs_of {w : World} {h : Heap} {mg mb : Str → Option Value} (X : (hd.heap_39 w.params).In h) (g : h.Ns mainGlobals mg) (bi : h.Ns builtinsNs mb) (lim : h.NoLimit) (hb : ∀ x : Str, x ≠ "__name__" → mb x = bootBuiltins x) : Bs mg mb h where
  g := g
  bi := bi
  lim := lim
  gPick := mg_of X g rfl rfl (by rfl)
  gNames := mg_of X g rfl rfl (by rfl)
  gTexts := mg_of X g rfl rfl (by rfl)
  gStars := mg_of X g rfl rfl (by rfl)
  gInj := mg_of X g rfl rfl (by rfl)
  gDeque := mg_of X g rfl rfl (by rfl)
  gParam := mg_of X g rfl rfl (by rfl)
  gTwin := mg_of X g rfl rfl (by rfl)
  noRange := mg_of X g rfl rfl (by rfl)
  noEnum := mg_of X g rfl rfl (by rfl)
  noLen := mg_of X g rfl rfl (by rfl)
  bRange := (hb _ (by decide)).trans (by kernel_rfl)
  bEnum := (hb _ (by decide)).trans (by kernel_rfl)
  bLen := (hb _ (by decide)).trans (by kernel_rfl)
  fPick := fn_of X rfl rfl rfl rfl rfl
  fTexts := fn_of X rfl rfl rfl rfl rfl
  fStars := fn_of X rfl rfl rfl rfl rfl
  fInj := fn_of X rfl rfl rfl rfl rfl
  names := ⟨[.str "echo" _, .str "pool" _, .str "args" _, .str "kw" _, .str "other" _, .str "note" _], ⟨_, X 55 _ rfl, rfl, _, rfl⟩, .cons _ _ (.cons _ _ (.cons _ _ (.cons _ _ (.cons _ _ (.cons _ _ .nil)))))⟩
  param := ⟨_, _, X 47 _ rfl⟩
  paramC := X 46 _ (by rfl)
  twin := ⟨_, _, X 42 _ rfl⟩
  twinC := X 41 _ (by rfl)
end Inj
end
namespace Inj
theorem depthOk (env : Env) : (callerA.deeper env).depth < recursionLimit := by
  show callerA.depth + 1 < recursionLimit
  decide +kernel
end Inj
set_option maxRecDepth 100000 in
set_option maxHeartbeats 8000000 in
theorem PySem.Challenge.cw_eu0025_01_holds : PySem.Challenge.rw_eu0025_01.Holds := by
  refine Inj.hd ?_
  w_strict (k_go0
            refine Inj.law_body (Inj.bs_of (by assumption) (Top.g (by assumption)) (Top.b (by assumption)) (Top.nolimit (by assumption)) (Top.builtins (by assumption))) (Inj.St.mk (by assumption) (by assumption)) (Inj.depthOk _) rfl (by assumption) (by assumption) ?_ rfl ?_ ?_
            · omega
            · exact fun kvs hn => Inj.plain_law hn (by rw [List.length_take]; omega)
            · intro h' tk' K
              refine ⟨.inl ⟨_, .bool true, [], rfl, fun _ => ?_, .bool true, ?_, ?_⟩, K, rfl, by assumption⟩
              · rfl
              · exact postW_of (X := true) (by rfl) (w_eq_bool (k := true) (l := true) (w_res rfl) (by with_unfolding_all rfl)) rfl
              · exact unshared_nil)
